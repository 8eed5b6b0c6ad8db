/-
  What a reply holds; what the reader's readBody leaves.
-/
import Derived.Test.YbulkdlruFmtM
namespace Go.Proofs.YbulkdlruFmt
open Go.RowKit Go.Shelf Go.Extern.Stop Go.Stop Go.Extern
set_option linter.unusedVariables false
set_option linter.unusedSimpArgs false

/-- The notarization's pointer. -/
def NotAt (w : World) (T : Nat) (cf : Nat → Nat) (nv : Value) : Option PC → Prop
  | none => nv = .pointer none
  | some c => ∃ b, nv = .pointer (some ⟨b, 0, none⟩) ∧ CertX w 128 148 T cf b c
/-- What the reply's slices lead to. -/
structure Held (w : World) (T B : Nat) (cf : Nat → Nat) (ga : Option Addr) (gc : Nat) (ps : List Nat) (bs : List PB) (ga2 : Option Addr) (gc2 : Nat) (qs : List Nat) (cs : List PC) : Prop where
  n1 : ps = [] → ga = none ∧ gc = 0
  n2 : qs = [] → ga2 = none ∧ gc2 = 0
  row : PtrRow w B 62 ga gc ps
  bl : Blks w T ps bs
  row2 : PtrRow w B 123 ga2 gc2 qs
  ct : Certs w 141 147 T cf qs cs
theorem Held.same {w w' : World} {T B : Nat} {cf : Nat → Nat} {ga : Option Addr} {gc : Nat} {ps : List Nat} {bs : List PB} {ga2 : Option Addr} {gc2 : Nat} {qs : List Nat} {cs : List PC} {ex : List Nat} (h : Held w T B cf ga gc ps bs ga2 gc2 qs cs) (hs : Same ex w w') (hx : ∀ t, t = 62 ∨ t = 136 ∨ t = 123 ∨ t = 141 ∨ t = 147 → Apart w t ex) : Held w' T B cf ga gc ps bs ga2 gc2 qs cs :=
  ⟨h.n1, h.n2, own_same' h.row hs (hx 62 (by omega)), h.bl.same hs (hx 136 (by omega)), own_same' h.row2 hs (hx 123 (by omega)), h.ct.same hs (hx 141 (by omega)) (hx 147 (by omega))⟩
/-- A reply in memory. -/
def RepAt (w : World) (R T B : Nat) (cf : Nat → Nat) (bs : List PB) (cs : List PC) (nt : Option PC) : Prop :=
  ∃ ga gc ps ga2 gc2 qs nv, w.heap[R]? = some (.cells #[.slice ga ps.length gc, .slice ga2 qs.length gc2, nv] 97 (0, 0)) ∧ Held w T B cf ga gc ps bs ga2 gc2 qs cs ∧ NotAt w T cf nv nt

/-- The loops' states. -/
def BRel (I R T N cap : Nat) (f : Nat → Nat) (ee : Addr) (s0 : St) (W : World) (i : Value) (wr : World) : Prop :=
  ∃ k : Nat, i = .int .i64 (k : Int) ∧ k ≤ cnt f N 256 s0 ∧ RepAt wr R T W.heap.size (fun _ => 64) (bList f N (cntS f N 256 s0) k) [] none ∧ Rd I T N cap ee (bSt f N (cntS f N 256 s0) k) wr ∧ Same [I, R] W wr
def FRel (I R T N cap : Nat) (f : Nat → Nat) (ee : Addr) (bs : List PB) (s0 : St) (W : World) (i : Value) (wr : World) : Prop :=
  ∃ k : Nat, i = .int .i64 (k : Int) ∧ k ≤ cnt f N 2 s0 ∧ RepAt wr R T W.heap.size (fun _ => 64) bs (fList f N (cntS f N 2 s0) k) none ∧ Rd I T N cap ee (fSt f N (cntS f N 2 s0) k) wr ∧ Same [I, R] W wr

/-- What the reply is, as the plain parser has it. -/
structure PR where
  bs : List PB
  cs : List PC
  nt : Option PC
  st : St
def prS1 (f : Nat → Nat) (N : Nat) (s : St) : St := bSt f N (cntS f N 256 s) (cnt f N 256 s)
def prS2 (f : Nat → Nat) (N : Nat) (s : St) : St := fSt f N (cntS f N 2 (prS1 f N s)) (cnt f N 2 (prS1 f N s))
def parse (f : Nat → Nat) (N : Nat) (s : St) : PR :=
  ⟨bList f N (cntS f N 256 s) (cnt f N 256 s), fList f N (cntS f N 2 (prS1 f N s)) (cnt f N 2 (prS1 f N s)),
   if Ok N 1 (prS2 f N s) ∧ f (prS2 f N s).p = 1 then some (certOf f N (tk N 1 (prS2 f N s))) else none,
   if Ok N 1 (prS2 f N s) then (if f (prS2 f N s).p = 1 then certS f N (tk N 1 (prS2 f N s)) else if f (prS2 f N s).p = 0 then tk N 1 (prS2 f N s) else oth (tk N 1 (prS2 f N s))) else tk N 1 (prS2 f N s)⟩

/-- The block of a row below the base. -/
theorem row_ge {w : World} {B e k n gc : Nat} {ga : Option Addr} {xs : List Value} (h : w.ownsRow B e k (.slice ga n gc) n xs) : ∀ i ∈ ga.toList.map (·.block), B ≤ i := by
  intro i hi
  simp only [List.mem_map, Option.mem_toList] at hi
  obtain ⟨p, hp, rfl⟩ := hi
  rcases h.2 with ⟨hv, _⟩ | ⟨g, c', cur, hv, hb, _⟩
  · injection hv with e1; rw [e1] at hp; cases hp
  · injection hv with e1; rw [e1] at hp; cases hp; exact hb

/-- r.Blocks has one more. -/
theorem rep_pushB {tI I R T B gc : Nat} {ga : Option Addr} {ps : List Nat} {bs : List PB} {cs : List PC} {ga0 : Option Addr} {gc0 : Nat} {qs : List Nat} {cf : Nat → Nat} {W wr w2 w3 : World} {q : Nat} {b : PB} {ga2 : Option Addr} {gc2 : Nat} {cI : Array Value} {nv : Value} {nt : Option PC}
    (hRr : wr.heap[R]? = some (.cells #[.slice ga ps.length gc, .slice ga0 qs.length gc0, nv] 97 (0, 0))) (hH : Held wr T B cf ga gc ps bs ga0 gc0 qs cs) (hnt : nt = none) (hnv : NotAt wr T cf nv nt) (hti : tI = 90 ∨ tI = 133) (hIr : wr.heap[I]? = some (.cells cI tI (0, 0))) (hIR : I ≠ R) (h2 : BlkAt w2 T q b) (h5 : Same [I] wr w2)
    (hown' : w3.ownsRow B 62 1 (.slice ga2 (ps.length + 1) gc2) (ps.length + 1) (ps.map (fun p => .pointer (some ⟨p, 0, none⟩)) ++ [.pointer (some ⟨q, 0, none⟩)])) (hgrow : (w2.alloc (.cells #[.pointer (some ⟨q, 0, none⟩)] 62)).grownBy w3 (Value.ownBlock (.slice ga ps.length gc))) (hBW : W.heap.size ≤ B) (hsm : Same [I, R] W wr) {cI2 : Array Value} (hI2 : w2.heap[I]? = some (.cells cI2 tI (0, 0))) :
    w3.cell? ⟨R, 0, none⟩ = some (.slice ga ps.length gc) ∧ w3.frozen? ⟨R, 0, none⟩ = false ∧ RepAt (w3.setCell ⟨R, 0, none⟩ (.slice ga2 (ps.length + 1) gc2)) R T B cf (bs ++ [b]) cs nt ∧ (w3.setCell ⟨R, 0, none⟩ (.slice ga2 (ps.length + 1) gc2)).heap[I]? = w2.heap[I]? ∧ Same [I, R] W (w3.setCell ⟨R, 0, none⟩ (.slice ga2 (ps.length + 1) gc2)) ∧ Errs w2 (w3.setCell ⟨R, 0, none⟩ (.slice ga2 (ps.length + 1) gc2)) := by
  subst hnt
  have aI : ∀ t, t ≠ tI → Apart wr t [I] := fun t ht => apart_one hIr ht
  have h6 := (h5.block R (Array.getElem?_eq_some_iff.1 hRr).1 (by simp; omega)).trans hRr
  have h7 : Same [] w2 (w2.alloc (.cells #[.pointer (some ⟨q, 0, none⟩)] 62)) := Same.alloc _ _ _
  have hrow2 := (own_same' hH.row h5 (aI 62 (by omega))).alloc (.cells #[.pointer (some ⟨q, 0, none⟩)] 62)
  have h8 := grown_same hrow2 hgrow
  have h6a := (h7.block R (Array.getElem?_eq_some_iff.1 h6).1 (by simp)).trans h6
  have hA : ∀ t, t ≠ 62 → Apart (w2.alloc (.cells #[.pointer (some ⟨q, 0, none⟩)] 62)) t (ga.toList.map (·.block)) := fun t ht => apart_row hrow2 ht
  have h9 := (h8.block R (Array.getElem?_eq_some_iff.1 h6a).1 (hA 97 (by omega) R _ h6a)).trans h6a
  obtain ⟨q0, q1, q2, qf⟩ := rcells97 h9
  have h10 : Same [R] w3 (w3.setCell ⟨R, 0, none⟩ (.slice ga2 (ps.length + 1) gc2)) := Same.setCell _ _ _ _ (by simp)
  have hAR : ∀ t, t ≠ 97 → Apart w3 t [R] := fun t ht => apart_one h9 ht
  have hI3 := (h7.block I (Array.getElem?_eq_some_iff.1 hI2).1 (by simp)).trans hI2
  have hI4 := (h8.block I (Array.getElem?_eq_some_iff.1 hI3).1 (hA tI (by omega) I _ hI3)).trans hI3
  have hE0 : ∀ t, Apart w2 t [] := fun t _ _ _ => by simp
  have hbl2 : Blks w3 T (ps ++ [q]) (bs ++ [b]) := (((hH.bl.same h5 (aI 136 (by omega))).snoc h2).same h7 (hE0 136)).same h8 (hA 136 (by omega))
  have hr2 : PtrRow w3 B 123 ga0 gc0 qs := own_same' (own_same' (own_same' hH.row2 h5 (aI 123 (by omega))) h7 (hE0 123)) h8 (hA 123 (by omega))
  have hc2 : Certs w3 141 147 T cf qs cs := ((hH.ct.same h5 (aI 141 (by omega)) (aI 147 (by omega))).same h7 (hE0 141) (hE0 147)).same h8 (hA 141 (by omega)) (hA 147 (by omega))
  refine ⟨q0, qf 0, ⟨ga2, gc2, ps ++ [q], ga0, gc0, qs, nv, ?_, ⟨fun h => by simp at h, hH.n2, ?_, hbl2.same h10 (hAR 136 (by omega)), own_same' hr2 h10 (hAR 123 (by omega)), hc2.same h10 (hAR 141 (by omega)) (hAR 147 (by omega))⟩, hnv⟩, ?_, ?_, (h7.errs.trans (h8.errs (hA 120 (by omega)))).trans (h10.errs (hAR 120 (by omega)))⟩
  · rw [show (ps ++ [q]).length = ps.length + 1 by simp]
    exact r_set h9 0 _
  · unfold PtrRow
    rw [show (ps ++ [q]).length = ps.length + 1 by simp, List.map_append]
    exact own_same' hown' h10 (hAR 62 (by omega))
  · rw [hI2]
    exact (h10.block I (Array.getElem?_eq_some_iff.1 hI4).1 (by simp; omega)).trans hI4
  · have g1 : Same [I, R] W w2 := hsm.trans (h5.more (by simp))
    exact ((g1.trans (h7.more (by simp))).shed h8 (fun j hj => .inr (by have := row_ge hH.row j hj; omega))).trans (h10.more (by simp))

/-- r.Finalizations has one more. -/
theorem rep_pushF {tI I R T B gc : Nat} {ga : Option Addr} {ps : List Nat} {bs : List PB} {cs : List PC} {ga0 : Option Addr} {gc0 : Nat} {qs : List Nat} {cf : Nat → Nat} {W wr w2 w3 : World} {q : Nat} {b : PC} {ga2 : Option Addr} {gc2 : Nat} {cI : Array Value} {nv : Value} {nt : Option PC}
    (hRr : wr.heap[R]? = some (.cells #[.slice ga0 ps.length gc0, .slice ga qs.length gc, nv] 97 (0, 0))) (hH : Held wr T B cf ga0 gc0 ps bs ga gc qs cs) (hnt : nt = none) (hnv : NotAt wr T cf nv nt) (hti : tI = 90 ∨ tI = 133) (hIr : wr.heap[I]? = some (.cells cI tI (0, 0))) (hIR : I ≠ R) (h2 : CertX w2 141 147 T cf q b) (h5 : Same [I] wr w2)
    (hown' : w3.ownsRow B 123 1 (.slice ga2 (qs.length + 1) gc2) (qs.length + 1) (qs.map (fun p => .pointer (some ⟨p, 0, none⟩)) ++ [.pointer (some ⟨q, 0, none⟩)])) (hgrow : (w2.alloc (.cells #[.pointer (some ⟨q, 0, none⟩)] 123)).grownBy w3 (Value.ownBlock (.slice ga qs.length gc))) (hBW : W.heap.size ≤ B) (hsm : Same [I, R] W wr) {cI2 : Array Value} (hI2 : w2.heap[I]? = some (.cells cI2 tI (0, 0))) :
    w3.cell? ⟨R, 1, none⟩ = some (.slice ga qs.length gc) ∧ w3.frozen? ⟨R, 1, none⟩ = false ∧ RepAt (w3.setCell ⟨R, 1, none⟩ (.slice ga2 (qs.length + 1) gc2)) R T B cf bs (cs ++ [b]) nt ∧ (w3.setCell ⟨R, 1, none⟩ (.slice ga2 (qs.length + 1) gc2)).heap[I]? = w2.heap[I]? ∧ Same [I, R] W (w3.setCell ⟨R, 1, none⟩ (.slice ga2 (qs.length + 1) gc2)) ∧ Errs w2 (w3.setCell ⟨R, 1, none⟩ (.slice ga2 (qs.length + 1) gc2)) := by
  subst hnt
  have aI : ∀ t, t ≠ tI → Apart wr t [I] := fun t ht => apart_one hIr ht
  have h6 := (h5.block R (Array.getElem?_eq_some_iff.1 hRr).1 (by simp; omega)).trans hRr
  have h7 : Same [] w2 (w2.alloc (.cells #[.pointer (some ⟨q, 0, none⟩)] 123)) := Same.alloc _ _ _
  have hrow2 := (own_same' hH.row2 h5 (aI 123 (by omega))).alloc (.cells #[.pointer (some ⟨q, 0, none⟩)] 123)
  have h8 := grown_same hrow2 hgrow
  have h6a := (h7.block R (Array.getElem?_eq_some_iff.1 h6).1 (by simp)).trans h6
  have hA : ∀ t, t ≠ 123 → Apart (w2.alloc (.cells #[.pointer (some ⟨q, 0, none⟩)] 123)) t (ga.toList.map (·.block)) := fun t ht => apart_row hrow2 ht
  have h9 := (h8.block R (Array.getElem?_eq_some_iff.1 h6a).1 (hA 97 (by omega) R _ h6a)).trans h6a
  obtain ⟨q0, q1, q2, qf⟩ := rcells97 h9
  have h10 : Same [R] w3 (w3.setCell ⟨R, 1, none⟩ (.slice ga2 (qs.length + 1) gc2)) := Same.setCell _ _ _ _ (by simp)
  have hAR : ∀ t, t ≠ 97 → Apart w3 t [R] := fun t ht => apart_one h9 ht
  have hI3 := (h7.block I (Array.getElem?_eq_some_iff.1 hI2).1 (by simp)).trans hI2
  have hI4 := (h8.block I (Array.getElem?_eq_some_iff.1 hI3).1 (hA tI (by omega) I _ hI3)).trans hI3
  have hE0 : ∀ t, Apart w2 t [] := fun t _ _ _ => by simp
  have hbl2 : Blks w3 T ps bs := ((hH.bl.same h5 (aI 136 (by omega))).same h7 (hE0 136)).same h8 (hA 136 (by omega))
  have hr2 : PtrRow w3 B 62 ga0 gc0 ps := own_same' (own_same' (own_same' hH.row h5 (aI 62 (by omega))) h7 (hE0 62)) h8 (hA 62 (by omega))
  have hc2 : Certs w3 141 147 T cf (qs ++ [q]) (cs ++ [b]) := (((hH.ct.same h5 (aI 141 (by omega)) (aI 147 (by omega))).snoc h2).same h7 (hE0 141) (hE0 147)).same h8 (hA 141 (by omega)) (hA 147 (by omega))
  refine ⟨q1, qf 1, ⟨ga0, gc0, ps, ga2, gc2, qs ++ [q], nv, ?_, ⟨hH.n1, fun h => by simp at h, own_same' hr2 h10 (hAR 62 (by omega)), hbl2.same h10 (hAR 136 (by omega)), ?_, hc2.same h10 (hAR 141 (by omega)) (hAR 147 (by omega))⟩, hnv⟩, ?_, ?_, (h7.errs.trans (h8.errs (hA 120 (by omega)))).trans (h10.errs (hAR 120 (by omega)))⟩
  · rw [show (qs ++ [q]).length = qs.length + 1 by simp]
    exact r_set h9 1 _
  · unfold PtrRow
    rw [show (qs ++ [q]).length = qs.length + 1 by simp, List.map_append]
    exact own_same' hown' h10 (hAR 123 (by omega))
  · rw [hI2]
    exact (h10.block I (Array.getElem?_eq_some_iff.1 hI4).1 (by simp; omega)).trans hI4
  · have g1 : Same [I, R] W w2 := hsm.trans (h5.more (by simp))
    exact ((g1.trans (h7.more (by simp))).shed h8 (fun j hj => .inr (by have := row_ge hH.row2 j hj; omega))).trans (h10.more (by simp))
end Go.Proofs.YbulkdlruFmt
