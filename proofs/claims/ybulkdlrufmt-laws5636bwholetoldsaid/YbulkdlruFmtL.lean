/-
  Rows of pointers; what a reply holds.
-/
import Derived.Test.YbulkdlruFmtK
namespace Go.Proofs.YbulkdlruFmt
open Go.RowKit Go.Shelf Go.Extern.Stop Go.Stop Go.Extern
set_option linter.unusedVariables false
set_option linter.unusedSimpArgs false

/-- A row of pointers of the call's own. -/
def PtrRow (w : World) (B e : Nat) (ga : Option Addr) (gc : Nat) (ps : List Nat) : Prop := w.ownsRow B e 1 (.slice ga ps.length gc) ps.length (ps.map fun p => .pointer (some ⟨p, 0, none⟩))
theorem Apart.app {w : World} {t : Nat} {ex ex' : List Nat} (h : Apart w t ex) (h' : Apart w t ex') : Apart w t (ex ++ ex') := fun p c hp hm => by
  rcases List.mem_append.1 hm with h1 | h1
  · exact h p c hp h1
  · exact h' p c hp h1
theorem apart_row {w : World} {B t e k n gc : Nat} {ga : Option Addr} {xs : List Value} (h : w.ownsRow B e k (.slice ga n gc) n xs) (ht : t ≠ e) : Apart w t (ga.toList.map (·.block)) := by
  rcases h.2 with ⟨hv, _⟩ | ⟨g, c, cur, hv, _, hg, _⟩
  · cases hv
    intro p c hp hm
    simp at hm
  · cases hv
    exact apart_one hg ht
theorem own_same' {ex : List Nat} {w w' : World} {B e k n : Nat} {v : Value} {xs : List Value} (h : w.ownsRow B e k v n xs) (hs : Same ex w w') (hx : Apart w e ex) : w'.ownsRow B e k v n xs := by
  refine ⟨h.1, ?_⟩
  rcases h.2 with h0 | ⟨g, cap, cur, hv, hb, hg, hr⟩
  · exact .inl h0
  · refine .inr ⟨g, cap, cur, hv, hb, ?_, hr⟩
    rw [hs.block g (Array.getElem?_eq_some_iff.1 hg).1 (hx g _ hg)]
    exact hg
theorem own_base {w : World} {B B' e k n : Nat} {v : Value} {xs : List Value} (h : w.ownsRow B e k v n xs) (hB : B' ≤ B) : w.ownsRow B' e k v n xs := by
  refine ⟨h.1, ?_⟩
  rcases h.2 with h0 | ⟨g, cap, cur, hv, hb, hr⟩
  · exact .inl h0
  · exact .inr ⟨g, cap, cur, hv, by omega, hr⟩
theorem grown_same {w0 w w' : World} {B e k n gc : Nat} {ga : Option Addr} {xs : List Value} (h : w0.ownsRow B e k (.slice ga n gc) n xs) (hg : w.grownBy w' (Value.ownBlock (.slice ga n gc))) : Same (ga.toList.map (·.block)) w w' := by
  obtain ⟨h1, h2, h3, h4, h5⟩ := hg
  refine ⟨h1, h2, h3, h4, fun j hj hn => h5 j hj ?_⟩
  rcases h.2 with ⟨hv, _⟩ | ⟨g, c, cur, hv, _⟩
  · cases hv
    simp [Value.ownBlock]
  · cases hv
    simp [Value.ownBlock] at hn ⊢
    omega

/-- The blocks that pointers lead to. -/
def Blks (w : World) (T : Nat) (ps : List Nat) (bs : List PB) : Prop := ps.length = bs.length ∧ ∀ (i p : Nat) (b : PB), ps[i]? = some p → bs[i]? = some b → BlkAt w T p b
theorem Blks.same {w w' : World} {T : Nat} {ps : List Nat} {bs : List PB} {ex : List Nat} (h : Blks w T ps bs) (hs : Same ex w w') (hx : Apart w 136 ex) : Blks w' T ps bs :=
  ⟨h.1, fun i p b hp hb => by
    have h1 := h.2 i p b hp hb
    exact h1.same hs (by obtain ⟨c, h2⟩ := h1; exact hx p _ h2)⟩
theorem Blks.snoc {w : World} {T : Nat} {ps : List Nat} {bs : List PB} {p : Nat} {b : PB} (h : Blks w T ps bs) (hp : BlkAt w T p b) : Blks w T (ps ++ [p]) (bs ++ [b]) := by
  refine ⟨by simp [h.1], fun i q c hq hc => ?_⟩
  by_cases hi : i < ps.length
  · rw [List.getElem?_append_left hi] at hq
    rw [List.getElem?_append_left (by rw [← h.1]; exact hi)] at hc
    exact h.2 i q c hq hc
  · rw [List.getElem?_append_right (by omega)] at hq
    rw [List.getElem?_append_right (by rw [← h.1]; omega)] at hc
    rw [← h.1] at hc
    obtain ⟨rfl, rfl⟩ : p = q ∧ b = c := by
      cases h0 : i - ps.length with
      | zero => rw [h0] at hq hc; simp at hq hc; exact ⟨hq, hc⟩
      | succ m => rw [h0] at hq; simp at hq
    exact hp
/-- A certificate wherever it lies. -/
def CertX (w : World) (tS tE T : Nat) (cf : Nat → Nat) (b : Nat) (c : PC) : Prop := CertAt w tS tE 0 T cf b c.v c.h c.l
theorem CertX.same {w w' : World} {tS tE T : Nat} {cf : Nat → Nat} {b : Nat} {c : PC} {ex : List Nat} (h : CertX w tS tE T cf b c) (hs : Same ex w w') (hx : Apart w tS ex) (hx2 : Apart w tE ex) : CertX w' tS tE T cf b c := by
  obtain ⟨ga, gc, h1, h2⟩ := h
  exact ⟨ga, gc, (hs.block b (Array.getElem?_eq_some_iff.1 h1).1 (hx b _ h1)).trans h1, own_same' h2 hs hx2⟩
def Certs (w : World) (tS tE T : Nat) (cf : Nat → Nat) (ps : List Nat) (cs : List PC) : Prop := ps.length = cs.length ∧ ∀ (i p : Nat) (c : PC), ps[i]? = some p → cs[i]? = some c → CertX w tS tE T cf p c
theorem Certs.same {w w' : World} {tS tE T : Nat} {cf : Nat → Nat} {ps : List Nat} {cs : List PC} {ex : List Nat} (h : Certs w tS tE T cf ps cs) (hs : Same ex w w') (hx : Apart w tS ex) (hx2 : Apart w tE ex) : Certs w' tS tE T cf ps cs :=
  ⟨h.1, fun i p c hp hc => (h.2 i p c hp hc).same hs hx hx2⟩
theorem Certs.snoc {w : World} {tS tE T : Nat} {cf : Nat → Nat} {ps : List Nat} {cs : List PC} {p : Nat} {c : PC} (h : Certs w tS tE T cf ps cs) (hp : CertX w tS tE T cf p c) : Certs w tS tE T cf (ps ++ [p]) (cs ++ [c]) := by
  refine ⟨by simp [h.1], fun i q d hq hd => ?_⟩
  by_cases hi : i < ps.length
  · rw [List.getElem?_append_left hi] at hq
    rw [List.getElem?_append_left (by rw [← h.1]; exact hi)] at hd
    exact h.2 i q d hq hd
  · rw [List.getElem?_append_right (by omega)] at hq
    rw [List.getElem?_append_right (by rw [← h.1]; omega)] at hd
    rw [← h.1] at hd
    obtain ⟨rfl, rfl⟩ : p = q ∧ c = d := by
      cases h0 : i - ps.length with
      | zero => rw [h0] at hq hd; simp at hq hd; exact ⟨hq, hd⟩
      | succ m => rw [h0] at hq; simp at hq
    exact hp

/-- The reply's cells. -/
theorem rcells97 {w : World} {R : Nat} {a0 a1 a2 : Value} (h : w.heap[R]? = some (.cells #[a0, a1, a2] 97 (0, 0))) :
    w.cell? ⟨R, 0, none⟩ = some a0 ∧ w.cell? ⟨R, 1, none⟩ = some a1 ∧ w.cell? ⟨R, 2, none⟩ = some a2 ∧ ∀ j, w.frozen? ⟨R, j, none⟩ = false := by
  refine ⟨?_, ?_, ?_, fun j => frozen_of_row w R j _ 97 h⟩ <;> rw [cell_of_row w R _ _ 97 (0, 0) h] <;> rfl
theorem r_set {W : World} {R : Nat} {a0 a1 a2 : Value} (h : W.heap[R]? = some (.cells #[a0, a1, a2] 97 (0, 0))) (k : Nat) (v : Value) :
    (W.setCell ⟨R, k, none⟩ v).heap[R]? = some (.cells (#[a0, a1, a2].setIfInBounds k v) 97 (0, 0)) := by
  rw [heap_setCell_same W R k _ 97 _ h]

/-- The plain parser's blocks, its finalizations. -/
def bSt (f : Nat → Nat) (N : Nat) (s : St) : Nat → St
  | 0 => s
  | k + 1 => blkS f N (bSt f N s k)
def bList (f : Nat → Nat) (N : Nat) (s : St) : Nat → List PB
  | 0 => []
  | k + 1 => bList f N s k ++ [blk f N (bSt f N s k)]
def fSt (f : Nat → Nat) (N : Nat) (s : St) : Nat → St
  | 0 => s
  | k + 1 => certS f N (fSt f N s k)
def fList (f : Nat → Nat) (N : Nat) (s : St) : Nat → List PC
  | 0 => []
  | k + 1 => fList f N s k ++ [certOf f N (fSt f N s k)]
theorem bList_length (f : Nat → Nat) (N : Nat) (s : St) : ∀ k, (bList f N s k).length = k
  | 0 => rfl
  | k + 1 => by simp [bList, bList_length f N s k]
theorem fList_length (f : Nat → Nat) (N : Nat) (s : St) : ∀ k, (fList f N s k).length = k
  | 0 => rfl
  | k + 1 => by simp [fList, fList_length f N s k]

theorem info62 : (Ybaf.prog.info? 62).map (fun i => (i.zero, i.size, i.bytes)) = some (some (.pointer none), 1, 8) := by kernel_rfl
theorem info123 : (Ybaf.prog.info? 123).map (fun i => (i.zero, i.size, i.bytes)) = some (some (.pointer none), 1, 8) := by kernel_rfl
theorem ptrs_one (ps : List Nat) : ∀ u ∈ ps.map (fun p => Value.pointer (some ⟨p, 0, none⟩)), u.oneCell' = true := by
  intro u hu
  simp only [List.mem_map] at hu
  obtain ⟨p, _, rfl⟩ := hu
  rfl

theorem run_bslice62 (b : Nat) (w : World) : (Instr.buildSlice 93 1 #[(0, .pointer (some ⟨b, 0, none⟩))]).run Ybaf.prog w = .ok (.slice (some ⟨w.heap.size, 0, none⟩) 1 1) (w.alloc (.cells #[.pointer (some ⟨b, 0, none⟩)] 62)) := by kernel_rfl
theorem wp_bslice62 {w : World} {o : Oper} {a : Act} {K : Act → World → Prop} {Q : Exit → Act → World → Prop} (x : Operand) (ho : o.op = .buildSlice 93 1 #[(0, x)]) (b : Nat)
    (hx : a.eval x = .pointer (some ⟨b, 0, none⟩)) (hk : K (a.put o.dst (.slice (some ⟨w.heap.size, 0, none⟩) 1 1)) (w.alloc (.cells #[.pointer (some ⟨b, 0, none⟩)] 62))) : Oper.wp Ybaf.prog o a w K Q := by
  refine wp_value (v := .slice (some ⟨w.heap.size, 0, none⟩) 1 1) (w' := w.alloc (.cells #[.pointer (some ⟨b, 0, none⟩)] 62)) ?_ hk
  have := run_bslice62 b w
  simp [execOp, ho, hx, this, Result.andThen]

theorem run_bslice123 (b : Nat) (w : World) : (Instr.buildSlice 94 1 #[(0, .pointer (some ⟨b, 0, none⟩))]).run Ybaf.prog w = .ok (.slice (some ⟨w.heap.size, 0, none⟩) 1 1) (w.alloc (.cells #[.pointer (some ⟨b, 0, none⟩)] 123)) := by kernel_rfl
theorem wp_bslice123 {w : World} {o : Oper} {a : Act} {K : Act → World → Prop} {Q : Exit → Act → World → Prop} (x : Operand) (ho : o.op = .buildSlice 94 1 #[(0, x)]) (b : Nat)
    (hx : a.eval x = .pointer (some ⟨b, 0, none⟩)) (hk : K (a.put o.dst (.slice (some ⟨w.heap.size, 0, none⟩) 1 1)) (w.alloc (.cells #[.pointer (some ⟨b, 0, none⟩)] 123))) : Oper.wp Ybaf.prog o a w K Q := by
  refine wp_value (v := .slice (some ⟨w.heap.size, 0, none⟩) 1 1) (w' := w.alloc (.cells #[.pointer (some ⟨b, 0, none⟩)] 123)) ?_ hk
  have := run_bslice123 b w
  simp [execOp, ho, hx, this, Result.andThen]
end Go.Proofs.YbulkdlruFmt
