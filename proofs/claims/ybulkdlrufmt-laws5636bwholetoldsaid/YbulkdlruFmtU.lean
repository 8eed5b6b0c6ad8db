/-
  The law's own parser, whole.
-/
import Derived.Test.YbulkdlruFmtR
import Derived.Deep.CutBlock
namespace Go.Proofs.YbulkdlruFmt
open Go.RowKit Go.Shelf
set_option linter.unusedVariables false
set_option linter.unusedSimpArgs false

theorem zero35 : (#[.int .u8 0, .int .u8 0, .int .u8 0, .int .u8 0, .int .u8 0, .int .u8 0, .int .u8 0, .int .u8 0, .int .u8 0, .int .u8 0, .int .u8 0, .int .u8 0, .int .u8 0, .int .u8 0, .int .u8 0, .int .u8 0, .int .u8 0, .int .u8 0, .int .u8 0, .int .u8 0, .int .u8 0, .int .u8 0, .int .u8 0, .int .u8 0, .int .u8 0, .int .u8 0, .int .u8 0, .int .u8 0, .int .u8 0, .int .u8 0, .int .u8 0, .int .u8 0, .int .u64 0, .int .u64 0, .slice none 0 0] : Array Value) = B136 (fun _ => 0) 0 0 (.slice none 0 0) := rfl
theorem b136_h (h h' : Nat → Nat) (p q : Nat) (v : Value) : ((B136 h p q v).toList.take 0 ++ vals h' 32 ++ (B136 h p q v).toList.drop (0 + 32)).toArray = B136 h' p q v := by
  simp [B136, length_vals, List.drop_append]
theorem b136_size (h : Nat → Nat) (p q : Nat) (v : Value) : (B136 h p q v).size = 35 := by simp [B136, length_vals]
theorem b136_p {w : World} {b : Nat} {h : Nat → Nat} {p p' q : Nat} {v : Value} (hb : w.heap[b]? = some (.cells (B136 h p q v) 136 (0, 0))) : (w.setCell ⟨b, 32, none⟩ (.int .u64 (p' : Int))).heap[b]? = some (.cells (B136 h p' q v) 136 (0, 0)) := by
  rw [heap_setCell_same w b 32 _ 136 _ hb]
  rfl
theorem b136_q {w : World} {b : Nat} {h : Nat → Nat} {p q q' : Nat} {v : Value} (hb : w.heap[b]? = some (.cells (B136 h p q v) 136 (0, 0))) : (w.setCell ⟨b, 33, none⟩ (.int .u64 (q' : Int))).heap[b]? = some (.cells (B136 h p q' v) 136 (0, 0)) := by
  rw [heap_setCell_same w b 33 _ 136 _ hb]
  rfl
theorem b136_all {w : World} {b : Nat} {h : Nat → Nat} {p q : Nat} {v : Value} (hb : w.heap[b]? = some (.cells (B136 h p q v) 136 (0, 0))) : w.cell? ⟨b, 32, none⟩ = some (.int .u64 (p : Int)) ∧ w.cell? ⟨b, 33, none⟩ = some (.int .u64 (q : Int)) ∧ w.cell? ⟨b, 34, none⟩ = some v ∧ ∀ j, w.frozen? ⟨b, j, none⟩ = false := by
  refine ⟨?_, ?_, ?_, fun j => frozen_of_row w b j _ 136 hb⟩ <;> rw [cell_of_row w b _ _ 136 (0, 0) hb] <;> rfl

/-- The loops' states. -/
def MBRel (M R T N cap B : Nat) (f : Nat → Nat) (s0 : St) (W : World) (i : Value) (wr : World) : Prop :=
  ∃ k : Nat, i = .int .i64 (k : Int) ∧ k ≤ cnt f N 256 s0 ∧ RepAt wr R T B (fun o => cap - o) (bList f N (cntS f N 256 s0) k) [] none ∧ Md M T N cap (bSt f N (cntS f N 256 s0) k) wr ∧ Kp B [M, R] W wr

/-- r.Blocks has one more. -/
theorem rep_pushB2 {tI I R T B gc : Nat} {ga : Option Addr} {ps : List Nat} {bs : List PB} {cs : List PC} {ga0 : Option Addr} {gc0 : Nat} {qs : List Nat} {cf : Nat → Nat} {wr w2 w3 : World} {q : Nat} {b : PB} {ga2 : Option Addr} {gc2 : Nat} {cI : Array Value} {nv : Value} {nt : Option PC}
    (hRr : wr.heap[R]? = some (.cells #[.slice ga ps.length gc, .slice ga0 qs.length gc0, nv] 97 (0, 0))) (hH : Held wr T B cf ga gc ps bs ga0 gc0 qs cs) (hnt : nt = none) (hnv : NotAt wr T cf nv nt) (hti : tI = 90 ∨ tI = 133) (hIr : wr.heap[I]? = some (.cells cI tI (0, 0))) (hIR : I ≠ R) (h2 : BlkAt w2 T q b) (h5 : Same [I] wr w2)
    (hown' : w3.ownsRow B 62 1 (.slice ga2 (ps.length + 1) gc2) (ps.length + 1) (ps.map (fun p => .pointer (some ⟨p, 0, none⟩)) ++ [.pointer (some ⟨q, 0, none⟩)])) (hgrow : (w2.alloc (.cells #[.pointer (some ⟨q, 0, none⟩)] 62)).grownBy w3 (Value.ownBlock (.slice ga ps.length gc))) (hBW : B ≤ wr.heap.size) {cI2 : Array Value} (hI2 : w2.heap[I]? = some (.cells cI2 tI (0, 0))) :
    w3.cell? ⟨R, 0, none⟩ = some (.slice ga ps.length gc) ∧ w3.frozen? ⟨R, 0, none⟩ = false ∧ RepAt (w3.setCell ⟨R, 0, none⟩ (.slice ga2 (ps.length + 1) gc2)) R T B cf (bs ++ [b]) cs nt ∧ (w3.setCell ⟨R, 0, none⟩ (.slice ga2 (ps.length + 1) gc2)).heap[I]? = w2.heap[I]? ∧ Kp B [I, R] wr (w3.setCell ⟨R, 0, none⟩ (.slice ga2 (ps.length + 1) gc2)) := by
  subst hnt
  have aI : ∀ t, t ≠ tI → Apart wr t [I] := fun t ht => apart_one hIr ht
  have h6 := (h5.block R (Array.getElem?_eq_some_iff.1 hRr).1 (by simp; omega)).trans hRr
  have h7 : Same [] w2 (w2.alloc (.cells #[.pointer (some ⟨q, 0, none⟩)] 62)) := Same.alloc _ _ _
  have hrow2 := (own_same' hH.row h5 (aI 62 (by omega))).alloc (.cells #[.pointer (some ⟨q, 0, none⟩)] 62)
  have h8 := grown_same hrow2 hgrow
  have h6a := (h7.block R (Array.getElem?_eq_some_iff.1 h6).1 (by simp)).trans h6
  have hA : ∀ t, t ≠ 62 → Apart (w2.alloc (.cells #[.pointer (some ⟨q, 0, none⟩)] 62)) t (ga.toList.map (·.block)) := fun t ht => apart_row hrow2 ht
  have h9 := (h8.block R (Array.getElem?_eq_some_iff.1 h6a).1 (hA 97 (by omega) R _ h6a)).trans h6a
  obtain ⟨q0, q1, q2, qf⟩ := rcells97 h9
  have h10 : Same [R] w3 (w3.setCell ⟨R, 0, none⟩ (.slice ga2 (ps.length + 1) gc2)) := Same.setCell _ _ _ _ (by simp)
  have hAR : ∀ t, t ≠ 97 → Apart w3 t [R] := fun t ht => apart_one h9 ht
  have hI3 := (h7.block I (Array.getElem?_eq_some_iff.1 hI2).1 (by simp)).trans hI2
  have hI4 := (h8.block I (Array.getElem?_eq_some_iff.1 hI3).1 (hA tI (by omega) I _ hI3)).trans hI3
  have hE0 : ∀ t, Apart w2 t [] := fun t _ _ _ => by simp
  have hbl2 : Blks w3 T (ps ++ [q]) (bs ++ [b]) := (((hH.bl.same h5 (aI 136 (by omega))).snoc h2).same h7 (hE0 136)).same h8 (hA 136 (by omega))
  have hr2 : PtrRow w3 B 123 ga0 gc0 qs := own_same' (own_same' (own_same' hH.row2 h5 (aI 123 (by omega))) h7 (hE0 123)) h8 (hA 123 (by omega))
  have hc2 : Certs w3 141 147 T cf qs cs := ((hH.ct.same h5 (aI 141 (by omega)) (aI 147 (by omega))).same h7 (hE0 141) (hE0 147)).same h8 (hA 141 (by omega)) (hA 147 (by omega))
  refine ⟨q0, qf 0, ⟨ga2, gc2, ps ++ [q], ga0, gc0, qs, nv, ?_, ⟨fun h => by simp at h, hH.n2, ?_, hbl2.same h10 (hAR 136 (by omega)), own_same' hr2 h10 (hAR 123 (by omega)), hc2.same h10 (hAR 141 (by omega)) (hAR 147 (by omega))⟩, hnv⟩, ?_, ?_⟩
  · rw [show (ps ++ [q]).length = ps.length + 1 by simp]
    exact r_set h9 0 _
  · unfold PtrRow
    rw [show (ps ++ [q]).length = ps.length + 1 by simp, List.map_append]
    exact own_same' hown' h10 (hAR 62 (by omega))
  · rw [hI2]
    exact (h10.block I (Array.getElem?_eq_some_iff.1 hI4).1 (by simp; omega)).trans hI4
  · have g1 : Kp B [I, R] wr w2 := (h5.kp hBW).more (by simp)
    have g2 : Kp B [I, R] w2 (w2.alloc (.cells #[.pointer (some ⟨q, 0, none⟩)] 62)) := (h7.kp (Nat.le_trans hBW h5.size)).more (by simp)
    have g3 : Kp B [I, R] (w2.alloc (.cells #[.pointer (some ⟨q, 0, none⟩)] 62)) w3 := ⟨h8.os, h8.tape, h8.output, h8.size, fun k hk _ => h8.block k (by have := h5.size; have := h7.size; omega) (fun hm => by have := row_ge hH.row k hm; omega)⟩
    exact ((g1.trans g2).trans g3).trans ((h10.kp (Nat.le_trans hBW (Nat.le_trans h5.size (Nat.le_trans h7.size h8.size)))).more (by simp))

/-- r.Finalizations has one more. -/
theorem rep_pushF2 {tI I R T B gc : Nat} {ga : Option Addr} {ps : List Nat} {bs : List PB} {cs : List PC} {ga0 : Option Addr} {gc0 : Nat} {qs : List Nat} {cf : Nat → Nat} {wr w2 w3 : World} {q : Nat} {b : PC} {ga2 : Option Addr} {gc2 : Nat} {cI : Array Value} {nv : Value} {nt : Option PC}
    (hRr : wr.heap[R]? = some (.cells #[.slice ga0 ps.length gc0, .slice ga qs.length gc, nv] 97 (0, 0))) (hH : Held wr T B cf ga0 gc0 ps bs ga gc qs cs) (hnt : nt = none) (hnv : NotAt wr T cf nv nt) (hti : tI = 90 ∨ tI = 133) (hIr : wr.heap[I]? = some (.cells cI tI (0, 0))) (hIR : I ≠ R) (h2 : CertX w2 141 147 T cf q b) (h5 : Same [I] wr w2)
    (hown' : w3.ownsRow B 123 1 (.slice ga2 (qs.length + 1) gc2) (qs.length + 1) (qs.map (fun p => .pointer (some ⟨p, 0, none⟩)) ++ [.pointer (some ⟨q, 0, none⟩)])) (hgrow : (w2.alloc (.cells #[.pointer (some ⟨q, 0, none⟩)] 123)).grownBy w3 (Value.ownBlock (.slice ga qs.length gc))) (hBW : B ≤ wr.heap.size) {cI2 : Array Value} (hI2 : w2.heap[I]? = some (.cells cI2 tI (0, 0))) :
    w3.cell? ⟨R, 1, none⟩ = some (.slice ga qs.length gc) ∧ w3.frozen? ⟨R, 1, none⟩ = false ∧ RepAt (w3.setCell ⟨R, 1, none⟩ (.slice ga2 (qs.length + 1) gc2)) R T B cf bs (cs ++ [b]) nt ∧ (w3.setCell ⟨R, 1, none⟩ (.slice ga2 (qs.length + 1) gc2)).heap[I]? = w2.heap[I]? ∧ Kp B [I, R] wr (w3.setCell ⟨R, 1, none⟩ (.slice ga2 (qs.length + 1) gc2)) := by
  subst hnt
  have aI : ∀ t, t ≠ tI → Apart wr t [I] := fun t ht => apart_one hIr ht
  have h6 := (h5.block R (Array.getElem?_eq_some_iff.1 hRr).1 (by simp; omega)).trans hRr
  have h7 : Same [] w2 (w2.alloc (.cells #[.pointer (some ⟨q, 0, none⟩)] 123)) := Same.alloc _ _ _
  have hrow2 := (own_same' hH.row2 h5 (aI 123 (by omega))).alloc (.cells #[.pointer (some ⟨q, 0, none⟩)] 123)
  have h8 := grown_same hrow2 hgrow
  have h6a := (h7.block R (Array.getElem?_eq_some_iff.1 h6).1 (by simp)).trans h6
  have hA : ∀ t, t ≠ 123 → Apart (w2.alloc (.cells #[.pointer (some ⟨q, 0, none⟩)] 123)) t (ga.toList.map (·.block)) := fun t ht => apart_row hrow2 ht
  have h9 := (h8.block R (Array.getElem?_eq_some_iff.1 h6a).1 (hA 97 (by omega) R _ h6a)).trans h6a
  obtain ⟨q0, q1, q2, qf⟩ := rcells97 h9
  have h10 : Same [R] w3 (w3.setCell ⟨R, 1, none⟩ (.slice ga2 (qs.length + 1) gc2)) := Same.setCell _ _ _ _ (by simp)
  have hAR : ∀ t, t ≠ 97 → Apart w3 t [R] := fun t ht => apart_one h9 ht
  have hI3 := (h7.block I (Array.getElem?_eq_some_iff.1 hI2).1 (by simp)).trans hI2
  have hI4 := (h8.block I (Array.getElem?_eq_some_iff.1 hI3).1 (hA tI (by omega) I _ hI3)).trans hI3
  have hE0 : ∀ t, Apart w2 t [] := fun t _ _ _ => by simp
  have hbl2 : Blks w3 T ps bs := ((hH.bl.same h5 (aI 136 (by omega))).same h7 (hE0 136)).same h8 (hA 136 (by omega))
  have hr2 : PtrRow w3 B 62 ga0 gc0 ps := own_same' (own_same' (own_same' hH.row h5 (aI 62 (by omega))) h7 (hE0 62)) h8 (hA 62 (by omega))
  have hc2 : Certs w3 141 147 T cf (qs ++ [q]) (cs ++ [b]) := (((hH.ct.same h5 (aI 141 (by omega)) (aI 147 (by omega))).snoc h2).same h7 (hE0 141) (hE0 147)).same h8 (hA 141 (by omega)) (hA 147 (by omega))
  refine ⟨q1, qf 1, ⟨ga0, gc0, ps, ga2, gc2, qs ++ [q], nv, ?_, ⟨hH.n1, fun h => by simp at h, own_same' hr2 h10 (hAR 62 (by omega)), hbl2.same h10 (hAR 136 (by omega)), ?_, hc2.same h10 (hAR 141 (by omega)) (hAR 147 (by omega))⟩, hnv⟩, ?_, ?_⟩
  · rw [show (qs ++ [q]).length = qs.length + 1 by simp]
    exact r_set h9 1 _
  · unfold PtrRow
    rw [show (qs ++ [q]).length = qs.length + 1 by simp, List.map_append]
    exact own_same' hown' h10 (hAR 123 (by omega))
  · rw [hI2]
    exact (h10.block I (Array.getElem?_eq_some_iff.1 hI4).1 (by simp; omega)).trans hI4
  · have g1 : Kp B [I, R] wr w2 := (h5.kp hBW).more (by simp)
    have g2 : Kp B [I, R] w2 (w2.alloc (.cells #[.pointer (some ⟨q, 0, none⟩)] 123)) := (h7.kp (Nat.le_trans hBW h5.size)).more (by simp)
    have g3 : Kp B [I, R] (w2.alloc (.cells #[.pointer (some ⟨q, 0, none⟩)] 123)) w3 := ⟨h8.os, h8.tape, h8.output, h8.size, fun k hk _ => h8.block k (by have := h5.size; have := h7.size; omega) (fun hm => by have := row_ge hH.row2 k hm; omega)⟩
    exact ((g1.trans g2).trans g3).trans ((h10.kp (Nat.le_trans hBW (Nat.le_trans h5.size (Nat.le_trans h7.size h8.size)))).more (by simp))

/-- A function's code from a region on. -/
def headReg : Code → Option Nat
  | .region j _ _ => some j
  | .seq a _ => headReg a
  | .block _ c => headReg c
  | .scope c => headReg c
  | _ => none
def fromReg (k : Nat) : Code → Option Code
  | .seq a b => if headReg a = some k then some (.seq a b) else fromReg k b
  | _ => none
def mtail (k : Nat) (b : Option Code) : Code := (b.bind (fromReg k)).getD .skip

set_option maxRecDepth 100000 in
set_option maxHeartbeats 4000000 in
theorem mod3 (T N cap X R M B : Nat) (f : Nat → Nat) (s : St) (W : World) (Rq : Ending → World → Prop) (hN : N ≤ cap) (hN2 : (N : Int) ≤ 200000000) (hT : Row W T N f) (hf : ∀ i, f i < 256) (hmd : Md M T N cap s W) (hrep : RepAt W R T B (fun o => cap - o) [] [] none) (hB : B ≤ W.heap.size) (hTB : T < B) (hMB : M < B) (hRB : R < B) (hMT : M ≠ T) (hRT : R ≠ T) (hMR : M ≠ R)
    (u1 u3 u4 u7 u8 u9 u10 u11 u12 u13 u14 u15 u16 u17 u18 u19 u20 u21 u22 u23 u24 u25 u26 u27 u28 u29 u30 u31 u32 u33 u34 u35 u36 u37 u38 u39 u40 u41 u42 u43 u44 u45 u46 u47 u48 u49 u50 u51 u52 u53 u54 u55 u56 u57 u58 u59 u60 u61 u62 u63 u64 u65 u66 u67 u68 u69 u70 u71 u72 u73 u74 u75 u76 u77 u78 u79 u80 u81 u82 u83 u84 u85 u86 u87 u88 u89 u90 u91 u92 u93 u94 u95 u96 u97 u98 u99 u100 u101 u102 u103 u104 u105 u106 u107 u108 u109 u110 u111 u112 u113 u114 u115 u116 u117 u118 u119 u120 u121 u122 u123 u124 u125 u126 u127 u128 u129 u130 u131 u132 u133 u134 u135 u136 u137 u138 u139 u140 u141 u142 u143 u144 u145 u146 u147 u148 u149 u150 u151 u152 u153 u154 u155 u156 u157 u158 u159 u160 u161 u162 u163 u164 u165 u166 u167 u168 u169 u170 u171 u172 u173 u174 u175 u176 u177 u178 u179 u180 u181 u182 u183 u184 u185 u186 u187 u188 u189 u190 u191 u192 u193 u194 u195 u196 u197 u198 u199 u200 u201 u202 u203 u204 u205 : Value)
    (hQ : ∀ w' y1 y3 y4 y7 y8 y9 y10 y11 y12 y13 y14 y15 y16 y17 y18 y19 y20 y21 y22 y23 y24 y25 y26 y27 y28 y29 y30 y31 y32 y33 y34 y35 y36 y37 y38 y39 y40 y41 y42 y43 y44 y45 y46 y47 y48 y49 y50 y51 y52 y53 y54 y55 y56 y57 y58 y59 y60 y61 y62 y63 y64 y65 y66 y67 y68 y69 y70 y71 y72 y73 y74 y75 y76 y77 y78 y79 y80 y81 y82 y83 y84 y85 y86 y87 y88 y89 y90 y91 y92 y93 y94 y95 y96 y97 y98 y99 y100 y101 y102 y103 y104 y105 y106 y107 y108 y109 y110 y111 y112 y113 y114 y115 y116 y117 y118 y119 y120 y121 y122 y123 y124 y125 y126 y127 y128 y129 y130 y131 y132 y133 y134 y135 y136 y137 y138 y139 y140 y141 y142 y143 y144 y145 y146 y147 y148 y149 y150 y151 y152 y153 y154 y155 y156 y157 y158 y159 y160 y161 y162 y163 y164 y165 y166 y167 y168 y169 y170 y171 y172 y173 y174 y175 y176 y177 y178 y179 y180 y181 y182 y183 y184 y185 y186 y187 y188 y189 y190 y191 y192 y193 y194 y195 y196 y197 y198 y199 y200 y201 y202 y203 y204 y205, RepAt w' R T B (fun o => cap - o) (bList f N (cntS f N 256 s) (cnt f N 256 s)) [] none → Md M T N cap (prS1 f N s) w' → Kp B [M, R] W w' → Code.wp Ybaf.prog (mtail 17 Ybaf.f12.body) (bodyPost Ybaf.prog Ybaf.f12 Rq) ⟨#[.slice (some ⟨T, 0, none⟩) N cap, y1, .pointer (some ⟨X, 0, none⟩), y3, y4, .pointer (some ⟨R, 0, none⟩), .pointer (some ⟨M, 0, none⟩), y7, y8, y9, y10, y11, y12, y13, y14, y15, y16, y17, y18, y19, y20, y21, y22, y23, y24, y25, y26, y27, y28, y29, y30, y31, y32, y33, y34, y35, y36, y37, y38, y39, y40, y41, y42, y43, y44, y45, y46, y47, y48, y49, y50, y51, y52, y53, y54, y55, y56, y57, y58, y59, y60, y61, y62, y63, y64, y65, y66, y67, y68, y69, y70, y71, y72, y73, y74, y75, y76, y77, y78, y79, y80, y81, y82, y83, y84, y85, y86, y87, y88, y89, y90, y91, y92, y93, y94, y95, y96, y97, y98, y99, y100, y101, y102, y103, y104, y105, y106, y107, y108, y109, y110, y111, y112, y113, y114, y115, y116, y117, y118, y119, y120, y121, y122, y123, y124, y125, y126, y127, y128, y129, y130, y131, y132, y133, y134, y135, y136, y137, y138, y139, y140, y141, y142, y143, y144, y145, y146, y147, y148, y149, y150, y151, y152, y153, y154, y155, y156, y157, y158, y159, y160, y161, y162, y163, y164, y165, y166, y167, y168, y169, y170, y171, y172, y173, y174, y175, y176, y177, y178, y179, y180, y181, y182, y183, y184, y185, y186, y187, y188, y189, y190, y191, y192, y193, y194, y195, y196, y197, y198, y199, y200, y201, y202, y203, y204, y205], []⟩ w') :
    Code.wp Ybaf.prog (mtail 3 Ybaf.f12.body) (bodyPost Ybaf.prog Ybaf.f12 Rq) ⟨#[.slice (some ⟨T, 0, none⟩) N cap, u1, .pointer (some ⟨X, 0, none⟩), u3, u4, .pointer (some ⟨R, 0, none⟩), .pointer (some ⟨M, 0, none⟩), u7, u8, u9, u10, u11, u12, u13, u14, u15, u16, u17, u18, u19, u20, u21, u22, u23, u24, u25, u26, u27, u28, u29, u30, u31, u32, u33, u34, u35, u36, u37, u38, u39, u40, u41, u42, u43, u44, u45, u46, u47, u48, u49, u50, u51, u52, u53, u54, u55, u56, u57, u58, u59, u60, u61, u62, u63, u64, u65, u66, u67, u68, u69, u70, u71, u72, u73, u74, u75, u76, u77, u78, u79, u80, u81, u82, u83, u84, u85, u86, u87, u88, u89, u90, u91, u92, u93, u94, u95, u96, u97, u98, u99, u100, u101, u102, u103, u104, u105, u106, u107, u108, u109, u110, u111, u112, u113, u114, u115, u116, u117, u118, u119, u120, u121, u122, u123, u124, u125, u126, u127, u128, u129, u130, u131, u132, u133, u134, u135, u136, u137, u138, u139, u140, u141, u142, u143, u144, u145, u146, u147, u148, u149, u150, u151, u152, u153, u154, u155, u156, u157, u158, u159, u160, u161, u162, u163, u164, u165, u166, u167, u168, u169, u170, u171, u172, u173, u174, u175, u176, u177, u178, u179, u180, u181, u182, u183, u184, u185, u186, u187, u188, u189, u190, u191, u192, u193, u194, u195, u196, u197, u198, u199, u200, u201, u202, u203, u204, u205], []⟩ W := by
  conv => arg 2; whnf
  conv => arg 4; zeta
  have hct := mcount M T N cap 256 f s W hmd (by omega) hN hN2 hT hf hMT
  obtain ⟨i0, hi, hz0, hz1, hz2⟩ := info_parts info62
  obtain ⟨c, ec⟩ : ∃ c, cnt f N 256 s = c := ⟨_, rfl⟩
  have hc256 : c ≤ 256 := by rw [← ec]; exact cnt_le _ _ _ _
  rw [ec] at hct
  have hMl := (Array.getElem?_eq_some_iff.1 hmd.2).1
  go_upto_block 0 with (go_at_call 25; refine hct.mono ?_; rintro e w1 ⟨rfl, h1, hs1⟩)
  have hst : MBRel M R T N cap B f s W (.int .i64 0) w1 := by
    obtain ⟨ga, gc, ps, ga0, gc0, qs, nv, hRr, hH, hnv⟩ := hrep
    exact ⟨0, rfl, Nat.zero_le _, ⟨ga, gc, ps, ga0, gc0, qs, nv, (hs1.block R (Array.getElem?_eq_some_iff.1 hRr).1 (by simp; omega)).trans hRr, hH.same hs1 (fun t ht => apart_one hmd.2 (by omega)), hnv⟩, h1, (hs1.kp hB).more (by simp)⟩
  go_cut [] (fun wx => RepAt wx R T B (fun o => cap - o) (bList f N (cntS f N 256 s) (cnt f N 256 s)) [] none ∧ Md M T N cap (prS1 f N s) wx ∧ Kp B [M, R] W wx)
  case rest =>
    obtain ⟨k1, k2, k3⟩ := hcut
    rename_i K hK
    refine hK _ _ ?_
    exact hQ _ _ _ _ _ _ _ _ _ _ _ _ _ _ _ _ _ _ _ _ _ _ _ _ _ _ _ _ _ _ _ _ _ _ _ _ _ _ _ _ _ _ _ _ _ _ _ _ _ _ _ _ _ _ _ _ _ _ _ _ _ _ _ _ _ _ _ _ _ _ _ _ _ _ _ _ _ _ _ _ _ _ _ _ _ _ _ _ _ _ _ _ _ _ _ _ _ _ _ _ _ _ _ _ _ _ _ _ _ _ _ _ _ _ _ _ _ _ _ _ _ _ _ _ _ _ _ _ _ _ _ _ _ _ _ _ _ _ _ _ _ _ _ _ _ _ _ _ _ _ _ _ _ _ _ _ _ _ _ _ _ _ _ _ _ _ _ _ _ _ _ _ _ _ _ _ _ _ _ _ _ _ _ _ _ _ _ _ _ _ _ _ _ _ _ _ _ _ _ _ _ _ _ k1 k2 k3
  case first =>
    have hcI : (c : Int) ≤ 256 := by omega
    clear hct h1 hs1 hrep hmd hQ
    go_wp2
    go_loopw [8] (fun i wr => MBRel M R T N cap B f s W i wr) (fun i _ => c - (intOf i).toNat)
    case atStart => exact hst
    case round =>
      obtain ⟨k, rfl, hk, hrep, hmd, hkp⟩ := hrel
      rw [ec] at hk
      by_cases hlt : k < c
      · have i1 : (k : Int) < (c : Int) := by omega
        have i1' : IntKind.i64.wrap ((k : Int) + 1) = (k : Int) + 1 := IntWalk.i64_in _ (by omega)
        obtain ⟨sk, esk⟩ : ∃ sk, bSt f N (cntS f N 256 s) k = sk := ⟨_, rfl⟩
        obtain ⟨l, el⟩ : ∃ l, bList f N (cntS f N 256 s) k = l := ⟨_, rfl⟩
        rw [esk] at hmd
        rw [el] at hrep
        have hTr : Row wr T N f := hT.block (hkp.block T hTB (by simp; omega))
        have HK : Hid (k < c ∧ k ≤ 256 ∧ cnt f N 256 s = c ∧ bSt f N (cntS f N 256 s) k = sk ∧ bList f N (cntS f N 256 s) k = l) := ⟨hlt, by omega, ec, esk, el⟩
        have hBr := Nat.le_trans hB hkp.size
        clear hk hlt hst hc256 hcI esk el ec
        go_upto_region 8 with fail
        rw [zero35]
        obtain ⟨q, hq⟩ : ∃ q, wr.heap.size = q := ⟨_, rfl⟩
        obtain ⟨w2, hw2⟩ : ∃ w2, wr.alloc (.cells (B136 (fun _ => 0) 0 0 (.slice none 0 0)) 136) = w2 := ⟨_, rfl⟩
        have hq2 : w2.heap[q]? = some (.cells (B136 (fun _ => 0) 0 0 (.slice none 0 0)) 136 (0, 0)) := by rw [← hw2, ← hq]; exact heap_alloc_new wr _
        have hs2 : Same [] wr w2 := by rw [← hw2]; exact Same.alloc _ _ _
        rw [hw2, hq]
        have HQ : Hid (wr.heap.size = q) := hq
        have hqM : q ≠ M := by omega
        have hqT : q ≠ T := by omega
        have h2 := hmd.same hs2 (by simp)
        have hT2 := hTr.same hs2 (by simp)
        have sh : ∀ {a b : World}, Same [M] wr a → Same [q] a b → Same [M] wr b := fun h1 h3 => h1.shed h3 (by have := HQ.out; simp; omega)
        have hh := mhash M T N cap f sk w2 h2 hN hN2 hT2 hf hMT
        clear hw2 hq
        go_upto_region 9 with (first
          | (go_at_call 26; refine hh.mono ?_; rintro e w3 ⟨rfl, h3, hs3⟩; have hq3 := (hs3.block q (Array.getElem?_eq_some_iff.1 hq2).1 (by simp; omega)).trans hq2)
          | (refine wpList_store_wide wide60 rfl (.tmp 38) (.tmp 36) rfl rfl q 0 rfl (vals (hsh f N sk) 32) rfl (length_vals _ _) _ 136 hq3 (by rw [b136_size]; omega) (vals_one _ _) ?_))
        rw [b136_h]
        obtain ⟨w4, hw4⟩ : ∃ w4, w3.setRow q (B136 (hsh f N sk) 0 0 (.slice none 0 0)) = w4 := ⟨_, rfl⟩
        have hq4 : w4.heap[q]? = some (.cells (B136 (hsh f N sk) 0 0 (.slice none 0 0)) 136 (0, 0)) := by rw [← hw4]; exact setRow_heap w3 q _ _ 136 _ hq3
        have hs34 : Same [q] w3 w4 := by rw [← hw4]; exact same_setRow w3 q _
        have hS4 : Same [M] wr w4 := sh ((hs2.more (by simp)).trans hs3) hs34
        have h4 := h3.same hs34 (by simp; omega)
        have hT4 := (hT2.same hs3 (by simp; omega)).same hs34 (by simp; omega)
        rw [hw4]
        have hn4 := mnum M T N cap 8 f _ w4 h4 (by omega) (by omega) hN hN2 hT4 hf hMT
        clear hw4 hh hq3 hs34 h3 hs3 h2 hT2 hs2 hq2
        obtain ⟨s1, es1⟩ : ∃ s1, tk N 32 sk = s1 := ⟨_, rfl⟩
        rw [es1] at hn4
        obtain ⟨x1, ex1⟩ : ∃ x1, num f N 8 s1 = x1 := ⟨_, rfl⟩
        rw [ex1] at hn4
        go_upto_region 10 with (go_at_call 27; refine hn4.mono ?_; rintro e w5 ⟨rfl, h5, hs5⟩; have hq5 := (hs5.block q (Array.getElem?_eq_some_iff.1 hq4).1 (by simp; omega)).trans hq4; obtain ⟨b32, b33, b34, bf⟩ := b136_all hq5)
        obtain ⟨w6, hw6⟩ : ∃ w6, w5.setCell ⟨q, 32, none⟩ (.int .u64 (x1 : Int)) = w6 := ⟨_, rfl⟩
        have hq6 : w6.heap[q]? = some (.cells (B136 (hsh f N sk) x1 0 (.slice none 0 0)) 136 (0, 0)) := by rw [← hw6]; exact b136_p hq5
        have hs56 : Same [q] w5 w6 := by rw [← hw6]; exact Same.setCell _ _ _ _ (by simp)
        have hS6 : Same [M] wr w6 := sh (hS4.trans hs5) hs56
        have h6 := h5.same hs56 (by simp; omega)
        have hT6 := (hT4.same hs5 (by simp; omega)).same hs56 (by simp; omega)
        rw [hw6]
        have hn6 := mnum M T N cap 8 f _ w6 h6 (by omega) (by omega) hN hN2 hT6 hf hMT
        clear hw6 hn4 hq5 hs56 h5 hs5 h4 hT4 hq4 hS4 b32 b33 b34 bf
        obtain ⟨s2, es2⟩ : ∃ s2, tk N 8 s1 = s2 := ⟨_, rfl⟩
        rw [es2] at hn6
        obtain ⟨x2, ex2⟩ : ∃ x2, num f N 8 s2 = x2 := ⟨_, rfl⟩
        rw [ex2] at hn6
        go_upto_region 11 with (go_at_call 27; refine hn6.mono ?_; rintro e w7 ⟨rfl, h7, hs7⟩; have hq7 := (hs7.block q (Array.getElem?_eq_some_iff.1 hq6).1 (by simp; omega)).trans hq6; obtain ⟨b32, b33, b34, bf⟩ := b136_all hq7)
        obtain ⟨w8, hw8⟩ : ∃ w8, w7.setCell ⟨q, 33, none⟩ (.int .u64 (x2 : Int)) = w8 := ⟨_, rfl⟩
        have hq8 : w8.heap[q]? = some (.cells (B136 (hsh f N sk) x1 x2 (.slice none 0 0)) 136 (0, 0)) := by rw [← hw8]; exact b136_q hq7
        have hs78 : Same [q] w7 w8 := by rw [← hw8]; exact Same.setCell _ _ _ _ (by simp)
        have hS8 : Same [M] wr w8 := sh (hS6.trans hs7) hs78
        have h8 := h7.same hs78 (by simp; omega)
        have hT8 := (hT6.same hs7 (by simp; omega)).same hs78 (by simp; omega)
        rw [hw8]
        obtain ⟨s3, es3⟩ : ∃ s3, tk N 8 s2 = s3 := ⟨_, rfl⟩
        rw [es3] at h8
        have hn8 := mnum M T N cap 4 f s3 w8 h8 (by omega) (by omega) hN hN2 hT8 hf hMT
        have hnl := num_lt f N 4 s3 hf
        clear hw8 hn6 hq7 hs78 h7 hs7 h6 hT6 hq6 hS6 b32 b33 b34 bf
        obtain ⟨n, en⟩ : ∃ n, num f N 4 s3 = n := ⟨_, rfl⟩
        rw [en] at hn8 hnl
        obtain ⟨s4, es4⟩ : ∃ s4, tk N 4 s3 = s4 := ⟨_, rfl⟩
        rw [es4] at hn8
        have eN : blkN f N sk = n := by unfold blkN; rw [es1, es2, es3, en]
        have eS5 : blkS5 f N sk = if n ≤ 4210688 then s4 else oth s4 := by unfold blkS5; rw [eN, es1, es2, es3, es4]
        have i0b : IntKind.i64.wrap (n : Int) = (n : Int) := IntWalk.i64_in _ (by omega)
        obtain ⟨ga, gc, ps, ga0, gc0, qs, nv, hRr, hH, hnv⟩ := hrep
        go_upto_if 52 with (go_at_call 27; refine hn8.mono ?_; rintro e w9 ⟨rfl, h9, hs9⟩)
        have hq9 := (hs9.block q (Array.getElem?_eq_some_iff.1 hq8).1 (by simp; omega)).trans hq8
        have hS9 : Same [M] wr w9 := hS8.trans hs9
        clear hn8 h8 hT8 hs9 hq8 hS8
        go_cut [] (fun wx => Md M T N cap (blkS5 f N sk) wx ∧ Same [M] wr wx ∧ wx.heap[q]? = some (.cells (B136 (hsh f N sk) x1 x2 (.slice none 0 0)) 136 (0, 0)))
        case first =>
          by_cases hn : n ≤ 4210688
          · have j1 : ¬ (4210688 : Int) < (n : Int) := by omega
            have j2 : decide ((4210688 : Int) < (n : Int)) = false := decide_eq_false j1
            rw [if_pos hn] at eS5
            have HX : Hid (Md M T N cap (blkS5 f N sk) w9 ∧ Same [M] wr w9 ∧ w9.heap[q]? = some (.cells (B136 (hsh f N sk) x1 x2 (.slice none 0 0)) 136 (0, 0))) := ⟨by rw [eS5]; exact h9, hS9, hq9⟩
            clear hn hnl eS5 eN hq9 h9 hS9
            go_wp2
            go_meet
            exact HX.out
          · have j1 : (4210688 : Int) < (n : Int) := by omega
            rw [if_neg hn] at eS5
            have hot := other_any M T N cap s4 w9 h9
            rw [← eS5] at hot
            have HX : Hid (Same [M] wr w9 ∧ w9.heap[q]? = some (.cells (B136 (hsh f N sk) x1 x2 (.slice none 0 0)) 136 (0, 0))) := ⟨hS9, hq9⟩
            clear hn hnl eS5 eN hq9 h9 hS9
            go_wp2_with (go_at_call 28; refine hot.mono ?_; rintro e w10 ⟨rfl, h10, hs10⟩)
            go_meet
            exact ⟨h10, HX.out.1.trans hs10, (hs10.block q (Array.getElem?_eq_some_iff.1 HX.out.2).1 (by simp; omega)).trans HX.out.2⟩
        case rest =>
          obtain ⟨h10, hS10, hq10⟩ := hcut
          obtain ⟨wd, hwd⟩ : ∃ wd, wd = wc := ⟨_, rfl⟩
          subst hwd
          go_upto_if 56 with fail
          go_cut [] (fun wx => Md M T N cap (blkS f N sk) wx ∧ Same [M] wr wx ∧ BlkAt wx T q (blk f N sk))
          case first =>
            have eB : ∀ pv c', payV T (blk f N sk).pay c' = pv → (B136 (hsh f N sk) x1 x2 pv) = B136 (blk f N sk).par (blk f N sk).hgt (blk f N sk).vw (payV T (blk f N sk).pay c') := by
              intro pv c' h
              rw [h]
              simp only [blk, es1, es2, ex1, ex2]
            by_cases hn0 : n = 0
            · have j1 : ¬ (0 : Int) < (n : Int) := by omega
              have eS : blkS f N sk = blkS5 f N sk := by unfold blkS; rw [eN, if_pos hn0]
              have eP : (blk f N sk).pay = none := by simp only [blk, eN, if_pos hn0]
              have HX : Hid (Md M T N cap (blkS f N sk) wd ∧ Same [M] wr wd ∧ BlkAt wd T q (blk f N sk)) := ⟨by rw [eS]; exact h10, hS10, 0, by rw [← eB (.slice none 0 0) 0 (by rw [eP]; rfl)]; exact hq10⟩
              subst hn0
              clear hnl eS5 eN h10 hS10 hq10 eB eS eP
              go_wp2
              go_meet
              exact HX.out
            · have j1 : (0 : Int) < (n : Int) := by omega
              have eS : blkS f N sk = tk N n (blkS5 f N sk) := by unfold blkS; rw [eN, if_neg hn0]
              have eP : payV T (blk f N sk).pay (cap - (blkS5 f N sk).p) = tkV T N n (cap - (blkS5 f N sk).p) (blkS5 f N sk) := by
                simp only [blk, eN, if_neg hn0]
                unfold tkV
                split <;> rfl
              have ht := mtake M T N cap n (blkS5 f N sk) wd h10 (by omega) (by omega) hN hN2
              obtain ⟨va, vm, vc, hv⟩ := tkV_slice T N n (cap - (blkS5 f N sk).p) (blkS5 f N sk)
              have hB2 := eB _ _ (eP.trans hv)
              rw [hv, ← eS] at ht
              clear hnl eS5 eN h10 eB eS eP hn0
              go_wp2_with (go_at_call 29; refine ht.mono ?_; rintro e w11 ⟨rfl, h11, hs11⟩; have hq11 := (hs11.block q (Array.getElem?_eq_some_iff.1 hq10).1 (by simp; omega)).trans hq10; obtain ⟨b32, b33, b34, bf⟩ := b136_all hq11)
              go_meet
              exact ⟨h11.same (Same.setCell [q] _ _ _ (by simp)) (by simp; omega), sh (hS10.trans hs11) (Same.setCell [q] _ _ _ (by simp)), _, by rw [← hB2]; exact b136_pay hq11⟩
          case rest =>
            obtain ⟨h12, hS12, hq12⟩ := hcut
            have hRc := (hS12.block R (Array.getElem?_eq_some_iff.1 hRr).1 (by simp; omega)).trans hRr
            obtain ⟨d0, d1, d2, df⟩ := rcells97 hRc
            have hMr := hmd.2
            have hrow := own_same' hH.row hS12 (apart_one hMr (by omega))
            have hpl : ps.length ≤ 256 := by rw [hH.bl.1]; obtain ⟨k1, k2, k3, k4, k5⟩ := HK.out; rw [← k5, bList_length]; exact k2
            have hRl : R < wc.heap.size := (Array.getElem?_eq_some_iff.1 hRc).1
            have hRn : ¬ R = wc.heap.size := by omega
            have HP : Hid (ps.length ≤ 256 ∧ B ≤ wc.heap.size) := ⟨hpl, Nat.le_trans hBr hS12.size⟩
            clear h10 hS10 hq10 hpl hT hTr eN eS5 en es1 es2 es3 es4 ex1 ex2 i0b hnl
            go_wp2_with (at_builtin; refine wpList_append_own _ rfl (.tmp 65) (.tmp 67) 93 rfl B 62 i0 (.pointer none) 1 8 Ybaf.underlying93 hi hz0 hz1 hz2 rfl (by omega) (.slice ga ps.length gc) ps.length _ rfl (hrow.alloc _) ⟨wc.heap.size, 0, none⟩ 1 1 [.pointer (some ⟨q, 0, none⟩)] rfl rfl (new_cells wc [.pointer (some ⟨q, 0, none⟩)] 62) (fun u hu => by rw [List.mem_singleton.1 hu]; rfl) (by have := HP.out; unfold maxLen; omega) (by have := HP.out; omega) (by have := HP.out; simp; omega) ?_; intro v' w13 hown13 hgrow13 hnil13; obtain ⟨ga2, gc2, hv13⟩ := own_slice hown13; subst hv13; obtain ⟨m1, m2, m3, m4, m5⟩ := rep_pushB2 (nt := none) hRr hH rfl hnv (.inr rfl) hMr hMR hq12 hS12 hown13 hgrow13 hBr h12.2)
            have hrel2 : MBRel M R T N cap B f s W (.int .i64 ((k + 1 : Nat) : Int)) (w13.setCell ⟨R, 0, none⟩ (.slice ga2 (ps.length + 1) gc2)) := by
              obtain ⟨k1, k2, k3, k4, k5⟩ := HK.out
              refine ⟨k + 1, rfl, by rw [k3]; omega, ?_, ⟨?_, ?_⟩, hkp.trans m5⟩
              · show RepAt _ R T B _ (bList f N (cntS f N 256 s) k ++ [blk f N (bSt f N (cntS f N 256 s) k)]) [] none
                rw [k4, k5]
                exact m3
              · show (blkS f N (bSt f N (cntS f N 256 s) k)).p ≤ N
                rw [k4]
                exact h12.1
              · show (World.setCell _ _ _).heap[M]? = some (.cells #[_, .int .i64 ((blkS f N (bSt f N (cntS f N 256 s) k)).p : Int), .int .i64 ((blkS f N (bSt f N (cntS f N 256 s) k)).k : Int)] 133 (0, 0))
                rw [k4]
                exact m4.trans h12.2
            clear m1 m2 m3 m4 m5 hown13 hgrow13 hnil13 hrow hRr hH hnv h12 hS12 hq12 hMr hkp hmd
            go_roundw
            case rel =>
              rw [show ((k + 1 : Nat) : Int) = (k : Int) + 1 by omega] at hrel2
              first | exact hrel2 | ((repeat apply Exists.intro); exact ⟨hrel2, rfl⟩)
            case measure =>
              have := HK.out
              simp [intOf]
              omega
      · have hkc : k = c := by omega
        subst hkc
        have i1 : ¬ (k : Int) < (k : Int) := by omega
        have hP : prS1 f N s = bSt f N (cntS f N 256 s) k := by unfold prS1; rw [ec]
        have HX : Hid (RepAt wr R T B (fun o => cap - o) (bList f N (cntS f N 256 s) (cnt f N 256 s)) [] none ∧ Md M T N cap (prS1 f N s) wr ∧ Kp B [M, R] W wr) := ⟨by rw [ec]; exact hrep, by rw [hP]; exact hmd, hkp⟩
        clear hP hrep hmd hkp ec hst
        go_wp2
        go_meet
        exact HX.out
end Go.Proofs.YbulkdlruFmt
