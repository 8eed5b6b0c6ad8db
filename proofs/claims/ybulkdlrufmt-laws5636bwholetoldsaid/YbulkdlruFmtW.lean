/-
  The law's own parser: its finalizations.
-/
import Derived.Test.YbulkdlruFmtV
namespace Go.Proofs.YbulkdlruFmt
open Go.RowKit Go.Shelf
set_option linter.unusedVariables false
set_option linter.unusedSimpArgs false

/-- The loops' states. -/
def MFRel (M R T N cap B : Nat) (f : Nat → Nat) (bs : List PB) (s0 : St) (W : World) (i : Value) (wr : World) : Prop :=
  ∃ k : Nat, i = .int .i64 (k : Int) ∧ k ≤ cnt f N 2 s0 ∧ RepAt wr R T B (fun o => cap - o) bs (fList f N (cntS f N 2 s0) k) none ∧ Md M T N cap (fSt f N (cntS f N 2 s0) k) wr ∧ Kp B [M, R] W wr
def MWRel (tS tE q B T cap : Nat) (v : Nat) (h : Nat → Nat) (l : List (Nat × Option Nat)) (W : World) (i : Value) (wr : World) : Prop :=
  ∃ j : Nat, i = .int .i64 (j : Int) ∧ j ≤ l.length ∧ CertAt wr tS tE B T (fun o => cap - o) q v h (l.take j) ∧ Kp B [q] W wr

set_option maxRecDepth 100000 in
set_option maxHeartbeats 4000000 in
theorem mod17 (T N cap X R M B : Nat) (f : Nat → Nat) (bs : List PB) (s : St) (W : World) (Rq : Ending → World → Prop) (hN : N ≤ cap) (hN2 : (N : Int) ≤ 200000000) (hT : Row W T N f) (hf : ∀ i, f i < 256) (hmd : Md M T N cap s W) (hrep : RepAt W R T B (fun o => cap - o) bs [] none) (hB : B ≤ W.heap.size) (hTB : T < B) (hMB : M < B) (hRB : R < B) (hMT : M ≠ T) (hRT : R ≠ T) (hMR : M ≠ R)
    (u1 u3 u4 u7 u8 u9 u10 u11 u12 u13 u14 u15 u16 u17 u18 u19 u20 u21 u22 u23 u24 u25 u26 u27 u28 u29 u30 u31 u32 u33 u34 u35 u36 u37 u38 u39 u40 u41 u42 u43 u44 u45 u46 u47 u48 u49 u50 u51 u52 u53 u54 u55 u56 u57 u58 u59 u60 u61 u62 u63 u64 u65 u66 u67 u68 u69 u70 u71 u72 u73 u74 u75 u76 u77 u78 u79 u80 u81 u82 u83 u84 u85 u86 u87 u88 u89 u90 u91 u92 u93 u94 u95 u96 u97 u98 u99 u100 u101 u102 u103 u104 u105 u106 u107 u108 u109 u110 u111 u112 u113 u114 u115 u116 u117 u118 u119 u120 u121 u122 u123 u124 u125 u126 u127 u128 u129 u130 u131 u132 u133 u134 u135 u136 u137 u138 u139 u140 u141 u142 u143 u144 u145 u146 u147 u148 u149 u150 u151 u152 u153 u154 u155 u156 u157 u158 u159 u160 u161 u162 u163 u164 u165 u166 u167 u168 u169 u170 u171 u172 u173 u174 u175 u176 u177 u178 u179 u180 u181 u182 u183 u184 u185 u186 u187 u188 u189 u190 u191 u192 u193 u194 u195 u196 u197 u198 u199 u200 u201 u202 u203 u204 u205 : Value)
    (hQ : ∀ w' y1 y3 y4 y7 y8 y9 y10 y11 y12 y13 y14 y15 y16 y17 y18 y19 y20 y21 y22 y23 y24 y25 y26 y27 y28 y29 y30 y31 y32 y33 y34 y35 y36 y37 y38 y39 y40 y41 y42 y43 y44 y45 y46 y47 y48 y49 y50 y51 y52 y53 y54 y55 y56 y57 y58 y59 y60 y61 y62 y63 y64 y65 y66 y67 y68 y69 y70 y71 y72 y73 y74 y75 y76 y77 y78 y79 y80 y81 y82 y83 y84 y85 y86 y87 y88 y89 y90 y91 y92 y93 y94 y95 y96 y97 y98 y99 y100 y101 y102 y103 y104 y105 y106 y107 y108 y109 y110 y111 y112 y113 y114 y115 y116 y117 y118 y119 y120 y121 y122 y123 y124 y125 y126 y127 y128 y129 y130 y131 y132 y133 y134 y135 y136 y137 y138 y139 y140 y141 y142 y143 y144 y145 y146 y147 y148 y149 y150 y151 y152 y153 y154 y155 y156 y157 y158 y159 y160 y161 y162 y163 y164 y165 y166 y167 y168 y169 y170 y171 y172 y173 y174 y175 y176 y177 y178 y179 y180 y181 y182 y183 y184 y185 y186 y187 y188 y189 y190 y191 y192 y193 y194 y195 y196 y197 y198 y199 y200 y201 y202 y203 y204 y205, RepAt w' R T B (fun o => cap - o) bs (fList f N (cntS f N 2 s) (cnt f N 2 s)) none → Md M T N cap (fSt f N (cntS f N 2 s) (cnt f N 2 s)) w' → Kp B [M, R] W w' → Code.wp Ybaf.prog (mtail 30 Ybaf.f12.body) (bodyPost Ybaf.prog Ybaf.f12 Rq) ⟨#[.slice (some ⟨T, 0, none⟩) N cap, y1, .pointer (some ⟨X, 0, none⟩), y3, y4, .pointer (some ⟨R, 0, none⟩), .pointer (some ⟨M, 0, none⟩), y7, y8, y9, y10, y11, y12, y13, y14, y15, y16, y17, y18, y19, y20, y21, y22, y23, y24, y25, y26, y27, y28, y29, y30, y31, y32, y33, y34, y35, y36, y37, y38, y39, y40, y41, y42, y43, y44, y45, y46, y47, y48, y49, y50, y51, y52, y53, y54, y55, y56, y57, y58, y59, y60, y61, y62, y63, y64, y65, y66, y67, y68, y69, y70, y71, y72, y73, y74, y75, y76, y77, y78, y79, y80, y81, y82, y83, y84, y85, y86, y87, y88, y89, y90, y91, y92, y93, y94, y95, y96, y97, y98, y99, y100, y101, y102, y103, y104, y105, y106, y107, y108, y109, y110, y111, y112, y113, y114, y115, y116, y117, y118, y119, y120, y121, y122, y123, y124, y125, y126, y127, y128, y129, y130, y131, y132, y133, y134, y135, y136, y137, y138, y139, y140, y141, y142, y143, y144, y145, y146, y147, y148, y149, y150, y151, y152, y153, y154, y155, y156, y157, y158, y159, y160, y161, y162, y163, y164, y165, y166, y167, y168, y169, y170, y171, y172, y173, y174, y175, y176, y177, y178, y179, y180, y181, y182, y183, y184, y185, y186, y187, y188, y189, y190, y191, y192, y193, y194, y195, y196, y197, y198, y199, y200, y201, y202, y203, y204, y205], []⟩ w') :
    Code.wp Ybaf.prog (mtail 17 Ybaf.f12.body) (bodyPost Ybaf.prog Ybaf.f12 Rq) ⟨#[.slice (some ⟨T, 0, none⟩) N cap, u1, .pointer (some ⟨X, 0, none⟩), u3, u4, .pointer (some ⟨R, 0, none⟩), .pointer (some ⟨M, 0, none⟩), u7, u8, u9, u10, u11, u12, u13, u14, u15, u16, u17, u18, u19, u20, u21, u22, u23, u24, u25, u26, u27, u28, u29, u30, u31, u32, u33, u34, u35, u36, u37, u38, u39, u40, u41, u42, u43, u44, u45, u46, u47, u48, u49, u50, u51, u52, u53, u54, u55, u56, u57, u58, u59, u60, u61, u62, u63, u64, u65, u66, u67, u68, u69, u70, u71, u72, u73, u74, u75, u76, u77, u78, u79, u80, u81, u82, u83, u84, u85, u86, u87, u88, u89, u90, u91, u92, u93, u94, u95, u96, u97, u98, u99, u100, u101, u102, u103, u104, u105, u106, u107, u108, u109, u110, u111, u112, u113, u114, u115, u116, u117, u118, u119, u120, u121, u122, u123, u124, u125, u126, u127, u128, u129, u130, u131, u132, u133, u134, u135, u136, u137, u138, u139, u140, u141, u142, u143, u144, u145, u146, u147, u148, u149, u150, u151, u152, u153, u154, u155, u156, u157, u158, u159, u160, u161, u162, u163, u164, u165, u166, u167, u168, u169, u170, u171, u172, u173, u174, u175, u176, u177, u178, u179, u180, u181, u182, u183, u184, u185, u186, u187, u188, u189, u190, u191, u192, u193, u194, u195, u196, u197, u198, u199, u200, u201, u202, u203, u204, u205], []⟩ W := by
  conv => arg 2; whnf
  conv => arg 4; zeta
  have hct := mcount M T N cap 2 f s W hmd (by omega) hN hN2 hT hf hMT
  obtain ⟨i0, hi, hz0, hz1, hz2⟩ := info_parts info123
  obtain ⟨c, ec⟩ : ∃ c, cnt f N 2 s = c := ⟨_, rfl⟩
  have hc2 : c ≤ 2 := by rw [← ec]; exact cnt_le _ _ _ _
  rw [ec] at hct
  go_upto_block 2 with (go_at_call 25; refine hct.mono ?_; rintro e w1 ⟨rfl, h1, hs1⟩)
  have hst : MFRel M R T N cap B f bs s W (.int .i64 0) w1 := by
    obtain ⟨ga, gc, ps, ga0, gc0, qs, nv, hRr, hH, hnv⟩ := hrep
    exact ⟨0, rfl, Nat.zero_le _, ⟨ga, gc, ps, ga0, gc0, qs, nv, (hs1.block R (Array.getElem?_eq_some_iff.1 hRr).1 (by simp; omega)).trans hRr, hH.same hs1 (fun t ht => apart_one hmd.2 (by omega)), hnv⟩, h1, (hs1.kp hB).more (by simp)⟩
  go_cut [] (fun wx => RepAt wx R T B (fun o => cap - o) bs (fList f N (cntS f N 2 s) (cnt f N 2 s)) none ∧ Md M T N cap (fSt f N (cntS f N 2 s) (cnt f N 2 s)) wx ∧ Kp B [M, R] W wx)
  case rest =>
    obtain ⟨k1, k2, k3⟩ := hcut
    rename_i K hK
    refine hK _ _ ?_
    exact hQ _ _ _ _ _ _ _ _ _ _ _ _ _ _ _ _ _ _ _ _ _ _ _ _ _ _ _ _ _ _ _ _ _ _ _ _ _ _ _ _ _ _ _ _ _ _ _ _ _ _ _ _ _ _ _ _ _ _ _ _ _ _ _ _ _ _ _ _ _ _ _ _ _ _ _ _ _ _ _ _ _ _ _ _ _ _ _ _ _ _ _ _ _ _ _ _ _ _ _ _ _ _ _ _ _ _ _ _ _ _ _ _ _ _ _ _ _ _ _ _ _ _ _ _ _ _ _ _ _ _ _ _ _ _ _ _ _ _ _ _ _ _ _ _ _ _ _ _ _ _ _ _ _ _ _ _ _ _ _ _ _ _ _ _ _ _ _ _ _ _ _ _ _ _ _ _ _ _ _ _ _ _ _ _ _ _ _ _ _ _ _ _ _ _ _ _ _ _ _ _ _ _ _ k1 k2 k3
  case first =>
    have hcI : (c : Int) ≤ 2 := by omega
    clear hct h1 hs1 hrep hmd hQ
    go_wp2
    go_loopw [12] (fun i wr => MFRel M R T N cap B f bs s W i wr) (fun i _ => c - (intOf i).toNat)
    case atStart => exact hst
    case round =>
      obtain ⟨k, rfl, hk, hrep, hmd, hkp⟩ := hrel
      rw [ec] at hk
      by_cases hlt : k < c
      · have i1 : (k : Int) < (c : Int) := by omega
        have i1' : IntKind.i64.wrap ((k : Int) + 1) = (k : Int) + 1 := IntWalk.i64_in _ (by omega)
        obtain ⟨sk, esk⟩ : ∃ sk, fSt f N (cntS f N 2 s) k = sk := ⟨_, rfl⟩
        obtain ⟨lf, el⟩ : ∃ lf, fList f N (cntS f N 2 s) k = lf := ⟨_, rfl⟩
        rw [esk] at hmd
        rw [el] at hrep
        have hTr : Row wr T N f := hT.block (hkp.block T hTB (by simp; omega))
        have HK : Hid (k < c ∧ k ≤ 2 ∧ cnt f N 2 s = c ∧ fSt f N (cntS f N 2 s) k = sk ∧ fList f N (cntS f N 2 s) k = lf) := ⟨hlt, by omega, ec, esk, el⟩
        have hBr := Nat.le_trans hB hkp.size
        clear hk hlt hst hc2 hcI esk el ec
        go_upto_region 22 with fail
        rw [zero34]
        obtain ⟨q, hq⟩ : ∃ q, wr.heap.size = q := ⟨_, rfl⟩
        obtain ⟨w2, hw2⟩ : ∃ w2, wr.alloc (.cells (C34 0 (fun _ => 0) (.slice none 0 0)) 141) = w2 := ⟨_, rfl⟩
        have hq2 : w2.heap[q]? = some (.cells (C34 0 (fun _ => 0) (.slice none 0 0)) 141 (0, 0)) := by rw [← hw2, ← hq]; exact heap_alloc_new wr _
        have hs2 : Same [] wr w2 := by rw [← hw2]; exact Same.alloc _ _ _
        rw [hw2, hq]
        have HQ : Hid (wr.heap.size = q) := hq
        have hqM : q ≠ M := by omega
        have hqT : q ≠ T := by omega
        have h2 := hmd.same hs2 (by simp)
        have hT2 := hTr.same hs2 (by simp)
        have sh : ∀ {a b : World}, Same [M] wr a → Same [q] a b → Same [M] wr b := fun h1 h3 => h1.shed h3 (by have := HQ.out; simp; omega)
        have hn2 := mnum M T N cap 8 f sk w2 h2 (by omega) (by omega) hN hN2 hT2 hf hMT
        obtain ⟨v, ev⟩ : ∃ v, num f N 8 sk = v := ⟨_, rfl⟩
        rw [ev] at hn2
        clear hw2 hq
        go_upto_region 23 with (go_at_call 27; refine hn2.mono ?_; rintro e w3 ⟨rfl, h3, hs3⟩; have hq3 := (hs3.block q (Array.getElem?_eq_some_iff.1 hq2).1 (by simp; omega)).trans hq2; obtain ⟨b0, br, b33, bf⟩ := c34_cells hq3)
        obtain ⟨w4, hw4⟩ : ∃ w4, w3.setCell ⟨q, 0, none⟩ (.int .u64 (v : Int)) = w4 := ⟨_, rfl⟩
        have hq4 : w4.heap[q]? = some (.cells (C34 v (fun _ => 0) (.slice none 0 0)) 141 (0, 0)) := by rw [← hw4]; exact c34_v hq3
        have hs34 : Same [q] w3 w4 := by rw [← hw4]; exact Same.setCell _ _ _ _ (by simp)
        have hS4 : Same [M] wr w4 := sh ((hs2.more (by simp)).trans hs3) hs34
        have h4 := h3.same hs34 (by simp; omega)
        have hT4 := (hT2.same hs3 (by simp; omega)).same hs34 (by simp; omega)
        rw [hw4]
        obtain ⟨s1, es1⟩ : ∃ s1, tk N 8 sk = s1 := ⟨_, rfl⟩
        rw [es1] at h4
        have hh4 := mhash M T N cap f s1 w4 h4 hN hN2 hT4 hf hMT
        obtain ⟨h, eh⟩ : ∃ h, hsh f N s1 = h := ⟨_, rfl⟩
        rw [eh] at hh4
        clear hw4 hn2 hq3 hs34 h3 hs3 h2 hT2 hs2 hq2 b0 br b33 bf
        go_upto_region 24 with (first
          | (go_at_call 26; refine hh4.mono ?_; rintro e w5 ⟨rfl, h5, hs5⟩; have hq5 := (hs5.block q (Array.getElem?_eq_some_iff.1 hq4).1 (by simp; omega)).trans hq4)
          | (refine wpList_store_wide wide60 rfl (.tmp 88) (.tmp 86) rfl rfl q 1 rfl (vals h 32) rfl (length_vals _ _) _ 141 hq5 (by simp [C34, length_vals]) (vals_one _ _) ?_))
        rw [c34_h]
        obtain ⟨w6, hw6⟩ : ∃ w6, w5.setRow q (C34 v h (.slice none 0 0)) = w6 := ⟨_, rfl⟩
        have hq6 : w6.heap[q]? = some (.cells (C34 v h (.slice none 0 0)) 141 (0, 0)) := by rw [← hw6]; exact setRow_heap w5 q _ _ 141 _ hq5
        have hs56 : Same [q] w5 w6 := by rw [← hw6]; exact same_setRow w5 q _
        have hS6 : Same [M] wr w6 := sh (hS4.trans hs5) hs56
        have h6 := h5.same hs56 (by simp; omega)
        have hT6 := (hT4.same hs5 (by simp; omega)).same hs56 (by simp; omega)
        rw [hw6]
        have h6' : Md M T N cap (certMid N sk) w6 := by unfold certMid; rw [es1]; exact h6
        have hce := mcerts M T N cap f (certMid N sk) w6 h6' hN hN2 hT6 hf hMT
        clear hw6 hh4 hq5 hs56 h5 hs5 h4 hT4 hq4 hS4 h6
        go_upto_block 4 with (go_at_call 30; refine hce.mono ?_; rintro e w7 ⟨v5, v6, rfl, ⟨ga5, gc5, gb5, gd5, rfl, rfl, r5, r6⟩, h7, hs7⟩)
        obtain ⟨l, el⟩ : ∃ l, cList f N (cntS f N 256 (certMid N sk)) (cnt f N 256 (certMid N sk)) = l := ⟨_, rfl⟩
        have hll : l.length ≤ 256 := by rw [← el, cList_length]; exact cnt_le _ _ _ _
        rw [el] at r5 r6 ⊢
        have hq7 := (hs7.block q (Array.getElem?_eq_some_iff.1 hq6).1 (by simp; omega)).trans hq6
        have hqs : q < w6.heap.size := (Array.getElem?_eq_some_iff.1 hq6).1
        obtain ⟨B5, hB5⟩ : ∃ B5, w7.heap.size = B5 := ⟨_, rfl⟩
        have hs67 := hs7.size
        have hS7 : Same [M] wr w7 := hS6.trans hs7
        obtain ⟨wA, hwA⟩ : ∃ wA, wA = wr := ⟨_, rfl⟩
        subst hwA
        have hlI : (l.length : Int) ≤ 256 := by omega
        clear hce hq6 h6' hT6 hS6
        go_cut [] (fun wx => CertAt wx 141 147 B5 T (fun o => cap - o) q v h l ∧ Kp B5 [q] w7 wx)
        case first =>
          have hst3 : MWRel 141 147 q B5 T cap v h l w7 (.int .i64 0) w7 := ⟨0, rfl, Nat.zero_le _, ⟨none, 0, hq7, World.ownsRow_nil _ _ _ _⟩, Kp.refl _ _ _⟩
          go_wp2
          go_loopw [16] (fun i wx => MWRel 141 147 q B5 T cap v h l w7 i wx) (fun i _ => l.length - (intOf i).toNat)
          case atStart => exact hst3
          case round =>
            obtain ⟨j, rfl, hj, hA, hkq⟩ := hrel
            by_cases hjl : j < l.length
            · have i2 : (j : Int) < (l.length : Int) := by omega
              have i2' : IntKind.i64.wrap ((j : Int) + 1) = (j : Int) + 1 := IntWalk.i64_in _ (by omega)
              rcases r5.2 with ⟨_, h0⟩ | ⟨g5, c5', cur5, hv5, hg5, hg5h, _⟩
              · omega
              rcases r6.2 with ⟨_, h0⟩ | ⟨g6, c6', cur6, hv6, hg6, hg6h, _⟩
              · omega
              injection hv5 with e5 _ e5c
              injection hv6 with e6 _ e6c
              subst e5 e6
              have hc5 := r5.cells (g := g5) rfl j (.int .i64 (l[j].1 : Int)) (by simp [ints, hjl])
              have hc6 := r6.cells (g := g6) rfl j (sigV T (fun o => cap - o) l[j].2) (by simp [sigs, hjl])
              rw [Addr.add_mid, Nat.zero_add] at hc5 hc6
              have hg5l : g5 < B5 := by rw [← hB5]; exact (Array.getElem?_eq_some_iff.1 hg5h).1
              have hg6l : g6 < B5 := by rw [← hB5]; exact (Array.getElem?_eq_some_iff.1 hg6h).1
              have hc5r := (World.cell?_of_block (w := w7) (hkq.block g5 hg5l (by simp; omega))).trans hc5
              have hc6r := (World.cell?_of_block (w := w7) (hkq.block g6 hg6l (by simp; omega))).trans hc6
              have htk : l.take (j + 1) = l.take j ++ [l[j]] := by rw [List.take_add_one, List.getElem?_eq_getElem hjl]; rfl
              have hBx : B5 ≤ wr.heap.size := by rw [← hB5]; exact hkq.size
              have HJ : Hid (j < l.length) := hjl
              go_upto_region 28 with fail
              refine push28 q g5 gc5 g6 gd5 l.length j B5 T (fun o => cap - o) v h (l.take j) l[j] wr _ hA hc5r hc6r hjl (by simp; omega) hBx (by omega) hg5l hg6l (by omega) (by omega) (fun _ _ d _ _ h => by cases d <;> exact h) _ _ _ _ _ _ _ _ _ _ _ _ _ _ _ _ _ _ _ _ _ _ _ _ _ _ _ _ _ _ _ _ _ _ _ _ _ _ _ _ _ _ _ _ _ _ _ _ _ _ _ _ _ _ _ _ _ _ _ _ _ _ _ _ _ _ _ _ _ _ _ _ _ _ _ _ _ _ _ _ _ _ _ _ _ _ _ _ _ _ _ _ _ _ _ _ _ _ _ _ _ _ _ _ _ _ _ _ _ _ _ _ _ _ _ _ _ _ _ _ _ _ _ _ _ _ _ _ _ _ _ _ _ _ _ _ _ _ _ _ _ _ _ _ _ _ _ _ _ _ _ _ _ _ _ _ _ _ _ _ _ _ _ _ _ _ _ _ _ _ _ _ _ _ _ _ _ _ _ _ _ _ _ _ _ _ _ _ _ _ _ _ _ _ _ _ _ _ _ _ _ _ ?_
              intro w8 hA8 hk8 y0 y1 y2 y3 y4 y5 y6 y7 y8 y9 y10 y11 y12 y13 y14 y15 y16 y17 y18 y19 y20 y21 y22 y23 y24 y25
              have hrel8 : MWRel 141 147 q B5 T cap v h l w7 (.int .i64 ((j + 1 : Nat) : Int)) w8 := ⟨j + 1, rfl, by have := HJ.out; omega, by rw [htk]; exact hA8, hkq.trans hk8⟩
              conv => arg 4; zeta
              clear hA8 hk8 hc5 hc6 hc5r hc6r hA hkq htk
              go_wp2
              go_roundw
              case rel =>
                rw [show ((j + 1 : Nat) : Int) = (j : Int) + 1 by omega] at hrel8
                first | exact hrel8 | ((repeat apply Exists.intro); exact ⟨hrel8, rfl⟩)
              case measure =>
                have := HJ.out
                simp [intOf]
                omega
            · have hje : j = l.length := by omega
              have i2 : ¬ (j : Int) < (l.length : Int) := by omega
              rw [List.take_of_length_le (by omega)] at hA
              have HX : Hid (CertAt wr 141 147 B5 T (fun o => cap - o) q v h l ∧ Kp B5 [q] w7 wr) := ⟨hA, hkq⟩
              clear hA hkq hst3
              go_wp2
              go_meet
              exact HX.out
        case rest =>
          obtain ⟨hA, hkq⟩ := hcut
          have hS9 : Same [q] w7 wc := hkq.same (by omega) (fun k hk => .inl hk)
          have h9 := h7.same hS9 (by simp; omega)
          have hS12 : Same [M] wA wc := sh hS7 hS9
          obtain ⟨xa, xc, hx1, hx2⟩ := hA
          have hX : CertX wc 141 147 T (fun o => cap - o) q (certOf f N sk) := by
            have e1 : (certOf f N sk).v = v := ev
            have e2 : (certOf f N sk).h = h := by show hsh f N (tk N 8 sk) = h; rw [es1]; exact eh
            have e3 : (certOf f N sk).l = l := el
            unfold CertX
            rw [e1, e2, e3]
            exact ⟨xa, xc, hx1, own_base hx2 (Nat.zero_le _)⟩
          have h12 : Md M T N cap (certS f N sk) wc := h9
          obtain ⟨ga, gc, ps, ga0, gc0, qs, nv, hRr, hH, hnv⟩ := hrep
          have hRc := (hS12.block R (Array.getElem?_eq_some_iff.1 hRr).1 (by simp; omega)).trans hRr
          obtain ⟨d0, d1, d2, df⟩ := rcells97 hRc
          have hMr := hmd.2
          have hrow := own_same' hH.row2 hS12 (apart_one hMr (by omega))
          have hpl : qs.length ≤ 2 := by rw [hH.ct.1]; obtain ⟨k1, k2, k3, k4, k5⟩ := HK.out; rw [← k5, fList_length]; exact k2
          have hRl : R < wc.heap.size := (Array.getElem?_eq_some_iff.1 hRc).1
          have hRn : ¬ R = wc.heap.size := by omega
          have HP : Hid (qs.length ≤ 2 ∧ B ≤ wc.heap.size) := ⟨hpl, Nat.le_trans hBr hS12.size⟩
          clear hpl hT hTr es1 eh ev el r5 r6 h7 hs7 hS7 hS9 h9 hx1 hx2 hq7 hqs hs67 hlI hll hB5 hkq
          go_wp2_with (at_builtin; refine wpList_append_own _ rfl (.tmp 127) (.tmp 129) 94 rfl B 123 i0 (.pointer none) 1 8 Ybaf.underlying94 hi hz0 hz1 hz2 rfl (by omega) (.slice ga0 qs.length gc0) qs.length _ rfl (hrow.alloc _) ⟨wc.heap.size, 0, none⟩ 1 1 [.pointer (some ⟨q, 0, none⟩)] rfl rfl (new_cells wc [.pointer (some ⟨q, 0, none⟩)] 123) (fun u hu => by rw [List.mem_singleton.1 hu]; rfl) (by have := HP.out; unfold maxLen; omega) (by have := HP.out; omega) (by have := HP.out; simp; omega) ?_; intro v' w13 hown13 hgrow13 hnil13; obtain ⟨ga2, gc2, hv13⟩ := own_slice hown13; subst hv13; obtain ⟨m1, m2, m3, m4, m5⟩ := rep_pushF2 (nt := none) hRr hH rfl hnv (.inr rfl) hMr hMR hX hS12 hown13 hgrow13 hBr h12.2)
          have hrel2 : MFRel M R T N cap B f bs s W (.int .i64 ((k + 1 : Nat) : Int)) (w13.setCell ⟨R, 1, none⟩ (.slice ga2 (qs.length + 1) gc2)) := by
            obtain ⟨k1, k2, k3, k4, k5⟩ := HK.out
            refine ⟨k + 1, rfl, by rw [k3]; omega, ?_, ⟨?_, ?_⟩, hkp.trans m5⟩
            · show RepAt _ R T B _ bs (fList f N (cntS f N 2 s) k ++ [certOf f N (fSt f N (cntS f N 2 s) k)]) none
              rw [k4, k5]
              exact m3
            · show (certS f N (fSt f N (cntS f N 2 s) k)).p ≤ N
              rw [k4]
              exact h12.1
            · show (World.setCell _ _ _).heap[M]? = some (.cells #[_, .int .i64 ((certS f N (fSt f N (cntS f N 2 s) k)).p : Int), .int .i64 ((certS f N (fSt f N (cntS f N 2 s) k)).k : Int)] 133 (0, 0))
              rw [k4]
              exact m4.trans h12.2
          clear m1 m2 m3 m4 m5 hown13 hgrow13 hnil13 hrow hRr hH hnv h12 hS12 hX hMr hkp hmd
          go_roundw
          case rel =>
            rw [show ((k + 1 : Nat) : Int) = (k : Int) + 1 by omega] at hrel2
            first | exact hrel2 | ((repeat apply Exists.intro); exact ⟨hrel2, rfl⟩)
          case measure =>
            have := HK.out
            simp [intOf]
            omega
      · have hkc : k = c := by omega
        subst hkc
        have i1 : ¬ (k : Int) < (k : Int) := by omega
        have HX : Hid (RepAt wr R T B (fun o => cap - o) bs (fList f N (cntS f N 2 s) (cnt f N 2 s)) none ∧ Md M T N cap (fSt f N (cntS f N 2 s) (cnt f N 2 s)) wr ∧ Kp B [M, R] W wr) := ⟨by rw [ec]; exact hrep, by rw [ec]; exact hmd, hkp⟩
        clear hrep hmd hkp ec hst
        go_wp2
        go_meet
        exact HX.out
end Go.Proofs.YbulkdlruFmt
