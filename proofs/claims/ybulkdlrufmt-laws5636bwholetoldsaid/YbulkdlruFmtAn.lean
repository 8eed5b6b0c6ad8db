/-
  The law behind the reader: its own parser, the comparison.
-/
import Derived.Test.YbulkdlruFmtAm
import Derived.Test.YbulkdlruFmtAl
namespace Go.Proofs.YbulkdlruFmt
open Go.RowKit Go.Shelf
set_option linter.unusedVariables false
set_option linter.unusedSimpArgs false

theorem one97 {w : World} {T : Nat} {cf : Nat → Nat} {nv : Value} {nt : Option PC} (h : NotAt w T cf nv nt) (ga ga2 : Option Addr) (n n2 gc gc2 : Nat) : ∀ u ∈ [.slice ga n gc, .slice ga2 n2 gc2, nv], u.oneCell' = true := by
  intro u hu
  simp only [List.mem_cons, List.not_mem_nil, or_false] at hu
  rcases hu with rfl | rfl | rfl
  · rfl
  · rfl
  · cases nt with
    | none => rw [show u = .pointer none from h]; rfl
    | some c => obtain ⟨b, h1, _⟩ := h; rw [h1]; rfl
theorem NotAt.nil {w w' : World} {T : Nat} {cf : Nat → Nat} {nv : Value} {nt : Option PC} (h : NotAt w T cf nv nt) (hs : Same [] w w') : NotAt w' T cf nv nt := by
  cases nt with
  | none => exact h
  | some c => obtain ⟨b, h1, h2⟩ := h; exact ⟨b, h1, h2.same hs (fun _ _ _ => by simp) (fun _ _ _ => by simp)⟩

set_option maxRecDepth 100000 in
set_option maxHeartbeats 4000000 in
theorem law59 (I R T N cap Bz : Nat) (f : Nat → Nat) (ee : Addr) (v0 : Value) (W : World) (Rq : Ending → World → Prop) (hN : N ≤ cap) (hN2 : (N : Int) ≤ 200000000) (hT : Row W T N f) (hf : ∀ i, f i < 256)
    (hrep : RepAt W R T Bz (fun _ => 64) (parse f N ⟨0, 0⟩).bs (parse f N ⟨0, 0⟩).cs (parse f N ⟨0, 0⟩).nt) (hrd : Rd I T N cap ee (parse f N ⟨0, 0⟩).st W) (hg0 : W.cell? ⟨0, 0, none⟩ = some (.iface 118 (.pointer (some ee)))) (hee : W.cell? ee = some v0)
    (u0 u1 u2 u3 u4 u5 u6 u7 u8 u9 u10 u11 u12 u13 u14 u15 u16 u17 u18 u19 u20 u21 u23 u24 u25 u26 u27 u28 u30 u32 u33 u34 u35 u36 u37 u38 u39 u40 u41 u42 u43 u44 u45 u46 u47 u48 u49 u50 u51 u52 u53 u54 u55 u56 u57 u58 u59 u60 u61 u62 u63 u64 u65 u66 u67 u68 u69 u70 u71 u72 u73 u74 u75 u76 u77 u78 u79 u80 u81 u82 u83 u84 u85 u86 u87 u88 u89 u90 u91 u92 u93 u94 u95 u96 u97 u98 u99 u100 u101 u102 u103 u104 u105 u106 u107 u108 u109 u110 u111 u112 u113 u114 u115 u116 u117 u118 u119 u120 u121 u122 u123 u124 u125 u126 u127 u128 u129 u130 u131 u132 u133 u134 u135 u136 u137 u138 u139 u140 u141 u142 u143 u144 u145 u146 u147 u148 u149 u150 u151 u152 u153 u154 u155 u156 u157 u158 u159 u160 u161 u162 u163 u164 u165 u166 u167 u168 u169 u170 u171 u172 u173 u174 u175 u176 u177 u178 u179 u180 u181 u182 u183 u184 u185 u186 u187 u188 u189 u190 u191 u192 u193 u194 u195 u196 u197 u198 u199 u200 u201 u202 u203 u204 u205 u206 u207 u208 u209 u210 u211 u212 u213 u214 u215 u216 u217 u218 u219 u220 u221 u222 u223 u224 u225 u226 u227 u228 u229 u230 u231 u232 u233 u234 u235 u236 u237 u238 u239 u240 u241 u242 u243 u244 u245 u246 u247 u248 u249 u250 u251 u252 u253 u254 u255 u256 u257 u258 u259 u260 u261 u262 u263 u264 u265 u266 u267 u268 u269 u270 u271 u272 u273 u274 u275 u276 u277 u278 u279 u280 u281 u282 u283 u284 u285 u286 u287 u288 u289 u290 u291 u292 u293 u294 u295 u296 u297 u298 u299 u300 u301 u302 u303 u304 u305 u306 u307 u308 u309 u310 u311 u312 u313 u314 u315 u316 u317 u318 u319 u320 u321 u322 u323 u324 u325 u326 u327 u328 u329 : Value)
    (hQ : ∀ w', Same [] W w' → Rq (.returned (.bool true)) w') :
    Code.wp Ybaf.prog (mtail 59 Ybaf.f4.body) (bodyPost Ybaf.prog Ybaf.f4 Rq) ⟨#[u0, u1, u2, u3, u4, u5, u6, u7, u8, u9, u10, u11, u12, u13, u14, u15, u16, u17, u18, u19, u20, u21, .slice (some ⟨T, 0, none⟩) N cap, u23, u24, u25, u26, u27, u28, .pointer (some ⟨I, 0, none⟩), u30, .pointer (some ⟨R, 0, none⟩), u32, u33, u34, u35, u36, u37, u38, u39, u40, u41, u42, u43, u44, u45, u46, u47, u48, u49, u50, u51, u52, u53, u54, u55, u56, u57, u58, u59, u60, u61, u62, u63, u64, u65, u66, u67, u68, u69, u70, u71, u72, u73, u74, u75, u76, u77, u78, u79, u80, u81, u82, u83, u84, u85, u86, u87, u88, u89, u90, u91, u92, u93, u94, u95, u96, u97, u98, u99, u100, u101, u102, u103, u104, u105, u106, u107, u108, u109, u110, u111, u112, u113, u114, u115, u116, u117, u118, u119, u120, u121, u122, u123, u124, u125, u126, u127, u128, u129, u130, u131, u132, u133, u134, u135, u136, u137, u138, u139, u140, u141, u142, u143, u144, u145, u146, u147, u148, u149, u150, u151, u152, u153, u154, u155, u156, u157, u158, u159, u160, u161, u162, u163, u164, u165, u166, u167, u168, u169, u170, u171, u172, u173, u174, u175, u176, u177, u178, u179, u180, u181, u182, u183, u184, u185, u186, u187, u188, u189, u190, u191, u192, u193, u194, u195, u196, u197, u198, u199, u200, u201, u202, u203, u204, u205, u206, u207, u208, u209, u210, u211, u212, u213, u214, u215, u216, u217, u218, u219, u220, u221, u222, u223, u224, u225, u226, u227, u228, u229, u230, u231, u232, u233, u234, u235, u236, u237, u238, u239, u240, u241, u242, u243, u244, u245, u246, u247, u248, u249, u250, u251, u252, u253, u254, u255, u256, u257, u258, u259, u260, u261, u262, u263, u264, u265, u266, u267, u268, u269, u270, u271, u272, u273, u274, u275, u276, u277, u278, u279, u280, u281, u282, u283, u284, u285, u286, u287, u288, u289, u290, u291, u292, u293, u294, u295, u296, u297, u298, u299, u300, u301, u302, u303, u304, u305, u306, u307, u308, u309, u310, u311, u312, u313, u314, u315, u316, u317, u318, u319, u320, u321, u322, u323, u324, u325, u326, u327, u328, u329], []⟩ W := by
  conv => arg 2; whnf
  conv => arg 4; zeta
  have hm := model_any T N cap f W hN hN2 hT hf
  go_upto_region 60 with (first
    | (go_at_call 12; refine hm.mono ?_; rintro e w1 ⟨B, ga, gc, ps, ga2, gc2, qs, nv, rfl, hH, hnt, hs1⟩; have hone := one97 hnt ga ga2 ps.length qs.length gc gc2)
    | (refine wpList_store_wide wide97 rfl (.tmp 32) (.tmp 261) rfl rfl w1.heap.size 0 rfl [.slice ga ps.length gc, .slice ga2 qs.length gc2, nv] rfl rfl #[.slice none 0 0, .slice none 0 0, .pointer none] 97 (heap_alloc_new w1 _) (by simp) hone ?_))
  obtain ⟨X, hX⟩ : ∃ X, w1.heap.size = X := ⟨_, rfl⟩
  obtain ⟨w2, hw2⟩ : ∃ w2, (w1.alloc (.cells #[.slice none 0 0, .slice none 0 0, .pointer none] 97)).setRow w1.heap.size ((#[Value.slice none 0 0, .slice none 0 0, .pointer none] : Array Value).toList.take 0 ++ [.slice ga ps.length gc, .slice ga2 qs.length gc2, nv] ++ (#[Value.slice none 0 0, .slice none 0 0, .pointer none] : Array Value).toList.drop (0 + 3)).toArray = w2 := ⟨_, rfl⟩
  rw [hw2]
  have hX2 : w2.heap[X]? = some (.cells #[.slice ga ps.length gc, .slice ga2 qs.length gc2, nv] 97 (0, 0)) := by rw [← hw2, ← hX]; exact setRow_heap _ _ _ _ 97 _ (heap_alloc_new w1 _)
  have hs2 : Same [] w1 w2 := by rw [← hw2]; exact (Same.alloc [] w1 _).shed (same_setRow _ _ _) (by simp)
  rw [hX]
  have hs02 := hs1.trans hs2
  have hXr : RepAt w2 X T B (fun o => cap - o) (parse f N ⟨0, 0⟩).bs (parse f N ⟨0, 0⟩).cs (parse f N ⟨0, 0⟩).nt := ⟨ga, gc, ps, ga2, gc2, qs, nv, hX2, hH.same hs2 (fun _ _ _ _ _ => by simp), hnt.nil hs2⟩
  have hRr := hrep.nil hs02
  have hT2 := hT.same hs02 (by simp)
  have hrd2 := hrd.same hs02 (by simp)
  have hg2 := (World.cell?_of_block (w := W) (hs02.block 0 (World.block_lt_of_cell? W _ hg0) (by simp))).trans hg0
  have hee2 := (World.cell?_of_block (w := W) (hs02.block ee.block (World.block_lt_of_cell? W _ hee) (by simp))).trans hee
  have hsp := fun (Z : World) (h : Same [] w2 Z) => same_parse R X T N Bz B (fun _ => 64) (fun o => cap - o) f ⟨0, 0⟩ Z (hT2.same h (by simp)) (hRr.nil h) (hXr.nil h)
  have HQ : Hid (∀ w', Same [] w2 w' → Rq (.returned (.bool true)) w') := fun w' h => hQ w' (hs02.trans h)
  clear hQ hw2 hX hm hH hnt hone hs1 hs2 hs02 hX2 hXr hRr hrep hrd hT hg0 hee
  obtain ⟨stt, hstt⟩ : ∃ stt, (parse f N ⟨0, 0⟩).st = stt := ⟨_, rfl⟩
  rw [hstt] at hrd2 ⊢
  clear hstt
  obtain ⟨p, k⟩ := stt
  obtain ⟨rv, ev, hI, hV⟩ := hrd2
  obtain ⟨c0, c1, cf⟩ := icells hI
  rcases hV with ⟨hk, hp, he, o, hr, ho⟩ | ⟨hk, hr, he⟩ | ⟨hk, hr, a, he, hne, hb⟩
  · simp only at hk hp hr ho
    subst hk he hr
    obtain ⟨d, hd⟩ : ∃ d, N = p + d := ⟨N - p, by omega⟩
    obtain ⟨c, hc⟩ : ∃ c, cap = p + c := ⟨cap - p, by omega⟩
    rw [show N - p = d by omega, show cap - p = c by omega] at c0
    obtain ⟨o2, ho2⟩ : ∃ o2, (c = 0 ∧ o2 = 0) ∨ (c ≠ 0 ∧ o2 = p) := by
      by_cases h0 : c = 0
      · exact ⟨0, .inl ⟨h0, rfl⟩⟩
      · exact ⟨p, .inr ⟨h0, rfl⟩⟩
    have heq : Calls Ybaf.prog 11 #[.slice (some ⟨T, o, none⟩) d c, .slice (some ⟨T, o2, none⟩) d c] w2.drew fun e w' => e = .returned (.bool true) ∧ w' = w2.drew := by
      refine equal_any _ _ d d c c (fun i => f (p + i)) (fun i => f (p + i)) w2.drew ?_ ?_ rfl (fun _ _ => rfl)
      · by_cases h0 : d = 0
        · exact .inl h0
        · exact .inr ⟨T, o, rfl, fun i hi => by (obtain rfl : o = p := by omega); exact hT2.cell (by omega)⟩
      · by_cases h0 : d = 0
        · exact .inl h0
        · exact .inr ⟨T, o2, rfl, fun i hi => by (obtain rfl : o2 = p := by omega); exact hT2.cell (by omega)⟩
    have HD : Hid (N = p + d ∧ cap = p + c ∧ N ≤ cap ∧ (N : Int) ≤ 200000000 ∧ ((c = 0 ∧ o2 = 0) ∨ (c ≠ 0 ∧ o2 = p))) := ⟨hd, hc, hN, hN2, ho2⟩
    clear hd hc hN hN2 ho2 hp ho hT2 hI hg2 hee2
    go_upto_region 66 with fail
    refine cmp66 I T N cap p d c o o2 _ _ HD.out.1 HD.out.2.1 HD.out.2.2.1 HD.out.2.2.2.1 HD.out.2.2.2.2 c0 heq (fun _ _ d _ _ h => by cases d <;> exact h) _ _ _ _ _ _ _ _ _ _ _ _ _ _ _ _ _ _ _ _ _ _ _ _ _ _ _ _ _ _ _ _ _ _ _ _ _ _ _ _ _ _ _ _ _ _ _ _ _ _ _ _ _ _ _ _ _ _ _ _ _ _ _ _ _ _ _ _ _ _ _ _ _ _ _ _ _ _ _ _ _ _ _ _ _ _ _ _ _ _ _ _ _ _ _ _ _ _ _ _ _ _ _ _ _ _ _ _ _ _ _ _ _ _ _ _ _ _ _ _ _ _ _ _ _ _ _ _ _ _ _ _ _ _ _ _ _ _ _ _ _ _ _ _ _ _ _ _ _ _ _ _ _ _ _ _ _ _ _ _ _ _ _ _ _ _ _ _ _ _ _ _ _ _ _ _ _ _ _ _ _ _ _ _ _ _ _ _ _ _ _ _ _ _ _ _ _ _ _ _ _ _ _ _ _ _ _ _ _ _ _ _ _ _ _ _ _ _ _ _ _ _ _ _ _ _ _ _ _ _ _ _ _ _ _ _ _ _ _ _ _ _ _ _ _ _ _ _ _ _ _ _ _ _ _ _ _ _ _ _ _ _ _ _ _ _ _ _ _ _ _ _ _ _ _ _ _ _ _ _ _ _ _ _ _ _ _ _ _ _ _ _ _ _ _ _ _ _ _ _ _ _ _ _ _ _ _ _ _ _ _ _ _ _ _ _ _ _ _ _ _ _ _ _ _ _ _ ?_
    intro y292 y293 y294 y295 y296 y297 y298 y299 y300 y301 y302 y303 y304 y305 y306 y307 y308 y309 y310 y311
    conv => arg 4; zeta
    have hsm := hsp w2.drew (Same.drew _ _)
    clear hsp heq c0 c1 cf
    go_wp2_with (go_at_call 13; refine hsm.mono ?_; rintro e w3 ⟨rfl, hs3⟩)
    exact HQ.out _ ((Same.drew _ _).trans hs3)
  · simp only at hk
    subst hk he hr
    go_upto_region 69 with fail
    refine cmp69 I ee _ _ c1 hg2 c0 (fun _ _ d _ _ h => by cases d <;> exact h) _ _ _ _ _ _ _ _ _ _ _ _ _ _ _ _ _ _ _ _ _ _ _ _ _ _ _ _ _ _ _ _ _ _ _ _ _ _ _ _ _ _ _ _ _ _ _ _ _ _ _ _ _ _ _ _ _ _ _ _ _ _ _ _ _ _ _ _ _ _ _ _ _ _ _ _ _ _ _ _ _ _ _ _ _ _ _ _ _ _ _ _ _ _ _ _ _ _ _ _ _ _ _ _ _ _ _ _ _ _ _ _ _ _ _ _ _ _ _ _ _ _ _ _ _ _ _ _ _ _ _ _ _ _ _ _ _ _ _ _ _ _ _ _ _ _ _ _ _ _ _ _ _ _ _ _ _ _ _ _ _ _ _ _ _ _ _ _ _ _ _ _ _ _ _ _ _ _ _ _ _ _ _ _ _ _ _ _ _ _ _ _ _ _ _ _ _ _ _ _ _ _ _ _ _ _ _ _ _ _ _ _ _ _ _ _ _ _ _ _ _ _ _ _ _ _ _ _ _ _ _ _ _ _ _ _ _ _ _ _ _ _ _ _ _ _ _ _ _ _ _ _ _ _ _ _ _ _ _ _ _ _ _ _ _ _ _ _ _ _ _ _ _ _ _ _ _ _ _ _ _ _ _ _ _ _ _ _ _ _ _ _ _ _ _ _ _ _ _ _ _ _ _ _ _ _ _ _ _ _ _ _ _ _ _ _ _ _ _ _ _ _ _ _ _ _ _ _ _ ?_
    intro y315 y316 y317 y318 y319 y320 y321 y322 y323 y324 y325 y326
    conv => arg 4; zeta
    have hsm := hsp w2.drew (Same.drew _ _)
    clear hsp c0 c1 cf hg2 hee2 hT2 hI
    go_wp2_with (go_at_call 13; refine hsm.mono ?_; rintro e w3 ⟨rfl, hs3⟩)
    exact HQ.out _ ((Same.drew _ _).trans hs3)
  · simp only at hk
    subst hk he hr
    go_upto_region 61 with fail
    refine cmp61 I a ee v0 _ _ hne c1 hg2 c0 hb hee2 (fun _ _ d _ _ h => by cases d <;> exact h) _ _ _ _ _ _ _ _ _ _ _ _ _ _ _ _ _ _ _ _ _ _ _ _ _ _ _ _ _ _ _ _ _ _ _ _ _ _ _ _ _ _ _ _ _ _ _ _ _ _ _ _ _ _ _ _ _ _ _ _ _ _ _ _ _ _ _ _ _ _ _ _ _ _ _ _ _ _ _ _ _ _ _ _ _ _ _ _ _ _ _ _ _ _ _ _ _ _ _ _ _ _ _ _ _ _ _ _ _ _ _ _ _ _ _ _ _ _ _ _ _ _ _ _ _ _ _ _ _ _ _ _ _ _ _ _ _ _ _ _ _ _ _ _ _ _ _ _ _ _ _ _ _ _ _ _ _ _ _ _ _ _ _ _ _ _ _ _ _ _ _ _ _ _ _ _ _ _ _ _ _ _ _ _ _ _ _ _ _ _ _ _ _ _ _ _ _ _ _ _ _ _ _ _ _ _ _ _ _ _ _ _ _ _ _ _ _ _ _ _ _ _ _ _ _ _ _ _ _ _ _ _ _ _ _ _ _ _ _ _ _ _ _ _ _ _ _ _ _ _ _ _ _ _ _ _ _ _ _ _ _ _ _ _ _ _ _ _ _ _ _ _ _ _ _ _ _ _ _ _ _ _ _ _ _ _ _ _ _ _ _ _ _ _ _ _ _ _ _ _ _ _ _ _ _ _ _ _ _ _ _ _ _ _ _ _ _ _ _ _ _ _ _ _ _ _ _ _ _ ?_
    intro y265 y266 y267 y268 y269 y270 y271 y272 y273 y274 y275 y276 y277 y278 y279 y280 y281 y282 y283
    conv => arg 4; zeta
    have hsm := hsp w2.drew (Same.drew _ _)
    clear hsp c0 c1 cf hg2 hee2 hT2 hI hb
    go_wp2_with (go_at_call 13; refine hsm.mono ?_; rintro e w3 ⟨rfl, hs3⟩)
    exact HQ.out _ ((Same.drew _ _).trans hs3)
end Go.Proofs.YbulkdlruFmt
