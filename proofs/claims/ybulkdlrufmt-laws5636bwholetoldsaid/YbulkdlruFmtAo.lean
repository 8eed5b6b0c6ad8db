/-
  The law from the reader on.
-/
import Derived.Test.YbulkdlruFmtAn
namespace Go.Proofs.YbulkdlruFmt
open Go.RowKit Go.Shelf Go.Extern.Stop Go.Stop Go.Extern
set_option linter.unusedVariables false
set_option linter.unusedSimpArgs false

set_option maxRecDepth 100000 in
set_option maxHeartbeats 4000000 in
theorem law50_no (F : Interp) (T N cap : Nat) (f : Nat → Nat) (ee : Addr) (v0 : Value) (W : World) (Rq : Ending → World → Prop) (hF : F.answers W.tape) (hE : Env T N cap f ee W) (hee : W.cell? ee = some v0)
    (u0 u1 u2 u3 u4 u5 u6 u7 u9 u10 u11 u12 u13 u14 u15 u16 u17 u18 u19 u20 u21 u23 u24 u25 u26 u27 u28 u29 u30 u31 u32 u33 u34 u35 u36 u37 u38 u39 u40 u41 u42 u43 u44 u45 u46 u47 u48 u49 u50 u51 u52 u53 u54 u55 u56 u57 u58 u59 u60 u61 u62 u63 u64 u65 u66 u67 u68 u69 u70 u71 u72 u73 u74 u75 u76 u77 u78 u79 u80 u81 u82 u83 u84 u85 u86 u87 u88 u89 u90 u91 u92 u93 u94 u95 u96 u97 u98 u99 u100 u101 u102 u103 u104 u105 u106 u107 u108 u109 u110 u111 u112 u113 u114 u115 u116 u117 u118 u119 u120 u121 u122 u123 u124 u125 u126 u127 u128 u129 u130 u131 u132 u133 u134 u135 u136 u137 u138 u139 u140 u141 u142 u143 u144 u145 u146 u147 u148 u149 u150 u151 u152 u153 u154 u155 u156 u157 u158 u159 u160 u161 u162 u163 u164 u165 u166 u167 u168 u169 u170 u171 u172 u173 u174 u175 u176 u177 u178 u179 u180 u181 u182 u183 u184 u185 u186 u187 u188 u189 u190 u191 u192 u193 u194 u195 u196 u197 u198 u199 u200 u201 u202 u203 u204 u205 u206 u207 u208 u209 u210 u211 u212 u213 u214 u215 u216 u217 u218 u219 u220 u221 u222 u223 u224 u225 u226 u227 u228 u229 u230 u231 u232 u233 u234 u235 u236 u237 u238 u239 u240 u241 u242 u243 u244 u245 u246 u247 u248 u249 u250 u251 u252 u253 u254 u255 u256 u257 u258 u259 u260 u261 u262 u263 u264 u265 u266 u267 u268 u269 u270 u271 u272 u273 u274 u275 u276 u277 u278 u279 u280 u281 u282 u283 u284 u285 u286 u287 u288 u289 u290 u291 u292 u293 u294 u295 u296 u297 u298 u299 u300 u301 u302 u303 u304 u305 u306 u307 u308 u309 u310 u311 u312 u313 u314 u315 u316 u317 u318 u319 u320 u321 u322 u323 u324 u325 u326 u327 u328 u329 : Value)
    (hQ : ∀ w', Same [] W w' → Rq (.returned (.bool true)) w') :
    Code.wp Ybaf.prog (mtail 50 Ybaf.f4.body) (bodyPost Ybaf.prog Ybaf.f4 Rq) ⟨#[u0, u1, u2, u3, u4, u5, u6, u7, .bool false, u9, u10, u11, u12, u13, u14, u15, u16, u17, u18, u19, u20, u21, .slice (some ⟨T, 0, none⟩) N cap, u23, u24, u25, u26, u27, u28, u29, u30, u31, u32, u33, u34, u35, u36, u37, u38, u39, u40, u41, u42, u43, u44, u45, u46, u47, u48, u49, u50, u51, u52, u53, u54, u55, u56, u57, u58, u59, u60, u61, u62, u63, u64, u65, u66, u67, u68, u69, u70, u71, u72, u73, u74, u75, u76, u77, u78, u79, u80, u81, u82, u83, u84, u85, u86, u87, u88, u89, u90, u91, u92, u93, u94, u95, u96, u97, u98, u99, u100, u101, u102, u103, u104, u105, u106, u107, u108, u109, u110, u111, u112, u113, u114, u115, u116, u117, u118, u119, u120, u121, u122, u123, u124, u125, u126, u127, u128, u129, u130, u131, u132, u133, u134, u135, u136, u137, u138, u139, u140, u141, u142, u143, u144, u145, u146, u147, u148, u149, u150, u151, u152, u153, u154, u155, u156, u157, u158, u159, u160, u161, u162, u163, u164, u165, u166, u167, u168, u169, u170, u171, u172, u173, u174, u175, u176, u177, u178, u179, u180, u181, u182, u183, u184, u185, u186, u187, u188, u189, u190, u191, u192, u193, u194, u195, u196, u197, u198, u199, u200, u201, u202, u203, u204, u205, u206, u207, u208, u209, u210, u211, u212, u213, u214, u215, u216, u217, u218, u219, u220, u221, u222, u223, u224, u225, u226, u227, u228, u229, u230, u231, u232, u233, u234, u235, u236, u237, u238, u239, u240, u241, u242, u243, u244, u245, u246, u247, u248, u249, u250, u251, u252, u253, u254, u255, u256, u257, u258, u259, u260, u261, u262, u263, u264, u265, u266, u267, u268, u269, u270, u271, u272, u273, u274, u275, u276, u277, u278, u279, u280, u281, u282, u283, u284, u285, u286, u287, u288, u289, u290, u291, u292, u293, u294, u295, u296, u297, u298, u299, u300, u301, u302, u303, u304, u305, u306, u307, u308, u309, u310, u311, u312, u313, u314, u315, u316, u317, u318, u319, u320, u321, u322, u323, u324, u325, u326, u327, u328, u329], []⟩ W := by
  conv => arg 2; whnf
  conv => arg 4; zeta
  go_upto_region 56 with fail
  obtain ⟨I, hI⟩ : ∃ I, W.heap.size = I := ⟨_, rfl⟩
  obtain ⟨w1, hw1⟩ : ∃ w1, W.alloc (.cells #[.slice (some ⟨T, 0, none⟩) N cap, .nilIface] 90) = w1 := ⟨_, rfl⟩
  have hz1 : w1.heap.size = I + 1 := by rw [← hw1, ← hI]; simp
  have hI1 : w1.heap[I]? = some (.cells #[.slice (some ⟨T, 0, none⟩) N cap, .nilIface] 90 (0, 0)) := by rw [← hw1, ← hI]; exact heap_alloc_new W _
  have hs1 : Same [] W w1 := by rw [← hw1]; exact Same.alloc _ _ _
  rw [hw1, hI]
  obtain ⟨w2, hw2⟩ : ∃ w2, w1.alloc (.cells #[.slice none 0 0, .slice none 0 0, .pointer none] 97) = w2 := ⟨_, rfl⟩
  have hR2 : w2.heap[I + 1]? = some (.cells #[.slice none 0 0, .slice none 0 0, .pointer none] 97 (0, 0)) := by rw [← hw2, ← hz1]; exact heap_alloc_new w1 _
  have hs2 : Same [] w1 w2 := by rw [← hw2]; exact Same.alloc _ _ _
  rw [hw2]
  have hI2 := (hs2.block I (by omega) (by simp)).trans hI1
  have hs02 := hs1.trans hs2
  have hE2 := hE.same hs02 (by simp) (by simp)
  have hTl := hE.row.lt
  have h0l := World.block_lt_of_cell? W _ hE.g0
  simp only at h0l
  have hrd2 : Rd I T N cap ee ⟨0, 0⟩ w2 := ⟨_, _, hI2, .inl ⟨rfl, Nat.zero_le _, rfl, 0, rfl, .inl rfl⟩⟩
  have hra := reply_any F I (I + 1) T N cap f ee ⟨0, 0⟩ w2 (by rw [hs02.tape]; exact hF) hE2 hrd2 hR2 (by omega) (by omega) (by omega)
  have HW : Hid (W.heap.size = I ∧ T < W.heap.size ∧ 0 < W.heap.size) := ⟨hI, hTl, h0l⟩
  clear hw1 hw2 hz1 hI1 hs1 hR2 hs2 hI2 hrd2 hI hTl h0l
  go_upto_if 212 with (go_at_call 10; refine hra.mono ?_; rintro e w3 ⟨rfl, hrep, hrd, hs3⟩)
  go_cut [] (fun wx => wx = w3)
  case first =>
    go_wp2
    go_meet
    rfl
  case rest =>
    obtain rfl := hcut
    rename_i K hK
    refine hK _ _ ?_
    obtain ⟨h1, h2, h3⟩ := HW.out
    have hs03 : Same [] W wc := hs02.shed hs3 (by simp; omega)
    have hE3 := hE2.same hs3 (by simp; omega) (by simp; omega)
    refine law59 I (I + 1) T N cap _ f ee v0 wc Rq hE3.hN hE3.hN2 hE3.row hE3.hf hrep hrd hE3.g0 ((World.cell?_of_block (w := W) (hs03.block ee.block (World.block_lt_of_cell? W _ hee) (by simp))).trans hee) _ _ _ _ _ _ _ _ _ _ _ _ _ _ _ _ _ _ _ _ _ _ _ _ _ _ _ _ _ _ _ _ _ _ _ _ _ _ _ _ _ _ _ _ _ _ _ _ _ _ _ _ _ _ _ _ _ _ _ _ _ _ _ _ _ _ _ _ _ _ _ _ _ _ _ _ _ _ _ _ _ _ _ _ _ _ _ _ _ _ _ _ _ _ _ _ _ _ _ _ _ _ _ _ _ _ _ _ _ _ _ _ _ _ _ _ _ _ _ _ _ _ _ _ _ _ _ _ _ _ _ _ _ _ _ _ _ _ _ _ _ _ _ _ _ _ _ _ _ _ _ _ _ _ _ _ _ _ _ _ _ _ _ _ _ _ _ _ _ _ _ _ _ _ _ _ _ _ _ _ _ _ _ _ _ _ _ _ _ _ _ _ _ _ _ _ _ _ _ _ _ _ _ _ _ _ _ _ _ _ _ _ _ _ _ _ _ _ _ _ _ _ _ _ _ _ _ _ _ _ _ _ _ _ _ _ _ _ _ _ _ _ _ _ _ _ _ _ _ _ _ _ _ _ _ _ _ _ _ _ _ _ _ _ _ _ _ _ _ _ _ _ _ _ _ _ _ _ _ _ _ _ _ _ _ _ _ _ _ _ _ _ _ _ _ _ _ _ _ _ _ _ _ _ _ _ _ _ _ _ _ _ _ _ _ _ _ _ _ _ _ _ _ _ _ _ _ (fun w' hw => hQ w' (hs03.trans hw))

theorem nil93 (w : World) : (binOp .eql 93 (.slice none 0 0) (.slice none 0 0)).run Ybaf.prog w = .ok (.bool true) w := by kernel_rfl
theorem nil94 (w : World) : (binOp .eql 94 (.slice none 0 0) (.slice none 0 0)).run Ybaf.prog w = .ok (.bool true) w := by kernel_rfl
theorem nil95 (w : World) : (binOp .eql 95 (.pointer none) (.pointer none)).run Ybaf.prog w = .ok (.bool true) w := by kernel_rfl
theorem eql88 (p : Addr) (w : World) : (binOp .eql 88 (.iface 118 (.pointer (some p))) (.iface 118 (.pointer (some p)))).run Ybaf.prog w = .ok (.bool true) w := by
  simp only [binOp]
  simp [eq118_same]

set_option maxRecDepth 100000 in
set_option maxHeartbeats 4000000 in
theorem law50_pre (T N cap : Nat) (f : Nat → Nat) (W : World) (Rq : Ending → World → Prop) (hT : Row W T N f)
    (u0 u1 u2 u3 u4 u5 u6 u7 u9 u10 u11 u12 u13 u14 u15 u16 u17 u18 u19 u20 u21 u23 u24 u25 u26 u27 u28 u29 u30 u31 u32 u33 u34 u35 u36 u37 u38 u39 u40 u41 u42 u43 u44 u45 u46 u47 u48 u49 u50 u51 u52 u53 u54 u55 u56 u57 u58 u59 u60 u61 u62 u63 u64 u65 u66 u67 u68 u69 u70 u71 u72 u73 u74 u75 u76 u77 u78 u79 u80 u81 u82 u83 u84 u85 u86 u87 u88 u89 u90 u91 u92 u93 u94 u95 u96 u97 u98 u99 u100 u101 u102 u103 u104 u105 u106 u107 u108 u109 u110 u111 u112 u113 u114 u115 u116 u117 u118 u119 u120 u121 u122 u123 u124 u125 u126 u127 u128 u129 u130 u131 u132 u133 u134 u135 u136 u137 u138 u139 u140 u141 u142 u143 u144 u145 u146 u147 u148 u149 u150 u151 u152 u153 u154 u155 u156 u157 u158 u159 u160 u161 u162 u163 u164 u165 u166 u167 u168 u169 u170 u171 u172 u173 u174 u175 u176 u177 u178 u179 u180 u181 u182 u183 u184 u185 u186 u187 u188 u189 u190 u191 u192 u193 u194 u195 u196 u197 u198 u199 u200 u201 u202 u203 u204 u205 u206 u207 u208 u209 u210 u211 u212 u213 u214 u215 u216 u217 u218 u219 u220 u221 u222 u223 u224 u225 u226 u227 u228 u229 u230 u231 u232 u233 u234 u235 u236 u237 u238 u239 u240 u241 u242 u243 u244 u245 u246 u247 u248 u249 u250 u251 u252 u253 u254 u255 u256 u257 u258 u259 u260 u261 u262 u263 u264 u265 u266 u267 u268 u269 u270 u271 u272 u273 u274 u275 u276 u277 u278 u279 u280 u281 u282 u283 u284 u285 u286 u287 u288 u289 u290 u291 u292 u293 u294 u295 u296 u297 u298 u299 u300 u301 u302 u303 u304 u305 u306 u307 u308 u309 u310 u311 u312 u313 u314 u315 u316 u317 u318 u319 u320 u321 u322 u323 u324 u325 u326 u327 u328 u329 : Value)
    (hQ : ∀ w', Same [] W w' → Rq (.returned (.bool true)) w') :
    Code.wp Ybaf.prog (mtail 50 Ybaf.f4.body) (bodyPost Ybaf.prog Ybaf.f4 Rq) ⟨#[u0, u1, u2, u3, u4, u5, u6, u7, .bool true, u9, u10, u11, u12, u13, u14, u15, u16, u17, u18, u19, u20, u21, .slice (some ⟨T, 0, none⟩) N cap, u23, u24, u25, u26, u27, u28, u29, u30, u31, u32, u33, u34, u35, u36, u37, u38, u39, u40, u41, u42, u43, u44, u45, u46, u47, u48, u49, u50, u51, u52, u53, u54, u55, u56, u57, u58, u59, u60, u61, u62, u63, u64, u65, u66, u67, u68, u69, u70, u71, u72, u73, u74, u75, u76, u77, u78, u79, u80, u81, u82, u83, u84, u85, u86, u87, u88, u89, u90, u91, u92, u93, u94, u95, u96, u97, u98, u99, u100, u101, u102, u103, u104, u105, u106, u107, u108, u109, u110, u111, u112, u113, u114, u115, u116, u117, u118, u119, u120, u121, u122, u123, u124, u125, u126, u127, u128, u129, u130, u131, u132, u133, u134, u135, u136, u137, u138, u139, u140, u141, u142, u143, u144, u145, u146, u147, u148, u149, u150, u151, u152, u153, u154, u155, u156, u157, u158, u159, u160, u161, u162, u163, u164, u165, u166, u167, u168, u169, u170, u171, u172, u173, u174, u175, u176, u177, u178, u179, u180, u181, u182, u183, u184, u185, u186, u187, u188, u189, u190, u191, u192, u193, u194, u195, u196, u197, u198, u199, u200, u201, u202, u203, u204, u205, u206, u207, u208, u209, u210, u211, u212, u213, u214, u215, u216, u217, u218, u219, u220, u221, u222, u223, u224, u225, u226, u227, u228, u229, u230, u231, u232, u233, u234, u235, u236, u237, u238, u239, u240, u241, u242, u243, u244, u245, u246, u247, u248, u249, u250, u251, u252, u253, u254, u255, u256, u257, u258, u259, u260, u261, u262, u263, u264, u265, u266, u267, u268, u269, u270, u271, u272, u273, u274, u275, u276, u277, u278, u279, u280, u281, u282, u283, u284, u285, u286, u287, u288, u289, u290, u291, u292, u293, u294, u295, u296, u297, u298, u299, u300, u301, u302, u303, u304, u305, u306, u307, u308, u309, u310, u311, u312, u313, u314, u315, u316, u317, u318, u319, u320, u321, u322, u323, u324, u325, u326, u327, u328, u329], []⟩ W := by
  conv => arg 2; whnf
  conv => arg 4; zeta
  go_upto_region 51 with fail
  obtain ⟨I, hI⟩ : ∃ I, W.heap.size = I := ⟨_, rfl⟩
  obtain ⟨w1, hw1⟩ : ∃ w1, W.alloc (.cells #[.slice (some ⟨T, 0, none⟩) N cap, .nilIface] 90) = w1 := ⟨_, rfl⟩
  have hz1 : w1.heap.size = I + 1 := by rw [← hw1, ← hI]; simp
  have hI1 : w1.heap[I]? = some (.cells #[.slice (some ⟨T, 0, none⟩) N cap, .nilIface] 90 (0, 0)) := by rw [← hw1, ← hI]; exact heap_alloc_new W _
  have hs1 : Same [] W w1 := by rw [← hw1]; exact Same.alloc _ _ _
  rw [hw1, hI]
  have hn := new_any { data := #[122, 122, 32, 112, 114, 101, 45, 115, 101, 116] } w1
  rw [hz1] at hn
  have hTl := hT.lt
  have HW : Hid (W.heap.size = I ∧ T < W.heap.size ∧ w1.heap.size = I + 1) := ⟨hI, hTl, hz1⟩
  clear hw1 hI hTl hz1
  go_upto_region 54 with (go_at_call 9; refine hn.mono ?_; rintro e w2 ⟨rfl, hw2⟩; have hs2 : Same [] w1 w2 := (by rw [hw2]; exact Same.alloc _ _ _); have hz2 : w2.heap.size = I + 2 := (by rw [hw2]; have := HW.out; simp; omega); clear hw2)
  have hI2 := (hs2.block I (by have := HW.out; omega) (by simp)).trans hI1
  obtain ⟨c0, c1, cf⟩ := icells hI2
  clear hn
  go_upto_region 55 with fail
  obtain ⟨w3, hw3⟩ : ∃ w3, w2.setCell ⟨I, 1, none⟩ (.iface 118 (.pointer (some ⟨I + 1, 0, none⟩))) = w3 := ⟨_, rfl⟩
  have hI3 : w3.heap[I]? = some (.cells #[.slice (some ⟨T, 0, none⟩) N cap, .iface 118 (.pointer (some ⟨I + 1, 0, none⟩))] 90 (0, 0)) := by rw [← hw3]; exact i_set hI2 1 _
  have hs3 : Same [I] w2 w3 := by rw [← hw3]; exact Same.setCell _ _ _ _ (by simp)
  have hz3 : w3.heap.size = I + 2 := by rw [← hw3, ← hz2]; simp [World.setCell]
  rw [hw3]
  clear hw3 c0 c1 cf
  go_upto_region 56 with fail
  obtain ⟨w4, hw4⟩ : ∃ w4, w3.alloc (.cells #[.slice none 0 0, .slice none 0 0, .pointer none] 97) = w4 := ⟨_, rfl⟩
  have hR4 : w4.heap[I + 2]? = some (.cells #[.slice none 0 0, .slice none 0 0, .pointer none] 97 (0, 0)) := by rw [← hw4, ← hz3]; exact heap_alloc_new w3 _
  have hs4 : Same [] w3 w4 := by rw [← hw4]; exact Same.alloc _ _ _
  rw [hw4]
  have hI4 := (hs4.block I (by omega) (by simp)).trans hI3
  have hS4 : Same [] W w4 := ((hs1.trans hs2).shed hs3 (by have := HW.out; simp; omega)).trans hs4
  have hrp := reply_pre I (I + 2) (.slice (some ⟨T, 0, none⟩) N cap) ⟨I + 1, 0, none⟩ w4 hI4
  obtain ⟨c0, c1, cf⟩ := icells hI4
  obtain ⟨d0, d1, d2, df⟩ := rcells97 hR4
  have hb : Bytes w4 (some ⟨T, 0, none⟩) N f := (hT.same hS4 (by simp)).bytes
  have heq := equal_any (some ⟨T, 0, none⟩) (some ⟨T, 0, none⟩) N N cap cap f f w4 hb hb rfl (fun _ _ => rfl)
  have q3 := nil93
  have q4 := nil94
  have q5 := nil95
  have q6 := eql88
  have HX : Hid (Rq (.returned (.bool true)) w4) := hQ w4 hS4
  clear hw4 hz3 hz2 hI1 hI2 hI3 hs1 hs2 hs3 hs4 hI4 hR4 hb hQ hT hS4
  go_wp2_with (first
    | (go_at_call 10; refine hrp.mono ?_; rintro e w5 ⟨rfl, hw5⟩; subst w5)
    | (go_at_call 11; refine heq.mono ?_; rintro e w5 ⟨rfl, hw5⟩; subst w5))
  exact HX.out
end Go.Proofs.YbulkdlruFmt
