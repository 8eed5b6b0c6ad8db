/-
  LawS5633APart: the last rows.
-/
import Derived.Test.YbulkdlqeFmtY
namespace Go.Proofs.YbulkdlqeFmt
open Go.RowKit Go.Shelf Go.Extern.Stop Go.Stop Go.Extern

def tail54 (b : Option Code) : Code := (b.bind (fromReg 54)).getD .skip
def tail50 (b : Option Code) : Code := (b.bind (fromReg 50)).getD .skip
theorem qmore {w w'' : World} {q x : Nat} (h : ∃ m, w'' = (w.drewN (q + x)).drewN m) : ∃ n, w'' = w.drewN (q + n) := by
  obtain ⟨m, rfl⟩ := h
  exact ⟨x + m, by rw [World.drewN_drewN, Nat.add_assoc]⟩
/-- Some bool; the world has drawn. -/
def OverSaid (w : World) (v : Value) (wx : World) : Prop := ∃ b q, v = .bool b ∧ wx = w.drewN q
/-- Where b[lo:] begins. -/
theorem cut_at (g cap lo : Nat) : ∃ p, (if cap = lo then some (⟨g, 0, none⟩ : Addr) else some ⟨g, lo, none⟩) = some ⟨g, p, none⟩ := by
  by_cases h : cap = lo
  · exact ⟨0, if_pos h⟩
  · exact ⟨lo, if_neg h⟩

set_option maxRecDepth 1000000 in
set_option maxHeartbeats 4000000 in
theorem tail50_over (w0 w : World) (g h n cap c2 nl fl R fl2 R2 q4 : Nat) (f f1 : Nat → Nat) (hn : n ≤ 65536) (h1 : Row w g n f1) (h2 : Row w h n f) (hnc : n ≤ cap) (hc2 : n ≤ c2) (hnl : nl < 32) (_hfl : fl < 16) (hR : R < 128) (hst : 8 + R * 4 ≤ n) (hB : Below w0.heap.size w0 w) (hf1 : f1 3 < 256) (hR2 : R2 = hRm f1) (hfo : fl2 = fl ||| 8) (hro : R2 = R) (hsame : ∀ i, 8 ≤ i → i < n → f1 i = f i) (u0 u1 u2 u4 u6 u7 u8 u9 u13 u15 u16 u17 u18 u21 u22 u23 u24 u25 u26 u27 u28 u29 u30 u31 u32 u33 u34 u35 u36 u37 u38 u39 u40 u41 u42 u43 u44 u45 u46 u47 u48 u49 u50 u51 u52 u53 u54 u55 u56 u57 u58 u59 u60 u61 u62 u63 u64 u65 u66 u67 u68 u69 u70 u71 u72 u73 u74 u75 u76 u77 u78 u79 u80 u81 u82 u83 u84 u85 u86 u87 u88 u89 u90 u91 u92 u93 u94 u95 u96 u97 u98 u99 u100 u101 u102 u103 u104 u105 u106 u107 u108 u109 u110 u111 u112 u113 u114 u115 u116 u117 u118 u119 u120 u121 u122 u123 u124 u125 u126 u127 u128 u129 u130 u131 u132 u133 u134 u135 u136 u137 u138 u139 u140 u141 u142 u143 u144 u145 u146 u147 u148 u149 u150 u151 u152 u153 u154 u155 u156 u157 u158 u159 u160 u161 u162 u163 u164 u165 u166 u167 u168 u169 u170 u171 u172 u173 u174 u175 u176 u177 u178 u179 u180 u181 u182 u183 u184 u185 u186 u187 u188 u189 u190 u191 u192 u193 u194 u195 u196 u197 u198 u199 u200 u201 u202 u203 u204 u205 u206 u207 u208 u209 u210 u211 u212 u213 u214 u215 u216 u217 u218 u219 u220 u221 u222 u223 u224 u225 u226 u227 u228 u229 u230 u231 u232 u233 u234 u235 u236 u237 u238 u239 u240 u241 u242 u243 u244 u245 u246 u247 u248 u249 u250 u251 u252 u253 u254 u255 u256 u257 u258 u259 u260 u261 u262 u263 u264 u265 u266 u267 u268 u269 u270 u271 u272 u273 u274 u275 u276 u277 u278 u279 u280 u281 u282 u283 u284 u285 u286 u287 u288 u289 u290 u291 u292 u293 u294 u295 u296 u297 u298 u299 u300 u301 u302 u303 u304 u305 u306 u307 u308 u309 u310 u311 u312 u313 u314 u315 u316 u317 u318 u319 u320 u321 u322 u323 u324 u325 u326 u327 u328 u329 u330 u331 u332 u333 u334 u335 u336 u337 u338 u339 u340 u341 u342 u343 u344 u345 u346 u347 u348 u349 u350 u351 u352 u353 u354 u355 u356 u357 u358 u359 u360 u361 u362 u363 u364 u365 u366 u367 u368 u369 u370 u371 u372 u373 u374 u375 u376 : Value) :
    Code.wp Ybaf.prog (tail50 Ybaf.f3.body) (bodyPost Ybaf.prog Ybaf.f3 (LawPost w0)) ⟨#[u0, u1, u2, .slice (some ⟨g, 0, none⟩) n cap, u4, .slice (some ⟨h, 0, none⟩) n c2, u6, u7, u8, u9, .int .i64 (nl : Int), .int .u8 (fl : Int), .int .i64 (R : Int), u13, .int .i64 ((R : Int) * 4), u15, u16, u17, u18, .int .i64 (nl : Int), .int .u8 (fl2 : Int), u21, u22, u23, u24, u25, u26, u27, u28, u29, u30, u31, u32, u33, u34, u35, u36, u37, u38, u39, u40, u41, u42, u43, u44, u45, u46, u47, u48, u49, u50, u51, u52, u53, u54, u55, u56, u57, u58, u59, u60, u61, u62, u63, u64, u65, u66, u67, u68, u69, u70, u71, u72, u73, u74, u75, u76, u77, u78, u79, u80, u81, u82, u83, u84, u85, u86, u87, u88, u89, u90, u91, u92, u93, u94, u95, u96, u97, u98, u99, u100, u101, u102, u103, u104, u105, u106, u107, u108, u109, u110, u111, u112, u113, u114, u115, u116, u117, u118, u119, u120, u121, u122, u123, u124, u125, u126, u127, u128, u129, u130, u131, u132, u133, u134, u135, u136, u137, u138, u139, u140, u141, u142, u143, u144, u145, u146, u147, u148, u149, u150, u151, u152, u153, u154, u155, u156, u157, u158, u159, u160, u161, u162, u163, u164, u165, u166, u167, u168, u169, u170, u171, u172, u173, u174, u175, u176, u177, u178, u179, u180, u181, u182, u183, u184, u185, u186, u187, u188, u189, u190, u191, u192, u193, u194, u195, u196, u197, u198, u199, u200, u201, u202, u203, u204, u205, u206, u207, u208, u209, u210, u211, u212, u213, u214, u215, u216, u217, u218, u219, u220, u221, u222, u223, u224, u225, u226, u227, u228, u229, u230, u231, u232, u233, u234, u235, u236, u237, u238, u239, u240, u241, u242, u243, u244, u245, u246, u247, u248, u249, u250, u251, u252, u253, u254, u255, u256, u257, u258, u259, u260, u261, u262, u263, u264, u265, u266, u267, u268, u269, u270, u271, u272, u273, u274, u275, u276, u277, u278, u279, u280, u281, u282, u283, u284, u285, u286, u287, u288, u289, u290, u291, u292, u293, u294, u295, u296, u297, u298, u299, u300, u301, u302, u303, u304, u305, u306, u307, u308, u309, u310, u311, u312, u313, u314, u315, u316, u317, u318, u319, u320, u321, u322, u323, u324, u325, u326, u327, u328, u329, u330, u331, u332, u333, u334, u335, u336, u337, u338, u339, u340, u341, u342, u343, u344, u345, u346, u347, u348, u349, u350, u351, u352, u353, u354, u355, u356, u357, u358, u359, u360, u361, u362, u363, u364, u365, u366, u367, u368, u369, u370, u371, u372, u373, u374, u375, u376], []⟩ (w.drewN q4) := by
  conv => arg 2; whnf
  have z3 := h1.cell (i := 3) (by omega)
  obtain ⟨y3, hy3⟩ : ∃ y, f1 3 = y := ⟨_, rfl⟩
  rw [hy3] at z3 hf1
  have v3 : bits .and .u8 (y3 : Int) 127 = (R2 : Int) := by rw [and127 _ hf1, hR2, ← hy3]; rfl
  have i3 : (3 : Int) < (n : Int) := by omega
  have uR2 : R2 < 128 := by rw [hR2]; exact hRm_lt f1
  have HR2 : Hid (R2 = hRm f1) := hR2
  clear hy3 hR2
  obtain ⟨p1, hp1⟩ := cut_at g cap 8
  obtain ⟨p2, hp2⟩ := cut_at h c2 8
  have hb8 : ∀ m, 8 + m ≤ n → Bytes w (some ⟨g, p1, none⟩) m (fun i => f1 (8 + i)) := fun m hm => by rw [← hp1]; exact bytes_cut h1 hnc hm
  have ho8 : ∀ m, 8 + m ≤ n → Bytes w (some ⟨h, p2, none⟩) m (fun i => f (8 + i)) := fun m hm => by rw [← hp2]; exact bytes_cut h2 hc2 hm
  have h53 := fun X hX hY => eq_exact (some ⟨g, p1, none⟩) (some ⟨h, p2, none⟩) (n - 8) (cap - 8) (c2 - 8) (fun i => f1 (8 + i)) (fun i => f (8 + i)) X (by omega) hX hY
  obtain ⟨lo, hlo⟩ : ∃ lo, lo = 8 + R * 4 := ⟨_, rfl⟩
  obtain ⟨hi, hhi⟩ : ∃ hi, hi = 8 + R2 * 4 := ⟨_, rfl⟩
  obtain ⟨p3, hp3⟩ := cut_at g cap lo
  obtain ⟨p4, hp4⟩ := cut_at h c2 lo
  have hbl : Bytes w (some ⟨g, p3, none⟩) (n - lo) (fun i => f1 (lo + i)) := by rw [← hp3]; exact bytes_cut h1 hnc (by omega)
  have hol : Bytes w (some ⟨h, p4, none⟩) (n - lo) (fun i => f (lo + i)) := by rw [← hp4]; exact bytes_cut h2 hc2 (by omega)
  have h56a := fun X hX hY => eq_exact (some ⟨g, p1, none⟩) (some ⟨h, p2, none⟩) (hi - 8) (cap - 8) (c2 - 8) (fun i => f1 (8 + i)) (fun i => f (8 + i)) X (by omega) hX hY
  have h56b := fun X hX hY => eq_exact (some ⟨g, p3, none⟩) (some ⟨h, p4, none⟩) (n - lo) (cap - lo) (c2 - lo) (fun i => f1 (lo + i)) (fun i => f (lo + i)) X (by omega) hX hY
  have w8 : (8 : Int) ≤ (n : Int) := by omega
  have y1 : IntKind.i64.wrap ((R : Int) * 4) = (R : Int) * 4 := IntWalk.i64_in _ (by omega)
  have y2 : IntKind.i64.wrap (8 + (R : Int) * 4) = (lo : Int) := by rw [show 8 + (R : Int) * 4 = (lo : Int) by omega]; exact IntWalk.i64_in _ (by omega)
  have y3 : IntKind.i64.wrap ((R2 : Int) * 4) = (R2 : Int) * 4 := IntWalk.i64_in _ (by omega)
  have y4 : IntKind.i64.wrap (8 + (R2 : Int) * 4) = (hi : Int) := by rw [show 8 + (R2 : Int) * 4 = (hi : Int) by omega]; exact IntWalk.i64_in _ (by omega)
  have y5 : (8 : Int) ≤ (hi : Int) := by omega
  have y6 : (hi : Int) ≤ (cap : Int) := by omega
  have y7 : (hi : Int) ≤ (c2 : Int) := by omega
  have y8 : (0 : Int) ≤ (lo : Int) := by omega
  have y9 : (lo : Int) ≤ (n : Int) := by omega
  have y10 : (8 : Int) ≤ (cap : Int) := by omega
  have y11 : (8 : Int) ≤ (c2 : Int) := by omega
  have y12 : IntKind.i64.wrap ((nl : Int) * 4) = (nl : Int) * 4 := IntWalk.i64_in _ (by omega)
  rw [eqB_true (fun i hi => hsame (8 + i) (by omega) (by omega))] at h53
  rw [eqB_true (fun i hi => hsame (8 + i) (by omega) (by omega))] at h56a
  rw [eqB_true (fun i hi => hsame (lo + i) (by omega) (by omega))] at h56b
  obtain ⟨hor, hor2⟩ := or8 fl _hfl
  rw [← hfo] at hor hor2
  have HFO : Hid (fl2 = fl ||| 8) := hfo
  have g53 := hb8 (n - 8) (by omega)
  have o53 := ho8 (n - 8) (by omega)
  have g56 := hb8 (hi - 8) (by omega)
  have o56 := ho8 (hi - 8) (by omega)
  have hg2 : ((R2 : Int) == (R : Int)) = true := by simp [hro]
  have hle0 : R2 ≤ R := by omega
  clear hfo hsame hb8 ho8 hhi hro hlo
  go_wp2
  go_quiet ((go_at_call 9; exact (h53 (w.drewN (q4 + _)) g53 o53).mono (fun _ _ h => ⟨h.1, qmore h.2⟩)))
  rw [World.drewN_drewN]
  obtain ⟨q5, hq5⟩ : ∃ q, q4 + nq = q := ⟨_, rfl⟩
  rw [hq5]
  clear hq5
  by_cases hov : R < nl
  · have hov' : (R : Int) * 4 < (nl : Int) * 4 := by omega
    clear h56a h56b
    go_wp2
    go_ret
    exact ⟨rfl, hB.trans (below_drewN _ _ _)⟩
  · have hov' : ¬ (R : Int) * 4 < (nl : Int) * 4 := by omega
    by_cases hg : fl2 = fl
    · have hg' : ((fl2 : Int) == (fl : Int)) = true := by simp [hg]
      have hle : (R2 : Int) ≤ (R : Int) := by omega
      clear hg
      go_wp2
      have k56a : ∀ x, Calls Ybaf.prog 9 #[.slice (some ⟨g, p1, none⟩) (hi - 8) (cap - 8), .slice (some ⟨h, p2, none⟩) (hi - 8) (c2 - 8)] (w.drewN (q5 + x)) (fun e w'' => e = .returned (.bool true) ∧ ∃ n, w'' = w.drewN (q5 + n)) := fun x => (h56a (w.drewN (q5 + x)) g56 o56).mono (fun _ _ h => ⟨h.1, qmore h.2⟩)
      have k56b : ∀ x, Calls Ybaf.prog 9 #[.slice (some ⟨g, p3, none⟩) (n - lo) (cap - lo), .slice (some ⟨h, p4, none⟩) (n - lo) (c2 - lo)] (w.drewN (q5 + x)) (fun e w'' => e = .returned (.bool true) ∧ ∃ n, w'' = w.drewN (q5 + n)) := fun x => (h56b (w.drewN (q5 + x)) hbl hol).mono (fun _ _ h => ⟨h.1, qmore h.2⟩)
      clear h56a h56b
      go_quiet ((go_at_call 9; with_reducible first | exact k56a _ | exact k56b _))
      go_wp2
      go_ret
      exact ⟨rfl, hB.trans (below_drewN _ _ _)⟩
    · have hg' : ((fl2 : Int) == (fl : Int)) = false := beq_eq_false_iff_ne.2 (by omega)
      clear h56a h56b
      go_wp2
      go_quiet (fail)
      go_wp2
      go_ret
      exact ⟨rfl, hB.trans (below_drewN _ _ _)⟩
set_option maxRecDepth 1000000 in
set_option maxHeartbeats 4000000 in
theorem tail54_same (b : Bool) (w0 w : World) (g h n cap c2 nl fl R fl2 R2 q4 : Nat) (f f1 : Nat → Nat) (hn : n ≤ 65536) (h1 : Row w g n f1) (h2 : Row w h n f) (hnc : n ≤ cap) (hc2 : n ≤ c2) (hnl : nl < 32) (_hfl : fl < 16) (hR : R < 128) (hst : 8 + R * 4 ≤ n) (hB : Below w0.heap.size w0 w) (hfo : fl2 = fl) (_hro : R2 ≤ R) (hnlr : nl ≤ R) (hrem : R2 = R) (hs1 : ∀ i, 8 ≤ i → i < 8 + R2 * 4 → f1 i = f i) (hs2 : ∀ i, 8 + R * 4 ≤ i → i < n → f1 i = f i) (u0 u1 u2 u4 u6 u7 u8 u9 u13 u15 u16 u17 u18 u19 u23 u24 u25 u26 u27 u28 u29 u30 u31 u32 u33 u34 u35 u36 u37 u38 u39 u40 u41 u42 u43 u44 u45 u46 u47 u48 u49 u50 u51 u52 u53 u54 u55 u56 u57 u58 u59 u60 u61 u62 u63 u64 u65 u66 u67 u68 u69 u70 u71 u72 u73 u74 u75 u76 u77 u78 u79 u80 u81 u82 u83 u84 u85 u86 u87 u88 u89 u90 u91 u92 u93 u94 u95 u96 u97 u98 u99 u100 u101 u102 u103 u104 u105 u106 u107 u108 u109 u110 u111 u112 u113 u114 u115 u116 u117 u118 u119 u120 u121 u122 u123 u124 u125 u126 u127 u128 u129 u130 u131 u132 u133 u134 u135 u136 u137 u138 u139 u140 u141 u142 u143 u144 u145 u146 u147 u148 u149 u150 u151 u152 u153 u154 u155 u156 u157 u158 u159 u160 u161 u162 u163 u164 u165 u166 u167 u168 u169 u170 u171 u172 u173 u174 u175 u176 u177 u178 u179 u180 u181 u182 u183 u184 u185 u186 u187 u188 u189 u190 u191 u192 u193 u194 u195 u196 u197 u198 u199 u200 u201 u202 u203 u204 u205 u206 u207 u208 u209 u210 u211 u212 u213 u214 u215 u216 u217 u218 u219 u220 u221 u222 u223 u224 u225 u226 u227 u228 u229 u230 u231 u232 u233 u234 u235 u236 u237 u238 u239 u240 u241 u242 u243 u244 u245 u246 u247 u248 u249 u250 u251 u252 u253 u254 u255 u256 u257 u258 u259 u260 u261 u262 u263 u264 u265 u266 u267 u268 u269 u270 u271 u272 u273 u274 u275 u276 u277 u278 u279 u280 u281 u282 u283 u284 u285 u286 u287 u288 u289 u290 u291 u292 u293 u294 u295 u296 u297 u298 u299 u300 u301 u302 u303 u304 u305 u306 u307 u308 u309 u310 u311 u312 u313 u314 u315 u316 u317 u318 u319 u320 u321 u322 u323 u324 u325 u326 u327 u328 u329 u330 u331 u332 u333 u334 u335 u336 u337 u338 u339 u340 u341 u342 u343 u344 u345 u346 u347 u348 u349 u350 u351 u352 u353 u354 u355 u356 u357 u358 u359 u360 u361 u362 u363 u364 u365 u366 u367 u368 u369 u370 u371 u372 u373 u374 u375 u376 : Value) :
    Code.wp Ybaf.prog (tail54 Ybaf.f3.body) (bodyPost Ybaf.prog Ybaf.f3 (LawPost w0)) ⟨#[u0, u1, u2, .slice (some ⟨g, 0, none⟩) n cap, u4, .slice (some ⟨h, 0, none⟩) n c2, u6, u7, u8, u9, .int .i64 (nl : Int), .int .u8 (fl : Int), .int .i64 (R : Int), u13, .int .i64 ((R : Int) * 4), u15, u16, u17, u18, u19, .int .u8 (fl2 : Int), .int .i64 (R2 : Int), .bool b, u23, u24, u25, u26, u27, u28, u29, u30, u31, u32, u33, u34, u35, u36, u37, u38, u39, u40, u41, u42, u43, u44, u45, u46, u47, u48, u49, u50, u51, u52, u53, u54, u55, u56, u57, u58, u59, u60, u61, u62, u63, u64, u65, u66, u67, u68, u69, u70, u71, u72, u73, u74, u75, u76, u77, u78, u79, u80, u81, u82, u83, u84, u85, u86, u87, u88, u89, u90, u91, u92, u93, u94, u95, u96, u97, u98, u99, u100, u101, u102, u103, u104, u105, u106, u107, u108, u109, u110, u111, u112, u113, u114, u115, u116, u117, u118, u119, u120, u121, u122, u123, u124, u125, u126, u127, u128, u129, u130, u131, u132, u133, u134, u135, u136, u137, u138, u139, u140, u141, u142, u143, u144, u145, u146, u147, u148, u149, u150, u151, u152, u153, u154, u155, u156, u157, u158, u159, u160, u161, u162, u163, u164, u165, u166, u167, u168, u169, u170, u171, u172, u173, u174, u175, u176, u177, u178, u179, u180, u181, u182, u183, u184, u185, u186, u187, u188, u189, u190, u191, u192, u193, u194, u195, u196, u197, u198, u199, u200, u201, u202, u203, u204, u205, u206, u207, u208, u209, u210, u211, u212, u213, u214, u215, u216, u217, u218, u219, u220, u221, u222, u223, u224, u225, u226, u227, u228, u229, u230, u231, u232, u233, u234, u235, u236, u237, u238, u239, u240, u241, u242, u243, u244, u245, u246, u247, u248, u249, u250, u251, u252, u253, u254, u255, u256, u257, u258, u259, u260, u261, u262, u263, u264, u265, u266, u267, u268, u269, u270, u271, u272, u273, u274, u275, u276, u277, u278, u279, u280, u281, u282, u283, u284, u285, u286, u287, u288, u289, u290, u291, u292, u293, u294, u295, u296, u297, u298, u299, u300, u301, u302, u303, u304, u305, u306, u307, u308, u309, u310, u311, u312, u313, u314, u315, u316, u317, u318, u319, u320, u321, u322, u323, u324, u325, u326, u327, u328, u329, u330, u331, u332, u333, u334, u335, u336, u337, u338, u339, u340, u341, u342, u343, u344, u345, u346, u347, u348, u349, u350, u351, u352, u353, u354, u355, u356, u357, u358, u359, u360, u361, u362, u363, u364, u365, u366, u367, u368, u369, u370, u371, u372, u373, u374, u375, u376], []⟩ (w.drewN q4) := by
  conv => arg 2; whnf
  obtain ⟨p1, hp1⟩ := cut_at g cap 8
  obtain ⟨p2, hp2⟩ := cut_at h c2 8
  have hb8 : ∀ m, 8 + m ≤ n → Bytes w (some ⟨g, p1, none⟩) m (fun i => f1 (8 + i)) := fun m hm => by rw [← hp1]; exact bytes_cut h1 hnc hm
  have ho8 : ∀ m, 8 + m ≤ n → Bytes w (some ⟨h, p2, none⟩) m (fun i => f (8 + i)) := fun m hm => by rw [← hp2]; exact bytes_cut h2 hc2 hm
  obtain ⟨lo, hlo⟩ : ∃ lo, lo = 8 + R * 4 := ⟨_, rfl⟩
  obtain ⟨hi, hhi⟩ : ∃ hi, hi = 8 + R2 * 4 := ⟨_, rfl⟩
  obtain ⟨p3, hp3⟩ := cut_at g cap lo
  obtain ⟨p4, hp4⟩ := cut_at h c2 lo
  have hbl : Bytes w (some ⟨g, p3, none⟩) (n - lo) (fun i => f1 (lo + i)) := by rw [← hp3]; exact bytes_cut h1 hnc (by omega)
  have hol : Bytes w (some ⟨h, p4, none⟩) (n - lo) (fun i => f (lo + i)) := by rw [← hp4]; exact bytes_cut h2 hc2 (by omega)
  have h56a := fun X hX hY => eq_exact (some ⟨g, p1, none⟩) (some ⟨h, p2, none⟩) (hi - 8) (cap - 8) (c2 - 8) (fun i => f1 (8 + i)) (fun i => f (8 + i)) X (by omega) hX hY
  have h56b := fun X hX hY => eq_exact (some ⟨g, p3, none⟩) (some ⟨h, p4, none⟩) (n - lo) (cap - lo) (c2 - lo) (fun i => f1 (lo + i)) (fun i => f (lo + i)) X (by omega) hX hY
  have w8 : (8 : Int) ≤ (n : Int) := by omega
  have y1 : IntKind.i64.wrap ((R : Int) * 4) = (R : Int) * 4 := IntWalk.i64_in _ (by omega)
  have y2 : IntKind.i64.wrap (8 + (R : Int) * 4) = (lo : Int) := by rw [show 8 + (R : Int) * 4 = (lo : Int) by omega]; exact IntWalk.i64_in _ (by omega)
  have y3 : IntKind.i64.wrap ((R2 : Int) * 4) = (R2 : Int) * 4 := IntWalk.i64_in _ (by omega)
  have y4 : IntKind.i64.wrap (8 + (R2 : Int) * 4) = (hi : Int) := by rw [show 8 + (R2 : Int) * 4 = (hi : Int) by omega]; exact IntWalk.i64_in _ (by omega)
  have y5 : (8 : Int) ≤ (hi : Int) := by omega
  have y6 : (hi : Int) ≤ (cap : Int) := by omega
  have y7 : (hi : Int) ≤ (c2 : Int) := by omega
  have y8 : (0 : Int) ≤ (lo : Int) := by omega
  have y9 : (lo : Int) ≤ (n : Int) := by omega
  have y10 : (8 : Int) ≤ (cap : Int) := by omega
  have y11 : (8 : Int) ≤ (c2 : Int) := by omega
  have y12 : IntKind.i64.wrap ((nl : Int) * 4) = (nl : Int) * 4 := IntWalk.i64_in _ (by omega)
  rw [eqB_true (fun i hi => hs1 (8 + i) (by omega) (by omega))] at h56a
  rw [eqB_true (fun i hi => hs2 (lo + i) (by omega) (by omega))] at h56b
  have g56 := hb8 (hi - 8) (by omega)
  have o56 := ho8 (hi - 8) (by omega)
  have hg' : ((fl2 : Int) == (fl : Int)) = true := by simp [hfo]
  have hle : (R2 : Int) ≤ (R : Int) := by omega
  have hov' : ¬ (R : Int) * 4 < (nl : Int) * 4 := by omega
  have y13 : IntKind.i64.wrap ((R : Int) - (R2 : Int)) = (R : Int) - (R2 : Int) := IntWalk.i64_in _ (by omega)
  have k56a : ∀ x, Calls Ybaf.prog 9 #[.slice (some ⟨g, p1, none⟩) (hi - 8) (cap - 8), .slice (some ⟨h, p2, none⟩) (hi - 8) (c2 - 8)] (w.drewN (q4 + x)) (fun e w'' => e = .returned (.bool true) ∧ ∃ n, w'' = w.drewN (q4 + n)) := fun x => (h56a (w.drewN (q4 + x)) g56 o56).mono (fun _ _ h => ⟨h.1, qmore h.2⟩)
  have k56b : ∀ x, Calls Ybaf.prog 9 #[.slice (some ⟨g, p3, none⟩) (n - lo) (cap - lo), .slice (some ⟨h, p4, none⟩) (n - lo) (c2 - lo)] (w.drewN (q4 + x)) (fun e w'' => e = .returned (.bool true) ∧ ∃ n, w'' = w.drewN (q4 + n)) := fun x => (h56b (w.drewN (q4 + x)) hbl hol).mono (fun _ _ h => ⟨h.1, qmore h.2⟩)
  have a2' : ((R2 : Int) == (R : Int)) = true := by simp [hrem]
  clear hs1 hs2 hb8 ho8 hhi hlo hfo h56a h56b hrem
  go_wp2
  go_quiet ((go_at_call 9; with_reducible first | exact k56a _ | exact k56b _))
  cases b
  all_goals
    go_wp2
    go_ret
    exact ⟨rfl, hB.trans (below_drewN _ _ _)⟩
set_option maxRecDepth 1000000 in
set_option maxHeartbeats 4000000 in
theorem tail54_less (b : Bool) (w0 w : World) (g h n cap c2 nl fl R fl2 R2 q4 : Nat) (f f1 : Nat → Nat) (hn : n ≤ 65536) (h1 : Row w g n f1) (h2 : Row w h n f) (hnc : n ≤ cap) (hc2 : n ≤ c2) (hnl : nl < 32) (_hfl : fl < 16) (hR : R < 128) (hst : 8 + R * 4 ≤ n) (hB : Below w0.heap.size w0 w) (hfo : fl2 = fl) (_hro : R2 ≤ R) (hnlr : nl ≤ R) (hne : R2 ≠ R) (hrem : nl ≤ R - R2) (hs1 : ∀ i, 8 ≤ i → i < 8 + R2 * 4 → f1 i = f i) (hs2 : ∀ i, 8 + R * 4 ≤ i → i < n → f1 i = f i) (u0 u1 u2 u4 u6 u7 u8 u9 u13 u15 u16 u17 u18 u19 u23 u24 u25 u26 u27 u28 u29 u30 u31 u32 u33 u34 u35 u36 u37 u38 u39 u40 u41 u42 u43 u44 u45 u46 u47 u48 u49 u50 u51 u52 u53 u54 u55 u56 u57 u58 u59 u60 u61 u62 u63 u64 u65 u66 u67 u68 u69 u70 u71 u72 u73 u74 u75 u76 u77 u78 u79 u80 u81 u82 u83 u84 u85 u86 u87 u88 u89 u90 u91 u92 u93 u94 u95 u96 u97 u98 u99 u100 u101 u102 u103 u104 u105 u106 u107 u108 u109 u110 u111 u112 u113 u114 u115 u116 u117 u118 u119 u120 u121 u122 u123 u124 u125 u126 u127 u128 u129 u130 u131 u132 u133 u134 u135 u136 u137 u138 u139 u140 u141 u142 u143 u144 u145 u146 u147 u148 u149 u150 u151 u152 u153 u154 u155 u156 u157 u158 u159 u160 u161 u162 u163 u164 u165 u166 u167 u168 u169 u170 u171 u172 u173 u174 u175 u176 u177 u178 u179 u180 u181 u182 u183 u184 u185 u186 u187 u188 u189 u190 u191 u192 u193 u194 u195 u196 u197 u198 u199 u200 u201 u202 u203 u204 u205 u206 u207 u208 u209 u210 u211 u212 u213 u214 u215 u216 u217 u218 u219 u220 u221 u222 u223 u224 u225 u226 u227 u228 u229 u230 u231 u232 u233 u234 u235 u236 u237 u238 u239 u240 u241 u242 u243 u244 u245 u246 u247 u248 u249 u250 u251 u252 u253 u254 u255 u256 u257 u258 u259 u260 u261 u262 u263 u264 u265 u266 u267 u268 u269 u270 u271 u272 u273 u274 u275 u276 u277 u278 u279 u280 u281 u282 u283 u284 u285 u286 u287 u288 u289 u290 u291 u292 u293 u294 u295 u296 u297 u298 u299 u300 u301 u302 u303 u304 u305 u306 u307 u308 u309 u310 u311 u312 u313 u314 u315 u316 u317 u318 u319 u320 u321 u322 u323 u324 u325 u326 u327 u328 u329 u330 u331 u332 u333 u334 u335 u336 u337 u338 u339 u340 u341 u342 u343 u344 u345 u346 u347 u348 u349 u350 u351 u352 u353 u354 u355 u356 u357 u358 u359 u360 u361 u362 u363 u364 u365 u366 u367 u368 u369 u370 u371 u372 u373 u374 u375 u376 : Value) :
    Code.wp Ybaf.prog (tail54 Ybaf.f3.body) (bodyPost Ybaf.prog Ybaf.f3 (LawPost w0)) ⟨#[u0, u1, u2, .slice (some ⟨g, 0, none⟩) n cap, u4, .slice (some ⟨h, 0, none⟩) n c2, u6, u7, u8, u9, .int .i64 (nl : Int), .int .u8 (fl : Int), .int .i64 (R : Int), u13, .int .i64 ((R : Int) * 4), u15, u16, u17, u18, u19, .int .u8 (fl2 : Int), .int .i64 (R2 : Int), .bool b, u23, u24, u25, u26, u27, u28, u29, u30, u31, u32, u33, u34, u35, u36, u37, u38, u39, u40, u41, u42, u43, u44, u45, u46, u47, u48, u49, u50, u51, u52, u53, u54, u55, u56, u57, u58, u59, u60, u61, u62, u63, u64, u65, u66, u67, u68, u69, u70, u71, u72, u73, u74, u75, u76, u77, u78, u79, u80, u81, u82, u83, u84, u85, u86, u87, u88, u89, u90, u91, u92, u93, u94, u95, u96, u97, u98, u99, u100, u101, u102, u103, u104, u105, u106, u107, u108, u109, u110, u111, u112, u113, u114, u115, u116, u117, u118, u119, u120, u121, u122, u123, u124, u125, u126, u127, u128, u129, u130, u131, u132, u133, u134, u135, u136, u137, u138, u139, u140, u141, u142, u143, u144, u145, u146, u147, u148, u149, u150, u151, u152, u153, u154, u155, u156, u157, u158, u159, u160, u161, u162, u163, u164, u165, u166, u167, u168, u169, u170, u171, u172, u173, u174, u175, u176, u177, u178, u179, u180, u181, u182, u183, u184, u185, u186, u187, u188, u189, u190, u191, u192, u193, u194, u195, u196, u197, u198, u199, u200, u201, u202, u203, u204, u205, u206, u207, u208, u209, u210, u211, u212, u213, u214, u215, u216, u217, u218, u219, u220, u221, u222, u223, u224, u225, u226, u227, u228, u229, u230, u231, u232, u233, u234, u235, u236, u237, u238, u239, u240, u241, u242, u243, u244, u245, u246, u247, u248, u249, u250, u251, u252, u253, u254, u255, u256, u257, u258, u259, u260, u261, u262, u263, u264, u265, u266, u267, u268, u269, u270, u271, u272, u273, u274, u275, u276, u277, u278, u279, u280, u281, u282, u283, u284, u285, u286, u287, u288, u289, u290, u291, u292, u293, u294, u295, u296, u297, u298, u299, u300, u301, u302, u303, u304, u305, u306, u307, u308, u309, u310, u311, u312, u313, u314, u315, u316, u317, u318, u319, u320, u321, u322, u323, u324, u325, u326, u327, u328, u329, u330, u331, u332, u333, u334, u335, u336, u337, u338, u339, u340, u341, u342, u343, u344, u345, u346, u347, u348, u349, u350, u351, u352, u353, u354, u355, u356, u357, u358, u359, u360, u361, u362, u363, u364, u365, u366, u367, u368, u369, u370, u371, u372, u373, u374, u375, u376], []⟩ (w.drewN q4) := by
  conv => arg 2; whnf
  obtain ⟨p1, hp1⟩ := cut_at g cap 8
  obtain ⟨p2, hp2⟩ := cut_at h c2 8
  have hb8 : ∀ m, 8 + m ≤ n → Bytes w (some ⟨g, p1, none⟩) m (fun i => f1 (8 + i)) := fun m hm => by rw [← hp1]; exact bytes_cut h1 hnc hm
  have ho8 : ∀ m, 8 + m ≤ n → Bytes w (some ⟨h, p2, none⟩) m (fun i => f (8 + i)) := fun m hm => by rw [← hp2]; exact bytes_cut h2 hc2 hm
  obtain ⟨lo, hlo⟩ : ∃ lo, lo = 8 + R * 4 := ⟨_, rfl⟩
  obtain ⟨hi, hhi⟩ : ∃ hi, hi = 8 + R2 * 4 := ⟨_, rfl⟩
  obtain ⟨p3, hp3⟩ := cut_at g cap lo
  obtain ⟨p4, hp4⟩ := cut_at h c2 lo
  have hbl : Bytes w (some ⟨g, p3, none⟩) (n - lo) (fun i => f1 (lo + i)) := by rw [← hp3]; exact bytes_cut h1 hnc (by omega)
  have hol : Bytes w (some ⟨h, p4, none⟩) (n - lo) (fun i => f (lo + i)) := by rw [← hp4]; exact bytes_cut h2 hc2 (by omega)
  have h56a := fun X hX hY => eq_exact (some ⟨g, p1, none⟩) (some ⟨h, p2, none⟩) (hi - 8) (cap - 8) (c2 - 8) (fun i => f1 (8 + i)) (fun i => f (8 + i)) X (by omega) hX hY
  have h56b := fun X hX hY => eq_exact (some ⟨g, p3, none⟩) (some ⟨h, p4, none⟩) (n - lo) (cap - lo) (c2 - lo) (fun i => f1 (lo + i)) (fun i => f (lo + i)) X (by omega) hX hY
  have w8 : (8 : Int) ≤ (n : Int) := by omega
  have y1 : IntKind.i64.wrap ((R : Int) * 4) = (R : Int) * 4 := IntWalk.i64_in _ (by omega)
  have y2 : IntKind.i64.wrap (8 + (R : Int) * 4) = (lo : Int) := by rw [show 8 + (R : Int) * 4 = (lo : Int) by omega]; exact IntWalk.i64_in _ (by omega)
  have y3 : IntKind.i64.wrap ((R2 : Int) * 4) = (R2 : Int) * 4 := IntWalk.i64_in _ (by omega)
  have y4 : IntKind.i64.wrap (8 + (R2 : Int) * 4) = (hi : Int) := by rw [show 8 + (R2 : Int) * 4 = (hi : Int) by omega]; exact IntWalk.i64_in _ (by omega)
  have y5 : (8 : Int) ≤ (hi : Int) := by omega
  have y6 : (hi : Int) ≤ (cap : Int) := by omega
  have y7 : (hi : Int) ≤ (c2 : Int) := by omega
  have y8 : (0 : Int) ≤ (lo : Int) := by omega
  have y9 : (lo : Int) ≤ (n : Int) := by omega
  have y10 : (8 : Int) ≤ (cap : Int) := by omega
  have y11 : (8 : Int) ≤ (c2 : Int) := by omega
  have y12 : IntKind.i64.wrap ((nl : Int) * 4) = (nl : Int) * 4 := IntWalk.i64_in _ (by omega)
  rw [eqB_true (fun i hi => hs1 (8 + i) (by omega) (by omega))] at h56a
  rw [eqB_true (fun i hi => hs2 (lo + i) (by omega) (by omega))] at h56b
  have g56 := hb8 (hi - 8) (by omega)
  have o56 := ho8 (hi - 8) (by omega)
  have hg' : ((fl2 : Int) == (fl : Int)) = true := by simp [hfo]
  have hle : (R2 : Int) ≤ (R : Int) := by omega
  have hov' : ¬ (R : Int) * 4 < (nl : Int) * 4 := by omega
  have y13 : IntKind.i64.wrap ((R : Int) - (R2 : Int)) = (R : Int) - (R2 : Int) := IntWalk.i64_in _ (by omega)
  have k56a : ∀ x, Calls Ybaf.prog 9 #[.slice (some ⟨g, p1, none⟩) (hi - 8) (cap - 8), .slice (some ⟨h, p2, none⟩) (hi - 8) (c2 - 8)] (w.drewN (q4 + x)) (fun e w'' => e = .returned (.bool true) ∧ ∃ n, w'' = w.drewN (q4 + n)) := fun x => (h56a (w.drewN (q4 + x)) g56 o56).mono (fun _ _ h => ⟨h.1, qmore h.2⟩)
  have k56b : ∀ x, Calls Ybaf.prog 9 #[.slice (some ⟨g, p3, none⟩) (n - lo) (cap - lo), .slice (some ⟨h, p4, none⟩) (n - lo) (c2 - lo)] (w.drewN (q4 + x)) (fun e w'' => e = .returned (.bool true) ∧ ∃ n, w'' = w.drewN (q4 + n)) := fun x => (h56b (w.drewN (q4 + x)) hbl hol).mono (fun _ _ h => ⟨h.1, qmore h.2⟩)
  have a2' : ((R2 : Int) == (R : Int)) = false := beq_eq_false_iff_ne.2 (by omega)
  have a3 : (nl : Int) ≤ (R : Int) - (R2 : Int) := by omega
  clear hs1 hs2 hb8 ho8 hhi hlo hfo h56a h56b hrem hne
  go_wp2
  go_quiet ((go_at_call 9; with_reducible first | exact k56a _ | exact k56b _))
  cases b
  all_goals
    go_wp2
    go_ret
    exact ⟨rfl, hB.trans (below_drewN _ _ _)⟩
set_option maxRecDepth 1000000 in
theorem tail54_wrote (b : Bool) (w0 w : World) (g h n cap c2 nl fl R fl2 R2 q4 : Nat) (f f1 : Nat → Nat) (hn : n ≤ 65536) (h1 : Row w g n f1) (h2 : Row w h n f) (hnc : n ≤ cap) (hc2 : n ≤ c2) (hnl : nl < 32) (_hfl : fl < 16) (hR : R < 128) (hst : 8 + R * 4 ≤ n) (hB : Below w0.heap.size w0 w) (hfo : fl2 = fl) (_hro : R2 ≤ R) (hnlr : nl ≤ R) (hrem : R2 = R ∨ nl ≤ R - R2) (hs1 : ∀ i, 8 ≤ i → i < 8 + R2 * 4 → f1 i = f i) (hs2 : ∀ i, 8 + R * 4 ≤ i → i < n → f1 i = f i) (u0 u1 u2 u4 u6 u7 u8 u9 u13 u15 u16 u17 u18 u19 u23 u24 u25 u26 u27 u28 u29 u30 u31 u32 u33 u34 u35 u36 u37 u38 u39 u40 u41 u42 u43 u44 u45 u46 u47 u48 u49 u50 u51 u52 u53 u54 u55 u56 u57 u58 u59 u60 u61 u62 u63 u64 u65 u66 u67 u68 u69 u70 u71 u72 u73 u74 u75 u76 u77 u78 u79 u80 u81 u82 u83 u84 u85 u86 u87 u88 u89 u90 u91 u92 u93 u94 u95 u96 u97 u98 u99 u100 u101 u102 u103 u104 u105 u106 u107 u108 u109 u110 u111 u112 u113 u114 u115 u116 u117 u118 u119 u120 u121 u122 u123 u124 u125 u126 u127 u128 u129 u130 u131 u132 u133 u134 u135 u136 u137 u138 u139 u140 u141 u142 u143 u144 u145 u146 u147 u148 u149 u150 u151 u152 u153 u154 u155 u156 u157 u158 u159 u160 u161 u162 u163 u164 u165 u166 u167 u168 u169 u170 u171 u172 u173 u174 u175 u176 u177 u178 u179 u180 u181 u182 u183 u184 u185 u186 u187 u188 u189 u190 u191 u192 u193 u194 u195 u196 u197 u198 u199 u200 u201 u202 u203 u204 u205 u206 u207 u208 u209 u210 u211 u212 u213 u214 u215 u216 u217 u218 u219 u220 u221 u222 u223 u224 u225 u226 u227 u228 u229 u230 u231 u232 u233 u234 u235 u236 u237 u238 u239 u240 u241 u242 u243 u244 u245 u246 u247 u248 u249 u250 u251 u252 u253 u254 u255 u256 u257 u258 u259 u260 u261 u262 u263 u264 u265 u266 u267 u268 u269 u270 u271 u272 u273 u274 u275 u276 u277 u278 u279 u280 u281 u282 u283 u284 u285 u286 u287 u288 u289 u290 u291 u292 u293 u294 u295 u296 u297 u298 u299 u300 u301 u302 u303 u304 u305 u306 u307 u308 u309 u310 u311 u312 u313 u314 u315 u316 u317 u318 u319 u320 u321 u322 u323 u324 u325 u326 u327 u328 u329 u330 u331 u332 u333 u334 u335 u336 u337 u338 u339 u340 u341 u342 u343 u344 u345 u346 u347 u348 u349 u350 u351 u352 u353 u354 u355 u356 u357 u358 u359 u360 u361 u362 u363 u364 u365 u366 u367 u368 u369 u370 u371 u372 u373 u374 u375 u376 : Value) :
    Code.wp Ybaf.prog (tail54 Ybaf.f3.body) (bodyPost Ybaf.prog Ybaf.f3 (LawPost w0)) ⟨#[u0, u1, u2, .slice (some ⟨g, 0, none⟩) n cap, u4, .slice (some ⟨h, 0, none⟩) n c2, u6, u7, u8, u9, .int .i64 (nl : Int), .int .u8 (fl : Int), .int .i64 (R : Int), u13, .int .i64 ((R : Int) * 4), u15, u16, u17, u18, u19, .int .u8 (fl2 : Int), .int .i64 (R2 : Int), .bool b, u23, u24, u25, u26, u27, u28, u29, u30, u31, u32, u33, u34, u35, u36, u37, u38, u39, u40, u41, u42, u43, u44, u45, u46, u47, u48, u49, u50, u51, u52, u53, u54, u55, u56, u57, u58, u59, u60, u61, u62, u63, u64, u65, u66, u67, u68, u69, u70, u71, u72, u73, u74, u75, u76, u77, u78, u79, u80, u81, u82, u83, u84, u85, u86, u87, u88, u89, u90, u91, u92, u93, u94, u95, u96, u97, u98, u99, u100, u101, u102, u103, u104, u105, u106, u107, u108, u109, u110, u111, u112, u113, u114, u115, u116, u117, u118, u119, u120, u121, u122, u123, u124, u125, u126, u127, u128, u129, u130, u131, u132, u133, u134, u135, u136, u137, u138, u139, u140, u141, u142, u143, u144, u145, u146, u147, u148, u149, u150, u151, u152, u153, u154, u155, u156, u157, u158, u159, u160, u161, u162, u163, u164, u165, u166, u167, u168, u169, u170, u171, u172, u173, u174, u175, u176, u177, u178, u179, u180, u181, u182, u183, u184, u185, u186, u187, u188, u189, u190, u191, u192, u193, u194, u195, u196, u197, u198, u199, u200, u201, u202, u203, u204, u205, u206, u207, u208, u209, u210, u211, u212, u213, u214, u215, u216, u217, u218, u219, u220, u221, u222, u223, u224, u225, u226, u227, u228, u229, u230, u231, u232, u233, u234, u235, u236, u237, u238, u239, u240, u241, u242, u243, u244, u245, u246, u247, u248, u249, u250, u251, u252, u253, u254, u255, u256, u257, u258, u259, u260, u261, u262, u263, u264, u265, u266, u267, u268, u269, u270, u271, u272, u273, u274, u275, u276, u277, u278, u279, u280, u281, u282, u283, u284, u285, u286, u287, u288, u289, u290, u291, u292, u293, u294, u295, u296, u297, u298, u299, u300, u301, u302, u303, u304, u305, u306, u307, u308, u309, u310, u311, u312, u313, u314, u315, u316, u317, u318, u319, u320, u321, u322, u323, u324, u325, u326, u327, u328, u329, u330, u331, u332, u333, u334, u335, u336, u337, u338, u339, u340, u341, u342, u343, u344, u345, u346, u347, u348, u349, u350, u351, u352, u353, u354, u355, u356, u357, u358, u359, u360, u361, u362, u363, u364, u365, u366, u367, u368, u369, u370, u371, u372, u373, u374, u375, u376], []⟩ (w.drewN q4) := by
  by_cases a : R2 = R
  · exact tail54_same b w0 w g h n cap c2 nl fl R fl2 R2 q4 f f1 hn h1 h2 hnc hc2 hnl _hfl hR hst hB hfo _hro hnlr a hs1 hs2 u0 u1 u2 u4 u6 u7 u8 u9 u13 u15 u16 u17 u18 u19 u23 u24 u25 u26 u27 u28 u29 u30 u31 u32 u33 u34 u35 u36 u37 u38 u39 u40 u41 u42 u43 u44 u45 u46 u47 u48 u49 u50 u51 u52 u53 u54 u55 u56 u57 u58 u59 u60 u61 u62 u63 u64 u65 u66 u67 u68 u69 u70 u71 u72 u73 u74 u75 u76 u77 u78 u79 u80 u81 u82 u83 u84 u85 u86 u87 u88 u89 u90 u91 u92 u93 u94 u95 u96 u97 u98 u99 u100 u101 u102 u103 u104 u105 u106 u107 u108 u109 u110 u111 u112 u113 u114 u115 u116 u117 u118 u119 u120 u121 u122 u123 u124 u125 u126 u127 u128 u129 u130 u131 u132 u133 u134 u135 u136 u137 u138 u139 u140 u141 u142 u143 u144 u145 u146 u147 u148 u149 u150 u151 u152 u153 u154 u155 u156 u157 u158 u159 u160 u161 u162 u163 u164 u165 u166 u167 u168 u169 u170 u171 u172 u173 u174 u175 u176 u177 u178 u179 u180 u181 u182 u183 u184 u185 u186 u187 u188 u189 u190 u191 u192 u193 u194 u195 u196 u197 u198 u199 u200 u201 u202 u203 u204 u205 u206 u207 u208 u209 u210 u211 u212 u213 u214 u215 u216 u217 u218 u219 u220 u221 u222 u223 u224 u225 u226 u227 u228 u229 u230 u231 u232 u233 u234 u235 u236 u237 u238 u239 u240 u241 u242 u243 u244 u245 u246 u247 u248 u249 u250 u251 u252 u253 u254 u255 u256 u257 u258 u259 u260 u261 u262 u263 u264 u265 u266 u267 u268 u269 u270 u271 u272 u273 u274 u275 u276 u277 u278 u279 u280 u281 u282 u283 u284 u285 u286 u287 u288 u289 u290 u291 u292 u293 u294 u295 u296 u297 u298 u299 u300 u301 u302 u303 u304 u305 u306 u307 u308 u309 u310 u311 u312 u313 u314 u315 u316 u317 u318 u319 u320 u321 u322 u323 u324 u325 u326 u327 u328 u329 u330 u331 u332 u333 u334 u335 u336 u337 u338 u339 u340 u341 u342 u343 u344 u345 u346 u347 u348 u349 u350 u351 u352 u353 u354 u355 u356 u357 u358 u359 u360 u361 u362 u363 u364 u365 u366 u367 u368 u369 u370 u371 u372 u373 u374 u375 u376
  · exact tail54_less b w0 w g h n cap c2 nl fl R fl2 R2 q4 f f1 hn h1 h2 hnc hc2 hnl _hfl hR hst hB hfo _hro hnlr a (by omega) hs1 hs2 u0 u1 u2 u4 u6 u7 u8 u9 u13 u15 u16 u17 u18 u19 u23 u24 u25 u26 u27 u28 u29 u30 u31 u32 u33 u34 u35 u36 u37 u38 u39 u40 u41 u42 u43 u44 u45 u46 u47 u48 u49 u50 u51 u52 u53 u54 u55 u56 u57 u58 u59 u60 u61 u62 u63 u64 u65 u66 u67 u68 u69 u70 u71 u72 u73 u74 u75 u76 u77 u78 u79 u80 u81 u82 u83 u84 u85 u86 u87 u88 u89 u90 u91 u92 u93 u94 u95 u96 u97 u98 u99 u100 u101 u102 u103 u104 u105 u106 u107 u108 u109 u110 u111 u112 u113 u114 u115 u116 u117 u118 u119 u120 u121 u122 u123 u124 u125 u126 u127 u128 u129 u130 u131 u132 u133 u134 u135 u136 u137 u138 u139 u140 u141 u142 u143 u144 u145 u146 u147 u148 u149 u150 u151 u152 u153 u154 u155 u156 u157 u158 u159 u160 u161 u162 u163 u164 u165 u166 u167 u168 u169 u170 u171 u172 u173 u174 u175 u176 u177 u178 u179 u180 u181 u182 u183 u184 u185 u186 u187 u188 u189 u190 u191 u192 u193 u194 u195 u196 u197 u198 u199 u200 u201 u202 u203 u204 u205 u206 u207 u208 u209 u210 u211 u212 u213 u214 u215 u216 u217 u218 u219 u220 u221 u222 u223 u224 u225 u226 u227 u228 u229 u230 u231 u232 u233 u234 u235 u236 u237 u238 u239 u240 u241 u242 u243 u244 u245 u246 u247 u248 u249 u250 u251 u252 u253 u254 u255 u256 u257 u258 u259 u260 u261 u262 u263 u264 u265 u266 u267 u268 u269 u270 u271 u272 u273 u274 u275 u276 u277 u278 u279 u280 u281 u282 u283 u284 u285 u286 u287 u288 u289 u290 u291 u292 u293 u294 u295 u296 u297 u298 u299 u300 u301 u302 u303 u304 u305 u306 u307 u308 u309 u310 u311 u312 u313 u314 u315 u316 u317 u318 u319 u320 u321 u322 u323 u324 u325 u326 u327 u328 u329 u330 u331 u332 u333 u334 u335 u336 u337 u338 u339 u340 u341 u342 u343 u344 u345 u346 u347 u348 u349 u350 u351 u352 u353 u354 u355 u356 u357 u358 u359 u360 u361 u362 u363 u364 u365 u366 u367 u368 u369 u370 u371 u372 u373 u374 u375 u376
set_option maxRecDepth 1000000 in
set_option maxHeartbeats 4000000 in
theorem tail50_wrote (w0 w : World) (g h n cap c2 nl fl R fl2 R2 q4 : Nat) (f f1 : Nat → Nat) (hn : n ≤ 65536) (h1 : Row w g n f1) (h2 : Row w h n f) (hnc : n ≤ cap) (hc2 : n ≤ c2) (hnl : nl < 32) (_hfl : fl < 16) (hR : R < 128) (hst : 8 + R * 4 ≤ n) (hB : Below w0.heap.size w0 w) (hf1 : f1 3 < 256) (hR2 : R2 = hRm f1) (hfo : fl2 = fl) (_hro : R2 ≤ R) (hnlr : nl ≤ R) (hrem : R2 = R ∨ nl ≤ R - R2) (hs1 : ∀ i, 8 ≤ i → i < 8 + R2 * 4 → f1 i = f i) (hs2 : ∀ i, 8 + R * 4 ≤ i → i < n → f1 i = f i) (u0 u1 u2 u4 u6 u7 u8 u9 u13 u15 u16 u17 u18 u21 u22 u23 u24 u25 u26 u27 u28 u29 u30 u31 u32 u33 u34 u35 u36 u37 u38 u39 u40 u41 u42 u43 u44 u45 u46 u47 u48 u49 u50 u51 u52 u53 u54 u55 u56 u57 u58 u59 u60 u61 u62 u63 u64 u65 u66 u67 u68 u69 u70 u71 u72 u73 u74 u75 u76 u77 u78 u79 u80 u81 u82 u83 u84 u85 u86 u87 u88 u89 u90 u91 u92 u93 u94 u95 u96 u97 u98 u99 u100 u101 u102 u103 u104 u105 u106 u107 u108 u109 u110 u111 u112 u113 u114 u115 u116 u117 u118 u119 u120 u121 u122 u123 u124 u125 u126 u127 u128 u129 u130 u131 u132 u133 u134 u135 u136 u137 u138 u139 u140 u141 u142 u143 u144 u145 u146 u147 u148 u149 u150 u151 u152 u153 u154 u155 u156 u157 u158 u159 u160 u161 u162 u163 u164 u165 u166 u167 u168 u169 u170 u171 u172 u173 u174 u175 u176 u177 u178 u179 u180 u181 u182 u183 u184 u185 u186 u187 u188 u189 u190 u191 u192 u193 u194 u195 u196 u197 u198 u199 u200 u201 u202 u203 u204 u205 u206 u207 u208 u209 u210 u211 u212 u213 u214 u215 u216 u217 u218 u219 u220 u221 u222 u223 u224 u225 u226 u227 u228 u229 u230 u231 u232 u233 u234 u235 u236 u237 u238 u239 u240 u241 u242 u243 u244 u245 u246 u247 u248 u249 u250 u251 u252 u253 u254 u255 u256 u257 u258 u259 u260 u261 u262 u263 u264 u265 u266 u267 u268 u269 u270 u271 u272 u273 u274 u275 u276 u277 u278 u279 u280 u281 u282 u283 u284 u285 u286 u287 u288 u289 u290 u291 u292 u293 u294 u295 u296 u297 u298 u299 u300 u301 u302 u303 u304 u305 u306 u307 u308 u309 u310 u311 u312 u313 u314 u315 u316 u317 u318 u319 u320 u321 u322 u323 u324 u325 u326 u327 u328 u329 u330 u331 u332 u333 u334 u335 u336 u337 u338 u339 u340 u341 u342 u343 u344 u345 u346 u347 u348 u349 u350 u351 u352 u353 u354 u355 u356 u357 u358 u359 u360 u361 u362 u363 u364 u365 u366 u367 u368 u369 u370 u371 u372 u373 u374 u375 u376 : Value) :
    Code.wp Ybaf.prog (tail50 Ybaf.f3.body) (bodyPost Ybaf.prog Ybaf.f3 (LawPost w0)) ⟨#[u0, u1, u2, .slice (some ⟨g, 0, none⟩) n cap, u4, .slice (some ⟨h, 0, none⟩) n c2, u6, u7, u8, u9, .int .i64 (nl : Int), .int .u8 (fl : Int), .int .i64 (R : Int), u13, .int .i64 ((R : Int) * 4), u15, u16, u17, u18, .int .i64 (nl : Int), .int .u8 (fl2 : Int), u21, u22, u23, u24, u25, u26, u27, u28, u29, u30, u31, u32, u33, u34, u35, u36, u37, u38, u39, u40, u41, u42, u43, u44, u45, u46, u47, u48, u49, u50, u51, u52, u53, u54, u55, u56, u57, u58, u59, u60, u61, u62, u63, u64, u65, u66, u67, u68, u69, u70, u71, u72, u73, u74, u75, u76, u77, u78, u79, u80, u81, u82, u83, u84, u85, u86, u87, u88, u89, u90, u91, u92, u93, u94, u95, u96, u97, u98, u99, u100, u101, u102, u103, u104, u105, u106, u107, u108, u109, u110, u111, u112, u113, u114, u115, u116, u117, u118, u119, u120, u121, u122, u123, u124, u125, u126, u127, u128, u129, u130, u131, u132, u133, u134, u135, u136, u137, u138, u139, u140, u141, u142, u143, u144, u145, u146, u147, u148, u149, u150, u151, u152, u153, u154, u155, u156, u157, u158, u159, u160, u161, u162, u163, u164, u165, u166, u167, u168, u169, u170, u171, u172, u173, u174, u175, u176, u177, u178, u179, u180, u181, u182, u183, u184, u185, u186, u187, u188, u189, u190, u191, u192, u193, u194, u195, u196, u197, u198, u199, u200, u201, u202, u203, u204, u205, u206, u207, u208, u209, u210, u211, u212, u213, u214, u215, u216, u217, u218, u219, u220, u221, u222, u223, u224, u225, u226, u227, u228, u229, u230, u231, u232, u233, u234, u235, u236, u237, u238, u239, u240, u241, u242, u243, u244, u245, u246, u247, u248, u249, u250, u251, u252, u253, u254, u255, u256, u257, u258, u259, u260, u261, u262, u263, u264, u265, u266, u267, u268, u269, u270, u271, u272, u273, u274, u275, u276, u277, u278, u279, u280, u281, u282, u283, u284, u285, u286, u287, u288, u289, u290, u291, u292, u293, u294, u295, u296, u297, u298, u299, u300, u301, u302, u303, u304, u305, u306, u307, u308, u309, u310, u311, u312, u313, u314, u315, u316, u317, u318, u319, u320, u321, u322, u323, u324, u325, u326, u327, u328, u329, u330, u331, u332, u333, u334, u335, u336, u337, u338, u339, u340, u341, u342, u343, u344, u345, u346, u347, u348, u349, u350, u351, u352, u353, u354, u355, u356, u357, u358, u359, u360, u361, u362, u363, u364, u365, u366, u367, u368, u369, u370, u371, u372, u373, u374, u375, u376], []⟩ (w.drewN q4) := by
  conv => arg 2; whnf
  have z3 := h1.cell (i := 3) (by omega)
  obtain ⟨y3, hy3⟩ : ∃ y, f1 3 = y := ⟨_, rfl⟩
  rw [hy3] at z3 hf1
  have v3 : bits .and .u8 (y3 : Int) 127 = (R2 : Int) := by rw [and127 _ hf1, hR2, ← hy3]; rfl
  have i3 : (3 : Int) < (n : Int) := by omega
  have uR2 : R2 < 128 := by rw [hR2]; exact hRm_lt f1
  have HR2 : Hid (R2 = hRm f1) := hR2
  clear hy3 hR2
  obtain ⟨p1, hp1⟩ := cut_at g cap 8
  obtain ⟨p2, hp2⟩ := cut_at h c2 8
  have hb8 : ∀ m, 8 + m ≤ n → Bytes w (some ⟨g, p1, none⟩) m (fun i => f1 (8 + i)) := fun m hm => by rw [← hp1]; exact bytes_cut h1 hnc hm
  have ho8 : ∀ m, 8 + m ≤ n → Bytes w (some ⟨h, p2, none⟩) m (fun i => f (8 + i)) := fun m hm => by rw [← hp2]; exact bytes_cut h2 hc2 hm
  have h53 := fun X hX hY => eq_exact (some ⟨g, p1, none⟩) (some ⟨h, p2, none⟩) (n - 8) (cap - 8) (c2 - 8) (fun i => f1 (8 + i)) (fun i => f (8 + i)) X (by omega) hX hY
  obtain ⟨ob, hob⟩ : ∃ ob, eqB (n - 8) (fun i => f1 (8 + i)) (fun i => f (8 + i)) = ob := ⟨_, rfl⟩
  rw [hob] at h53
  obtain ⟨hor, hor2⟩ := or8 fl _hfl
  obtain ⟨fl8, hfl8⟩ : ∃ x, fl ||| 8 = x := ⟨_, rfl⟩
  rw [hfl8] at hor hor2
  have g53 := hb8 (n - 8) (by omega)
  have o53 := ho8 (n - 8) (by omega)
  have k53 : ∀ x, Calls Ybaf.prog 9 #[.slice (some ⟨g, p1, none⟩) (n - 8) (cap - 8), .slice (some ⟨h, p2, none⟩) (n - 8) (c2 - 8)] (w.drewN (q4 + x)) (fun e w'' => e = .returned (.bool ob) ∧ ∃ n, w'' = w.drewN (q4 + n)) := fun x => (h53 (w.drewN (q4 + x)) g53 o53).mono (fun _ _ h => ⟨h.1, qmore h.2⟩)
  have w8 : (8 : Int) ≤ (n : Int) := by omega
  have y10 : (8 : Int) ≤ (cap : Int) := by omega
  have y11 : (8 : Int) ≤ (c2 : Int) := by omega
  have HFO : Hid (fl2 = fl) := hfo
  clear hob hfl8 h53 hfo hb8 ho8 g53 o53
  go_wp2
  rename_i K hK
  by_cases a1 : fl2 = fl8
  · have a1' : ((fl2 : Int) == (fl8 : Int)) = true := by simp [a1]
    by_cases a2 : R2 = R
    · have a2' : ((R2 : Int) == (R : Int)) = true := by simp [a2]
      clear a1 a2
      go_quiet ((go_at_call 9; with_reducible exact k53 _))
      rw [World.drewN_drewN]
      show K _ _
      refine hK _ _ ?_
      exact tail54_wrote _ w0 w g h n cap c2 nl fl R fl2 R2 _ f f1 hn h1 h2 hnc hc2 hnl _hfl hR hst hB HFO.out _hro hnlr hrem hs1 hs2 _ _ _ _ _ _ _ _ _ _ _ _ _ _ _ _ _ _ _ _ _ _ _ _ _ _ _ _ _ _ _ _ _ _ _ _ _ _ _ _ _ _ _ _ _ _ _ _ _ _ _ _ _ _ _ _ _ _ _ _ _ _ _ _ _ _ _ _ _ _ _ _ _ _ _ _ _ _ _ _ _ _ _ _ _ _ _ _ _ _ _ _ _ _ _ _ _ _ _ _ _ _ _ _ _ _ _ _ _ _ _ _ _ _ _ _ _ _ _ _ _ _ _ _ _ _ _ _ _ _ _ _ _ _ _ _ _ _ _ _ _ _ _ _ _ _ _ _ _ _ _ _ _ _ _ _ _ _ _ _ _ _ _ _ _ _ _ _ _ _ _ _ _ _ _ _ _ _ _ _ _ _ _ _ _ _ _ _ _ _ _ _ _ _ _ _ _ _ _ _ _ _ _ _ _ _ _ _ _ _ _ _ _ _ _ _ _ _ _ _ _ _ _ _ _ _ _ _ _ _ _ _ _ _ _ _ _ _ _ _ _ _ _ _ _ _ _ _ _ _ _ _ _ _ _ _ _ _ _ _ _ _ _ _ _ _ _ _ _ _ _ _ _ _ _ _ _ _ _ _ _ _ _ _ _ _ _ _ _ _ _ _ _ _ _ _ _ _ _ _ _ _ _ _ _ _ _ _ _ _ _ _ _ _ _ _ _ _ _ _ _ _ _ _ _ _ _ _ _ _ _ _ _ _ _ _ _ _ _ _ _ _ _ _ _ _ _ _ _ _ _ _ _ _ _ _ _ _ _ _ _ _ _ _ _ _ _ _
    · have a2' : ((R2 : Int) == (R : Int)) = false := beq_eq_false_iff_ne.2 (by omega)
      clear a1 a2
      go_quiet (fail)
      rw [World.drewN_drewN]
      show K _ _
      refine hK _ _ ?_
      exact tail54_wrote _ w0 w g h n cap c2 nl fl R fl2 R2 _ f f1 hn h1 h2 hnc hc2 hnl _hfl hR hst hB HFO.out _hro hnlr hrem hs1 hs2 _ _ _ _ _ _ _ _ _ _ _ _ _ _ _ _ _ _ _ _ _ _ _ _ _ _ _ _ _ _ _ _ _ _ _ _ _ _ _ _ _ _ _ _ _ _ _ _ _ _ _ _ _ _ _ _ _ _ _ _ _ _ _ _ _ _ _ _ _ _ _ _ _ _ _ _ _ _ _ _ _ _ _ _ _ _ _ _ _ _ _ _ _ _ _ _ _ _ _ _ _ _ _ _ _ _ _ _ _ _ _ _ _ _ _ _ _ _ _ _ _ _ _ _ _ _ _ _ _ _ _ _ _ _ _ _ _ _ _ _ _ _ _ _ _ _ _ _ _ _ _ _ _ _ _ _ _ _ _ _ _ _ _ _ _ _ _ _ _ _ _ _ _ _ _ _ _ _ _ _ _ _ _ _ _ _ _ _ _ _ _ _ _ _ _ _ _ _ _ _ _ _ _ _ _ _ _ _ _ _ _ _ _ _ _ _ _ _ _ _ _ _ _ _ _ _ _ _ _ _ _ _ _ _ _ _ _ _ _ _ _ _ _ _ _ _ _ _ _ _ _ _ _ _ _ _ _ _ _ _ _ _ _ _ _ _ _ _ _ _ _ _ _ _ _ _ _ _ _ _ _ _ _ _ _ _ _ _ _ _ _ _ _ _ _ _ _ _ _ _ _ _ _ _ _ _ _ _ _ _ _ _ _ _ _ _ _ _ _ _ _ _ _ _ _ _ _ _ _ _ _ _ _ _ _ _ _ _ _ _ _ _ _ _ _ _ _ _ _ _ _ _ _ _ _ _ _ _ _ _ _ _ _ _ _ _ _ _
  · have a1' : ((fl2 : Int) == (fl8 : Int)) = false := beq_eq_false_iff_ne.2 (by omega)
    clear a1
    go_quiet (fail)
    rw [World.drewN_drewN]
    show K _ _
    refine hK _ _ ?_
    exact tail54_wrote _ w0 w g h n cap c2 nl fl R fl2 R2 _ f f1 hn h1 h2 hnc hc2 hnl _hfl hR hst hB HFO.out _hro hnlr hrem hs1 hs2 _ _ _ _ _ _ _ _ _ _ _ _ _ _ _ _ _ _ _ _ _ _ _ _ _ _ _ _ _ _ _ _ _ _ _ _ _ _ _ _ _ _ _ _ _ _ _ _ _ _ _ _ _ _ _ _ _ _ _ _ _ _ _ _ _ _ _ _ _ _ _ _ _ _ _ _ _ _ _ _ _ _ _ _ _ _ _ _ _ _ _ _ _ _ _ _ _ _ _ _ _ _ _ _ _ _ _ _ _ _ _ _ _ _ _ _ _ _ _ _ _ _ _ _ _ _ _ _ _ _ _ _ _ _ _ _ _ _ _ _ _ _ _ _ _ _ _ _ _ _ _ _ _ _ _ _ _ _ _ _ _ _ _ _ _ _ _ _ _ _ _ _ _ _ _ _ _ _ _ _ _ _ _ _ _ _ _ _ _ _ _ _ _ _ _ _ _ _ _ _ _ _ _ _ _ _ _ _ _ _ _ _ _ _ _ _ _ _ _ _ _ _ _ _ _ _ _ _ _ _ _ _ _ _ _ _ _ _ _ _ _ _ _ _ _ _ _ _ _ _ _ _ _ _ _ _ _ _ _ _ _ _ _ _ _ _ _ _ _ _ _ _ _ _ _ _ _ _ _ _ _ _ _ _ _ _ _ _ _ _ _ _ _ _ _ _ _ _ _ _ _ _ _ _ _ _ _ _ _ _ _ _ _ _ _ _ _ _ _ _ _ _ _ _ _ _ _ _ _ _ _ _ _ _ _ _ _ _ _ _ _ _ _ _ _ _ _ _ _ _ _ _ _ _ _ _ _ _ _ _ _ _ _ _ _ _ _ _

end Go.Proofs.YbulkdlqeFmt
