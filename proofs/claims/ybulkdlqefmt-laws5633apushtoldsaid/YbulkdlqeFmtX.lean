/-
  LawS5633APart behind Fill: the trace did not read.
-/
import Derived.Test.YbulkdlqeFmtV
namespace Go.Proofs.YbulkdlqeFmt
open Go.RowKit Go.Shelf Go.Extern.Stop Go.Stop Go.Extern

/-- The law's scan of the elements stands at a place from which the answer is k. -/
def AtPos (X : World) (T nl n k : Nat) (f : Nat → Nat) (v : Value) (wr : World) : Prop := wr = X ∧ ∃ pos : Nat, pos ≤ n ∧ v = .int .i64 (pos : Nat) ∧ Hid (scan (bt T 22) (nl * 4) f n pos = k)
theorem bt22 (T : Nat) (h : T < 4294967296) : (bits .and .u32 ((T : Int) / 2) 1 == 1) = bt T 22 := by
  have := bt_eq T 22 h
  simpa using this

set_option maxRecDepth 1000000 in
set_option maxHeartbeats 4000000 in
theorem tail_code (w0 w : World) (g h n cap c2 F fo c k : Nat) (f : Nat → Nat) (ea : Nat → Addr) (hE : Env w F fo c ea) (h8 : 8 ≤ n) (hn : n ≤ 65536) (h1 : Bytes w (some ⟨g, 0, none⟩) n f) (h2 : Row w h n f) (hf : ∀ i, f i < 256) (hk : tcode 0 n f = k) (hk9 : k ≠ 9) (hB : Below w0.heap.size w0 w) (u0 u2 u6 u7 u9 u10 u11 u12 u13 u14 u15 u16 u17 u18 u19 u20 u21 u22 u23 u24 u25 u26 u27 u28 u29 u30 u31 u32 u33 u34 u35 u36 u37 u38 u39 u40 u41 u42 u43 u44 u45 u46 u47 u48 u49 u50 u51 u52 u53 u54 u55 u56 u57 u58 u59 u60 u61 u62 u63 u64 u65 u66 u67 u68 u69 u70 u71 u72 u73 u74 u75 u76 u77 u78 u79 u80 u81 u82 u83 u84 u85 u86 u87 u88 u89 u90 u91 u92 u93 u94 u95 u96 u97 u98 u99 u100 u101 u102 u103 u104 u105 u106 u107 u108 u109 u110 u111 u112 u113 u114 u115 u116 u117 u118 u119 u120 u121 u122 u123 u124 u125 u126 u127 u128 u129 u130 u131 u132 u133 u134 u135 u136 u137 u138 u139 u140 u141 u142 u143 u144 u145 u146 u147 u148 u149 u150 u151 u152 u153 u154 u155 u156 u157 u158 u159 u160 u161 u162 u163 u164 u165 u166 u167 u168 u169 u170 u171 u172 u173 u174 u175 u176 u177 u178 u179 u180 u181 u182 u183 u184 u185 u186 u187 u188 u189 u190 u191 u192 u193 u194 u195 u196 u197 u198 u199 u200 u201 u202 u203 u204 u205 u206 u207 u208 u209 u210 u211 u212 u213 u214 u215 u216 u217 u218 u219 u220 u221 u222 u223 u224 u225 u226 u227 u228 u229 u230 u231 u232 u233 u234 u235 u236 u237 u238 u239 u240 u241 u242 u243 u244 u245 u246 u247 u248 u249 u250 u251 u252 u253 u254 u255 u256 u257 u258 u259 u260 u261 u262 u263 u264 u265 u266 u267 u268 u269 u270 u271 u272 u273 u274 u275 u276 u277 u278 u279 u280 u281 u282 u283 u284 u285 u286 u287 u288 u289 u290 u291 u292 u293 u294 u295 u296 u297 u298 u299 u300 u301 u302 u303 u304 u305 u306 u307 u308 u309 u310 u311 u312 u313 u314 u315 u316 u317 u318 u319 u320 u321 u322 u323 u324 u325 u326 u327 u328 u329 u330 u331 u332 u333 u334 u335 u336 u337 u338 u339 u340 u341 u342 u343 u344 u345 u346 u347 u348 u349 u350 u351 u352 u353 u354 u355 u356 u357 u358 u359 u360 u361 u362 u363 u364 u365 u366 u367 u368 u369 u370 u371 u372 u373 u374 u375 u376 : Value) :
    Code.wp Ybaf.prog (tail14 Ybaf.f3.body) (bodyPost Ybaf.prog Ybaf.f3 (LawPost w0)) ⟨#[u0, .pointer (some ⟨w0.heap.size, 0, none⟩), u2, .slice (some ⟨g, 0, none⟩) n cap, .int .u8 0, .slice (some ⟨h, 0, none⟩) n c2, u6, u7, .iface 65 (.pointer (some (ea k))), u9, u10, u11, u12, u13, u14, u15, u16, u17, u18, u19, u20, u21, u22, u23, u24, u25, u26, u27, u28, u29, u30, u31, u32, u33, u34, u35, u36, u37, u38, u39, u40, u41, u42, u43, u44, u45, u46, u47, u48, u49, u50, u51, u52, u53, u54, u55, u56, u57, u58, u59, u60, u61, u62, u63, u64, u65, u66, u67, u68, u69, u70, u71, u72, u73, u74, u75, u76, u77, u78, u79, u80, u81, u82, u83, u84, u85, u86, u87, u88, u89, u90, u91, u92, u93, u94, u95, u96, u97, u98, u99, u100, u101, u102, u103, u104, u105, u106, u107, u108, u109, u110, u111, u112, u113, u114, u115, u116, u117, u118, u119, u120, u121, u122, u123, u124, u125, u126, u127, u128, u129, u130, u131, u132, u133, u134, u135, u136, u137, u138, u139, u140, u141, u142, u143, u144, u145, u146, u147, u148, u149, u150, u151, u152, u153, u154, u155, u156, u157, u158, u159, u160, u161, u162, u163, u164, u165, u166, u167, u168, u169, u170, u171, u172, u173, u174, u175, u176, u177, u178, u179, u180, u181, u182, u183, u184, u185, u186, u187, u188, u189, u190, u191, u192, u193, u194, u195, u196, u197, u198, u199, u200, u201, u202, u203, u204, u205, u206, u207, u208, u209, u210, u211, u212, u213, u214, u215, u216, u217, u218, u219, u220, u221, u222, u223, u224, u225, u226, u227, u228, u229, u230, u231, u232, u233, u234, u235, u236, u237, u238, u239, u240, u241, u242, u243, u244, u245, u246, u247, u248, u249, u250, u251, u252, u253, u254, u255, u256, u257, u258, u259, u260, u261, u262, u263, u264, u265, u266, u267, u268, u269, u270, u271, u272, u273, u274, u275, u276, u277, u278, u279, u280, u281, u282, u283, u284, u285, u286, u287, u288, u289, u290, u291, u292, u293, u294, u295, u296, u297, u298, u299, u300, u301, u302, u303, u304, u305, u306, u307, u308, u309, u310, u311, u312, u313, u314, u315, u316, u317, u318, u319, u320, u321, u322, u323, u324, u325, u326, u327, u328, u329, u330, u331, u332, u333, u334, u335, u336, u337, u338, u339, u340, u341, u342, u343, u344, u345, u346, u347, u348, u349, u350, u351, u352, u353, u354, u355, u356, u357, u358, u359, u360, u361, u362, u363, u364, u365, u366, u367, u368, u369, u370, u371, u372, u373, u374, u375, u376], []⟩ w := by
  conv => arg 2; whnf
  have hq := eq_same (some ⟨g, 0, none⟩) (some ⟨h, 0, none⟩) n cap c2 f w (by omega) h1 h2.bytes
  have d2 := h2.cell (i := 2) (by omega)
  have d3 := h2.cell (i := 3) (by omega)
  have d4 := h2.cell (i := 4) (by omega)
  have d5 := h2.cell (i := 5) (by omega)
  have d6 := h2.cell (i := 6) (by omega)
  have f2 := hf 2
  have f3 := hf 3
  have f4 := hf 4
  have f5 := hf 5
  have f6 := hf 6
  have hn8 : (8 : Int) ≤ (n : Int) := by omega
  have i2 : (2 : Int) < (n : Int) := by omega
  have i3 : (3 : Int) < (n : Int) := by omega
  have i4 : (4 : Int) < (n : Int) := by omega
  have i5 : (5 : Int) < (n : Int) := by omega
  have i6 : (6 : Int) < (n : Int) := by omega
  obtain ⟨nl, hnl⟩ : ∃ nl, nl = hNl f := ⟨_, rfl⟩
  obtain ⟨fl, hfl⟩ : ∃ fl, fl = hFl f := ⟨_, rfl⟩
  obtain ⟨R, hrm⟩ : ∃ R, R = hRm f := ⟨_, rfl⟩
  obtain ⟨T, htt⟩ : ∃ T, T = hTt f := ⟨_, rfl⟩
  have b1 : (f 2 : Int) / 8 = (nl : Int) := by rw [hnl]; unfold hNl; omega
  have b2 : bits .or .u8 (IntKind.u8.wrap (bits .and .u8 (f 2 : Int) 7 * 2)) ((f 3 : Int) / 128) = (fl : Int) := by rw [and7 _ (hf 2), wrap_x2, or_fl _ _ (hf 3), hfl]; rfl
  have b2' : bits .or .u8 ((f 2 : Int) % 8 * 2) ((f 3 : Int) / 128) = (fl : Int) := by rw [show (f 2 : Int) % 8 * 2 = ((f 2 % 8 * 2 : Nat) : Int) by omega, or_fl _ _ (hf 3), hfl]; rfl
  have b3 : bits .and .u8 (f 3 : Int) 127 = (R : Int) := by rw [and127 _ (hf 3), hrm]; rfl
  have b4 : bits .or .u32 (bits .or .u32 ((f 4 : Int) * 65536) ((f 5 : Int) * 256)) (f 6 : Int) = (T : Int) := by rw [tt_or _ _ _ (hf 4) (hf 5) (hf 6), htt]; rfl
  have n1 : nl < 32 := by rw [hnl]; exact hNl_lt hf
  have n3 : R < 128 := by rw [hrm]; exact hRm_lt f
  have n4 : T < 16777216 := by rw [htt]; exact hTt_lt hf
  have HC : Hid (tcode 0 n f = if nl ≠ asz T / 4 then 1 else if n < 8 + R * 4 then 2 else scan (bt T 22) (nl * 4) f n (8 + R * 4)) := by show _ = _; unfold tcode hStart; rw [hnl, hrm, htt]; simp
  have has := fun X => asize_any T X (by omega)
  have hsz := asz_le100 T
  have hb22 := bt22 T (by omega)
  have N4 : Hid (T < 16777216) := n4
  have HK : Hid (tcode 0 n f = k) := hk
  have heq := errEq (ea k)
  clear hnl hfl hrm htt hk n4
  go_wp2_with fail
  refine hq.mono ?_
  rintro e w1 ⟨m, rfl, rfl⟩
  clear hq
  go_wp2
  go_quiet (fail)
  rw [World.drewN_drewN]
  obtain ⟨q1, hq1⟩ : ∃ q1, m + nq = q1 := ⟨_, rfl⟩
  rw [hq1]
  clear hq1
  go_wp2
  go_quiet (fail)
  rw [World.drewN_drewN]
  obtain ⟨q2, hq2⟩ : ∃ q2, q1 + nq = q2 := ⟨_, rfl⟩
  rw [hq2]
  clear hq2 b1 b2 b2' b3 b4 d2 d3 d4 d5 d6 f2 f3 f4 f5 f6 i2 i3 i4 i5 i6
  have hBq : Below w0.heap.size w0 (w.drewN q2) := hB.trans (below_drewN _ _ _)
  by_cases c1 : nl = asz T / 4
  · by_cases c2 : n < 8 + R * 4
    · obtain rfl : 2 = k := by rw [← HK.out, HC.out, if_neg (by omega), if_pos c2]
      have e2 := hE.errs 2 (by omega)
      have hd : ((nl : Int) != (asz T : Int) / 4) = false := by simp; omega
      have hd2 : (n : Int) - 8 < (R : Int) * 4 := by omega
      clear hE c1 c2
      go_wp2_with (go_at_call 10; refine (has _).mono ?_; rintro e w' ⟨rfl, hw'⟩; subst w')
      go_ret
      exact ⟨rfl, hBq⟩
    · have HS : Hid (scan (bt T 22) (nl * 4) f n (8 + R * 4) = k) := by show _ = _; rw [← HK.out, HC.out, if_neg (by omega), if_neg c2]
      have hd : ((nl : Int) != (asz T : Int) / 4) = false := by simp; omega
      have hd2 : ¬ (n : Int) - 8 < (R : Int) * 4 := by omega
      have hd3 : (8 : Int) + (R : Int) * 4 ≤ (n : Int) := by omega
      have hnI : (n : Int) ≤ 65536 := by omega
      clear c1 hn
      obtain ⟨sb, hsb⟩ : ∃ sb, bt T 22 = sb := ⟨_, rfl⟩
      rw [hsb] at hb22
      have HSB : Hid (bt T 22 = sb) := hsb
      clear hsb
      go_wp2_with (go_at_call 10; refine (has _).mono ?_; rintro e w' ⟨rfl, hw'⟩; subst w')
      go_loopw [16] (fun v wr => AtPos (w.drewN q2) T nl n k f v wr) (fun v _ => n - (intOf v).toNat)
      case atStart => exact ⟨rfl, 8 + R * 4, by omega, by go_num, HS⟩
      case round =>
        obtain ⟨rfl, pos, hpos, rfl, hsc⟩ := hrel
        by_cases hlt : pos < n
        · have hlt' : (pos : Int) < (n : Int) := by omega
          have e3 := hE.errs 3 (by omega)
          have e4 := hE.errs 4 (by omega)
          have hsc' := hsc.out
          rw [HSB.out] at hsc'
          have hcell : pos + nl * 4 < n → w.cell? ⟨h, pos + nl * 4, none⟩ = some (.int .u8 (f (pos + nl * 4) : Int)) := fun hj => h2.cell hj
          have hx := hf (pos + nl * 4)
          obtain ⟨x, hxx⟩ : ∃ x, f (pos + nl * 4) = x := ⟨_, rfl⟩
          obtain ⟨j, hj⟩ : ∃ j, pos + nl * 4 = j := ⟨_, rfl⟩
          rw [hxx, hj] at hcell
          rw [hxx] at hx
          have hji : (pos : Int) + (nl : Int) * 4 = (j : Int) := by omega
          cases sb with
          | true =>
            by_cases k1 : n - pos < nl * 4 + 4
            · obtain rfl : 3 = k := by rw [← hsc', scan_err _ _ _ _ _ hlt (by simp [wl, k1])]; simp [wl, k1]
              have j1 : (n : Int) - (pos : Int) < (nl : Int) * 4 + 4 := by omega
              clear hcell hsc hsc' HS k1 hE hxx hj
              go_wp2
              go_ret
              exact ⟨rfl, hBq⟩
            · have cj := hcell (by omega)
              have j1 : ¬ (n : Int) - (pos : Int) < (nl : Int) * 4 + 4 := by omega
              have j2 : (0 : Int) ≤ (j : Int) := by omega
              have j3 : (j : Int) < (n : Int) := by omega
              by_cases k2 : n - pos < nl * 4 + 4 + x * 4
              · obtain rfl : 4 = k := by rw [← hsc', scan_err _ _ _ _ _ hlt (by rw [hxx]; simp [wl, k1, k2])]; rw [hxx]; simp [wl, k1, k2]
                have j4 : (n : Int) - (pos : Int) < (nl : Int) * 4 + (4 + (x : Int) * 4) := by omega
                clear hcell hsc hsc' HS k1 k2 hE hxx hj
                go_wp2
                go_ret
                exact ⟨rfl, hBq⟩
              · have hgo := scan_go true (nl * 4) f n pos hlt (by rw [hxx]; simp [wl, k1, k2])
                have hw1 : (wl true (nl * 4) (f (pos + nl * 4)) (n - pos)).1 = nl * 4 + 4 + x * 4 := by rw [hxx]; simp [wl, k1, k2]
                rw [hw1, hsc'] at hgo
                have hgo2 : Hid (scan (bt T 22) (nl * 4) f n (pos + (nl * 4 + 4 + x * 4)) = k) := by show _ = _; rw [HSB.out]; exact hgo.symm
                have j4 : ¬ (n : Int) - (pos : Int) < (nl : Int) * 4 + (4 + (x : Int) * 4) := by omega
                have j5 : (((nl : Int) * 4 + (4 + (x : Int) * 4)) == 0) = false := beq_eq_false_iff_ne.2 (by omega)
                have hle : pos + (nl * 4 + 4 + x * 4) ≤ n := by omega
                clear hcell hsc hsc' hgo hw1 HS k1 k2 hE hxx hj
                go_wp2
                go_roundw
                case rel => first | exact ⟨rfl, pos + (nl * 4 + 4 + x * 4), hle, by go_num, hgo2⟩ | ((repeat apply Exists.intro); exact ⟨⟨rfl, pos + (nl * 4 + 4 + x * 4), hle, by go_num, hgo2⟩, rfl⟩)
                case measure => simp [intOf]; omega
          | false =>
            by_cases k1 : nl * 4 = 0 ∨ n - pos < nl * 4
            · obtain rfl : 3 = k := by rw [← hsc', scan_err _ _ _ _ _ hlt (by simp only [wl]; simp [k1])]; simp only [wl]; simp [k1]
              clear hcell hsc hsc' HS hE hxx hj
              by_cases k2 : nl = 0
              · subst k2
                go_wp2
                go_ret
                exact ⟨rfl, hBq⟩
              · have j1 : (n : Int) - (pos : Int) < (nl : Int) * 4 := by omega
                have j5 : (((nl : Int) * 4) == 0) = false := beq_eq_false_iff_ne.2 (by omega)
                clear k1 k2
                go_wp2
                go_ret
                exact ⟨rfl, hBq⟩
            · have hgo := scan_go false (nl * 4) f n pos hlt (by simp only [wl]; simp [k1])
              have hw1 : (wl false (nl * 4) (f (pos + nl * 4)) (n - pos)).1 = nl * 4 := by simp only [wl]; simp [k1]
              rw [hw1, hsc'] at hgo
              have hgo2 : Hid (scan (bt T 22) (nl * 4) f n (pos + nl * 4) = k) := by show _ = _; rw [HSB.out]; exact hgo.symm
              have j4 : ¬ (n : Int) - (pos : Int) < (nl : Int) * 4 := by omega
              have j5 : (((nl : Int) * 4) == 0) = false := beq_eq_false_iff_ne.2 (by omega)
              have hle : pos + nl * 4 ≤ n := by omega
              have j6 : 0 < nl := by omega
              clear hcell hsc hsc' hgo hw1 HS k1 hE hxx hj hji
              go_wp2
              go_roundw
              case rel => first | exact ⟨rfl, pos + nl * 4, hle, by go_num, hgo2⟩ | ((repeat apply Exists.intro); exact ⟨⟨rfl, pos + nl * 4, hle, by go_num, hgo2⟩, rfl⟩)
              case measure => simp [intOf]; omega
        · exact absurd (by rw [← hsc.out, scan_end _ _ _ _ _ hlt]) hk9
  · obtain rfl : 1 = k := by rw [← HK.out, HC.out, if_pos c1]
    have e1 := hE.errs 1 (by omega)
    have hd : ((nl : Int) != (asz T : Int) / 4) = true := by rw [bne_iff_ne]; omega
    clear hE c1
    go_wp2_with (go_at_call 10; refine (has _).mono ?_; rintro e w' ⟨rfl, hw'⟩; subst w')
    go_ret
    exact ⟨rfl, hBq⟩
end Go.Proofs.YbulkdlqeFmt
