/-
  The law's finalizations written.
-/
import Derived.Test.YbulkdlruFmtAp
namespace Go.Proofs.YbulkdlruFmt
open Go.RowKit Go.Shelf Go.Extern.Stop Go.Stop Go.Extern
set_option linter.unusedVariables false
set_option linter.unusedSimpArgs false

def psum (f : Nat → Nat) : Nat → Nat
  | 0 => 0
  | k + 1 => psum f k + f k
theorem psum_le (f : Nat → Nat) : ∀ {k n : Nat}, k ≤ n → psum f k ≤ psum f n
  | k, 0, h => by (obtain rfl : k = 0 := by omega); exact Nat.le_refl _
  | k, n + 1, h => by
    by_cases he : k = n + 1
    · subst he; exact Nat.le_refl _
    · exact Nat.le_trans (psum_le f (show k ≤ n by omega)) (by show psum f n ≤ psum f n + f n; omega)

/-- One finalization of the law's input in memory. -/
def FinC (B : Nat) (w : World) (b o s : Nat) : Prop :=
  (∃ x : Int, w.cell? ⟨b, o, none⟩ = some (.int .u64 x)) ∧ (∃ h : Nat → Nat, (∀ j, h j < 256) ∧ ∀ j, j < 32 → w.cell? ⟨b, o + 1 + j, none⟩ = some (.int .u8 (h j : Int))) ∧ ∃ v, w.cell? ⟨b, o + 33, none⟩ = some v ∧ SigV B w v s
def Fins (B : Nat) (w : World) (fa : Option Addr) (nf : Nat) (sl : Nat → Nat) : Prop := nf = 0 ∨ ∃ b o, fa = some ⟨b, o, none⟩ ∧ b < B ∧ ∀ i, i < nf → FinC B w b (o + i * 34) (sl i)
theorem FinC.below {B : Nat} {w w' : World} {b o s : Nat} (h : FinC B w b o s) (hB : b < B) (hb : Below B w w') : FinC B w' b o s := by
  obtain ⟨⟨x, h1⟩, ⟨hh, h2, h3⟩, v, h4, h5⟩ := h
  exact ⟨⟨x, (hb.cell (p := ⟨b, o, none⟩) hB).trans h1⟩, ⟨hh, h2, fun j hj => (hb.cell (p := ⟨b, o + 1 + j, none⟩) hB).trans (h3 j hj)⟩, v, (hb.cell (p := ⟨b, o + 33, none⟩) hB).trans h4, h5.below hb⟩
theorem Fins.below {B : Nat} {w w' : World} {fa : Option Addr} {nf : Nat} {sl : Nat → Nat} (h : Fins B w fa nf sl) (hb : Below B w w') : Fins B w' fa nf sl := by
  rcases h with h | ⟨b, o, rfl, hB, h⟩
  · exact .inl h
  · exact .inr ⟨b, o, rfl, hB, fun i hi => (h i hi).below hB hb⟩

def L4Rel (B n nf : Nat) (sl : Nat → Nat) (W : World) (s i : Value) (wr : World) : Prop := ∃ k : Nat, i = .int .i64 (k : Int) ∧ k ≤ nf ∧ Str wr B s (n + 42 * k + 66 * psum sl k) ∧ Below B W wr

set_option maxRecDepth 100000 in
set_option maxHeartbeats 4000000 in
theorem law33 (F : Interp) (B : Nat) (ee : Addr) (v0 : Value) (Hb : Nat) (hb : Nat → Nat) (vv : Value) (nv : Nat) (ta : Option Addr) (tn tc : Nat) (ft : Nat → Nat) (fl ct n : Nat) (nw : Int) (pre : Bool) (fa : Option Addr) (nf fc : Nat) (sl : Nat → Nat) (sv : Value) (W : World) (Rq : Ending → World → Prop)
    (hX : Fix F B ee v0 Hb hb vv nv ta tn tc ft W) (hfl : fl < 256) (hfs : Fins B W fa nf sl) (hsv : Str W B sv n) (hn : n + 2 + 42 * nf + 66 * psum sl nf + 43 + 66 * nv + tn ≤ 200000000) (hct : ct < 4294967296)
    (u0 u4 u9 u10 u11 u12 u14 u15 u16 u17 u18 u19 u20 u21 u23 u24 u25 u26 u27 u28 u29 u30 u31 u32 u33 u34 u35 u36 u37 u38 u39 u40 u41 u42 u43 u44 u45 u46 u47 u48 u49 u50 u51 u52 u53 u54 u55 u56 u57 u58 u59 u60 u61 u62 u63 u64 u65 u66 u67 u68 u69 u70 u71 u72 u73 u74 u75 u76 u77 u78 u79 u80 u81 u82 u83 u84 u85 u86 u87 u88 u89 u90 u91 u92 u93 u94 u95 u96 u97 u98 u99 u100 u101 u102 u103 u104 u105 u106 u107 u108 u109 u110 u111 u112 u113 u114 u115 u116 u117 u118 u119 u120 u121 u122 u123 u124 u125 u126 u127 u128 u129 u130 u131 u132 u133 u134 u135 u136 u137 u138 u139 u140 u141 u142 u143 u144 u145 u146 u147 u148 u149 u150 u151 u152 u153 u154 u155 u156 u157 u158 u159 u160 u161 u162 u163 u164 u165 u166 u167 u168 u169 u170 u171 u172 u173 u174 u175 u176 u177 u178 u179 u180 u181 u182 u183 u184 u185 u186 u187 u188 u189 u190 u191 u192 u193 u194 u195 u196 u197 u198 u199 u200 u201 u202 u203 u204 u205 u206 u207 u208 u209 u210 u211 u212 u213 u214 u215 u216 u217 u218 u219 u220 u221 u222 u223 u224 u225 u226 u227 u228 u229 u230 u231 u232 u233 u234 u235 u236 u237 u238 u239 u240 u241 u242 u243 u244 u245 u246 u247 u248 u249 u250 u251 u252 u253 u254 u255 u256 u257 u258 u259 u260 u261 u262 u263 u264 u265 u266 u267 u268 u269 u270 u271 u272 u273 u274 u275 u276 u277 u278 u279 u280 u281 u282 u283 u284 u285 u286 u287 u288 u289 u290 u291 u292 u293 u294 u295 u296 u297 u298 u299 u300 u301 u302 u303 u304 u305 u306 u307 u308 u309 u310 u311 u312 u313 u314 u315 u316 u317 u318 u319 u320 u321 u322 u323 u324 u325 u326 u327 u328 u329 : Value)
    (hQ : ∀ w', Below B W w' → Rq (.returned (.bool true)) w') :
    Code.wp Ybaf.prog (mtail 33 Ybaf.f4.body) (bodyPost Ybaf.prog Ybaf.f4 Rq) ⟨#[u0, .slice fa nf fc, .int .u8 (fl : Int), .int .u64 nw, u4, vv, .slice ta tn tc, .int .u32 (ct : Int), .bool pre, u9, u10, u11, u12, .pointer (some ⟨Hb, 0, none⟩), u14, u15, u16, u17, u18, u19, u20, u21, sv, u23, u24, u25, u26, u27, u28, u29, u30, u31, u32, u33, u34, u35, u36, u37, u38, u39, u40, u41, u42, u43, u44, u45, u46, u47, u48, u49, u50, u51, u52, u53, u54, u55, u56, u57, u58, u59, u60, u61, u62, u63, u64, u65, u66, u67, u68, u69, u70, u71, u72, u73, u74, u75, u76, u77, u78, u79, u80, u81, u82, u83, u84, u85, u86, u87, u88, u89, u90, u91, u92, u93, u94, u95, u96, u97, u98, u99, u100, u101, u102, u103, u104, u105, u106, u107, u108, u109, u110, u111, u112, u113, u114, u115, u116, u117, u118, u119, u120, u121, u122, u123, u124, u125, u126, u127, u128, u129, u130, u131, u132, u133, u134, u135, u136, u137, u138, u139, u140, u141, u142, u143, u144, u145, u146, u147, u148, u149, u150, u151, u152, u153, u154, u155, u156, u157, u158, u159, u160, u161, u162, u163, u164, u165, u166, u167, u168, u169, u170, u171, u172, u173, u174, u175, u176, u177, u178, u179, u180, u181, u182, u183, u184, u185, u186, u187, u188, u189, u190, u191, u192, u193, u194, u195, u196, u197, u198, u199, u200, u201, u202, u203, u204, u205, u206, u207, u208, u209, u210, u211, u212, u213, u214, u215, u216, u217, u218, u219, u220, u221, u222, u223, u224, u225, u226, u227, u228, u229, u230, u231, u232, u233, u234, u235, u236, u237, u238, u239, u240, u241, u242, u243, u244, u245, u246, u247, u248, u249, u250, u251, u252, u253, u254, u255, u256, u257, u258, u259, u260, u261, u262, u263, u264, u265, u266, u267, u268, u269, u270, u271, u272, u273, u274, u275, u276, u277, u278, u279, u280, u281, u282, u283, u284, u285, u286, u287, u288, u289, u290, u291, u292, u293, u294, u295, u296, u297, u298, u299, u300, u301, u302, u303, u304, u305, u306, u307, u308, u309, u310, u311, u312, u313, u314, u315, u316, u317, u318, u319, u320, u321, u322, u323, u324, u325, u326, u327, u328, u329], []⟩ W := by
  conv => arg 2; whnf
  conv => arg 4; zeta
  have hp := put_any B n 2 (nf : Int) sv W hsv (by omega) (by omega) hX.size
  have hnfI : (nf : Int) ≤ 200000000 := by omega
  have i0 : IntKind.u64.wrap (nf : Int) = (nf : Int) := IntWalk.u64_in _ (by omega)
  have HN : Hid (n + 2 + 42 * nf + 66 * psum sl nf + 43 + 66 * nv + tn ≤ 200000000 ∧ B ≤ W.heap.size ∧ ct < 4294967296 ∧ fl < 256) := ⟨hn, hX.size, hct, hfl⟩
  clear hn hct hfl hsv
  go_upto_block 6 with (go_at_call 7; refine hp.mono ?_; rintro e w1 ⟨s1, rfl, hs1, hb1⟩)
  have hst : L4Rel B (n + 2) nf sl W s1 (.int .i64 0) w1 := ⟨0, rfl, Nat.zero_le _, hs1, hb1⟩
  clear hp hs1 hb1
  go_cut [22] (fun s wx => Str wx B s (n + 2 + 42 * nf + 66 * psum sl nf) ∧ Below B W wx)
  case rest =>
    obtain ⟨k1, k2⟩ := hcut
    rename_i K hK
    refine hK _ _ ?_
    obtain ⟨h1, h2, h3, h4⟩ := HN.out
    exact law42 F B ee v0 Hb hb vv nv ta tn tc ft fl ct _ nw pre _ _ Rq (hX.below k2) h4 k1 h1 h3 _ _ _ _ _ _ _ _ _ _ _ _ _ _ _ _ _ _ _ _ _ _ _ _ _ _ _ _ _ _ _ _ _ _ _ _ _ _ _ _ _ _ _ _ _ _ _ _ _ _ _ _ _ _ _ _ _ _ _ _ _ _ _ _ _ _ _ _ _ _ _ _ _ _ _ _ _ _ _ _ _ _ _ _ _ _ _ _ _ _ _ _ _ _ _ _ _ _ _ _ _ _ _ _ _ _ _ _ _ _ _ _ _ _ _ _ _ _ _ _ _ _ _ _ _ _ _ _ _ _ _ _ _ _ _ _ _ _ _ _ _ _ _ _ _ _ _ _ _ _ _ _ _ _ _ _ _ _ _ _ _ _ _ _ _ _ _ _ _ _ _ _ _ _ _ _ _ _ _ _ _ _ _ _ _ _ _ _ _ _ _ _ _ _ _ _ _ _ _ _ _ _ _ _ _ _ _ _ _ _ _ _ _ _ _ _ _ _ _ _ _ _ _ _ _ _ _ _ _ _ _ _ _ _ _ _ _ _ _ _ _ _ _ _ _ _ _ _ _ _ _ _ _ _ _ _ _ _ _ _ _ _ _ _ _ _ _ _ _ _ _ _ _ _ _ _ _ _ _ _ _ _ _ _ _ _ _ _ _ _ _ _ _ _ _ _ _ _ _ _ _ _ _ _ _ _ _ _ _ _ _ _ _ _ _ _ _ _ _ _ _ _ (fun w' hw => hQ w' (k2.trans hw))
  case first =>
    clear hQ
    go_wp2
    go_loopw [22, 144] (fun s i wr => L4Rel B (n + 2) nf sl W s i wr) (fun s i _ => nf - (intOf i).toNat)
    case atStart => exact hst
    case round =>
      obtain ⟨k, rfl, hk, hstr, hbw⟩ := hrel
      clear hst
      by_cases hlt : k < nf
      · rcases hfs.below hbw with hv | ⟨b, o, rfl, hbB, hv⟩
        · omega
        obtain ⟨⟨x, c1⟩, ⟨hh, c2, c3⟩, v, c4, c5⟩ := hv k hlt
        have i1 : (k : Int) < (nf : Int) := by omega
        have i1' : IntKind.i64.wrap ((k : Int) + 1) = (k : Int) + 1 := IntWalk.i64_in _ (by omega)
        have hps : psum sl (k + 1) ≤ psum sl nf := psum_le sl hlt
        have hps' : psum sl (k + 1) = psum sl k + sl k := rfl
        have hsz : B ≤ wr.heap.size := Nat.le_trans HN.out.2.1 hbw.size
        obtain ⟨N0, hN0⟩ : ∃ N0, n + 2 + 42 * k + 66 * psum sl k = N0 := ⟨_, rfl⟩
        rw [hN0] at hstr
        have HK : Hid (k < nf ∧ n + 2 + 42 * (k + 1) + 66 * psum sl (k + 1) = N0 + 8 + 32 + 2 + 66 * sl k ∧ N0 + 8 + 32 + 2 + 66 * sl k ≤ 200000000 ∧ Below B W wr) := ⟨hlt, by omega, by have := HN.out; omega, hbw⟩
        have hp := put_any B N0 8 x u22 wr hstr (by have := HK.out; omega) (by omega) hsz
        clear hk hlt hv hstr hps hps' hN0 hbw hfs
        go_upto_region 39 with (go_at_call 7; refine hp.mono ?_; rintro e w2 ⟨s2, rfl, hs2, hb2⟩)
        obtain ⟨g2, cap2, f2, rfl, hf2, hown2⟩ := hs2
        have d3 : Bytes w2 (some ⟨b, o + k * 34 + 1, none⟩) 32 hh := .inr ⟨b, o + k * 34 + 1, rfl, fun j hj => (hb2.cell (p := ⟨b, o + k * 34 + 1 + j, none⟩) hbB).trans (c3 j hj)⟩
        have d4 := (hb2.cell (p := ⟨b, o + k * 34 + 33, none⟩) hbB).trans c4
        have d5 := c5.below hb2
        clear hp c1 c3 c4 c5
        go_upto_region 40 with (at_builtin; refine wpList_appB _ rfl (.tmp 156) (.tmp 160) rfl B g2 cap2 (N0 + 8) f2 rfl hf2 hown2 (some ⟨b, o + k * 34 + 1, none⟩) 32 32 hh rfl d3 c2 (fun h => by cases h) (by have := HK.out; omega) (Nat.le_trans hsz hb2.size) ?_; intro g3 cap3 w3 f3 hf3 hown3 hb3)
        have e4 := (hb3.cell (p := ⟨b, o + k * 34 + 33, none⟩) hbB).trans d4
        have e5 := d5.below hb3
        obtain ⟨va, vc, rfl, e6⟩ := e5
        have hsg := sigs_any B (N0 + 8 + 32) (sl k) _ (.slice va (sl k) vc) w3 ⟨g3, cap3, f3, rfl, hf3, hown3⟩ ⟨va, vc, rfl, e6⟩ (by have := HK.out; omega) (Nat.le_trans (Nat.le_trans hsz hb2.size) hb3.size)
        clear hown2 hown3 d3 d4 d5 hf2 hf3 e6 c2
        go_wp2_with (go_at_call 8; refine hsg.mono ?_; rintro e w4 ⟨s4, rfl, hs4, hb4⟩)
        have hrel2 : L4Rel B (n + 2) nf sl W s4 (.int .i64 ((k + 1 : Nat) : Int)) w4 := ⟨k + 1, rfl, HK.out.1, by rw [HK.out.2.1]; exact hs4, ((HK.out.2.2.2.trans hb2).trans hb3).trans hb4⟩
        clear hsg hs4 hb4 hb3 hb2 e4
        go_roundw
        case rel =>
          rw [show ((k + 1 : Nat) : Int) = (k : Int) + 1 by omega] at hrel2
          first | exact hrel2 | ((repeat apply Exists.intro); exact ⟨hrel2, rfl⟩)
        case measure =>
          have := HK.out.1
          simp [intOf]
          omega
      · obtain rfl : k = nf := by omega
        have i1 : ¬ (k : Int) < (k : Int) := by omega
        have HX : Hid (Str wr B u22 (n + 2 + 42 * k + 66 * psum sl k) ∧ Below B W wr) := ⟨hstr, hbw⟩
        clear hstr hbw
        go_wp2
        go_meet
        exact HX.out
end Go.Proofs.YbulkdlruFmt
