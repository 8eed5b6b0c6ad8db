/-
  The law's blocks written.
-/
import Derived.Test.YbulkdlruFmtAq
namespace Go.Proofs.YbulkdlruFmt
open Go.RowKit Go.Shelf Go.Extern.Stop Go.Stop Go.Extern
set_option linter.unusedVariables false
set_option linter.unusedSimpArgs false

/-- One block of the law's input in memory. -/
def BlkC (B : Nat) (w : World) (b o p : Nat) : Prop :=
  (∃ h : Nat → Nat, (∀ j, h j < 256) ∧ ∀ j, j < 32 → w.cell? ⟨b, o + j, none⟩ = some (.int .u8 (h j : Int))) ∧ (∃ x : Int, w.cell? ⟨b, o + 32, none⟩ = some (.int .u64 x)) ∧ (∃ x : Int, w.cell? ⟨b, o + 33, none⟩ = some (.int .u64 x)) ∧
  (∃ pa pc fp, w.cell? ⟨b, o + 34, none⟩ = some (.slice pa p pc) ∧ Bytes w pa p fp ∧ (∀ j, fp j < 256) ∧ (pa = none → p = 0 ∧ pc = 0) ∧ ∀ q, pa = some q → p ≠ 0 → q.block < B) ∧
  (∃ ov : Bool, w.cell? ⟨b, o + 35, none⟩ = some (.bool ov)) ∧ ∃ x : Int, w.cell? ⟨b, o + 36, none⟩ = some (.int .u32 x)
def BlkIn (B : Nat) (w : World) (ba : Option Addr) (nb : Nat) (pl : Nat → Nat) : Prop := nb = 0 ∨ ∃ b o, ba = some ⟨b, o, none⟩ ∧ b < B ∧ ∀ i, i < nb → BlkC B w b (o + i * 37) (pl i)
theorem BlkC.below {B : Nat} {w w' : World} {b o p : Nat} (h : BlkC B w b o p) (hB : b < B) (hb : Below B w w') : BlkC B w' b o p := by
  obtain ⟨⟨hh, h1, h2⟩, ⟨x, h3⟩, ⟨y, h4⟩, ⟨pa, pc, fp, h5, h6, h7, h8, h9⟩, ⟨ov, h10⟩, z, h11⟩ := h
  exact ⟨⟨hh, h1, fun j hj => (hb.cell (p := ⟨b, o + j, none⟩) hB).trans (h2 j hj)⟩, ⟨x, (hb.cell (p := ⟨b, o + 32, none⟩) hB).trans h3⟩, ⟨y, (hb.cell (p := ⟨b, o + 33, none⟩) hB).trans h4⟩,
    ⟨pa, pc, fp, (hb.cell (p := ⟨b, o + 34, none⟩) hB).trans h5, h6.base hb h9, h7, h8, h9⟩, ⟨ov, (hb.cell (p := ⟨b, o + 35, none⟩) hB).trans h10⟩, z, (hb.cell (p := ⟨b, o + 36, none⟩) hB).trans h11⟩
theorem BlkIn.below {B : Nat} {w w' : World} {ba : Option Addr} {nb : Nat} {pl : Nat → Nat} (h : BlkIn B w ba nb pl) (hb : Below B w w') : BlkIn B w' ba nb pl := by
  rcases h with h | ⟨b, o, rfl, hB, h⟩
  · exact .inl h
  · exact .inr ⟨b, o, rfl, hB, fun i hi => (h i hi).below hB hb⟩

def L3Rel (B nb : Nat) (pl : Nat → Nat) (W : World) (s i : Value) (wr : World) : Prop := ∃ k : Nat, i = .int .i64 (k : Int) ∧ k ≤ nb ∧ Str wr B s (2 + 52 * k + psum pl k) ∧ Below B W wr

set_option maxRecDepth 100000 in
set_option maxHeartbeats 4000000 in
theorem law18 (F : Interp) (B : Nat) (ee : Addr) (v0 : Value) (Hb : Nat) (hb : Nat → Nat) (vv : Value) (nv : Nat) (ta : Option Addr) (tn tc : Nat) (ft : Nat → Nat) (fl ct : Nat) (nw : Int) (pre : Bool) (fa : Option Addr) (nf fc : Nat) (sl : Nat → Nat) (ba : Option Addr) (nb bc : Nat) (pl : Nat → Nat) (W : World) (Rq : Ending → World → Prop)
    (hX : Fix F B ee v0 Hb hb vv nv ta tn tc ft W) (hfl : fl < 256) (hfs : Fins B W fa nf sl) (hbs : BlkIn B W ba nb pl) (hn : 2 + 52 * nb + psum pl nb + 2 + 42 * nf + 66 * psum sl nf + 43 + 66 * nv + tn ≤ 200000000) (hct : ct < 4294967296)
    (u4 u9 u10 u11 u12 u14 u15 u16 u17 u18 u19 u20 u21 u22 u23 u24 u25 u26 u27 u28 u29 u30 u31 u32 u33 u34 u35 u36 u37 u38 u39 u40 u41 u42 u43 u44 u45 u46 u47 u48 u49 u50 u51 u52 u53 u54 u55 u56 u57 u58 u59 u60 u61 u62 u63 u64 u65 u66 u67 u68 u69 u70 u71 u72 u73 u74 u75 u76 u77 u78 u79 u80 u81 u82 u83 u84 u85 u86 u87 u88 u89 u90 u91 u92 u93 u94 u95 u96 u97 u98 u99 u100 u101 u102 u103 u104 u105 u106 u107 u108 u109 u110 u111 u112 u113 u114 u115 u116 u117 u118 u119 u120 u121 u122 u123 u124 u125 u126 u127 u128 u129 u130 u131 u132 u133 u134 u135 u136 u137 u138 u139 u140 u141 u142 u143 u144 u145 u146 u147 u148 u149 u150 u151 u152 u153 u154 u155 u156 u157 u158 u159 u160 u161 u162 u163 u164 u165 u166 u167 u168 u169 u170 u171 u172 u173 u174 u175 u176 u177 u178 u179 u180 u181 u182 u183 u184 u185 u186 u187 u188 u189 u190 u191 u192 u193 u194 u195 u196 u197 u198 u199 u200 u201 u202 u203 u204 u205 u206 u207 u208 u209 u210 u211 u212 u213 u214 u215 u216 u217 u218 u219 u220 u221 u222 u223 u224 u225 u226 u227 u228 u229 u230 u231 u232 u233 u234 u235 u236 u237 u238 u239 u240 u241 u242 u243 u244 u245 u246 u247 u248 u249 u250 u251 u252 u253 u254 u255 u256 u257 u258 u259 u260 u261 u262 u263 u264 u265 u266 u267 u268 u269 u270 u271 u272 u273 u274 u275 u276 u277 u278 u279 u280 u281 u282 u283 u284 u285 u286 u287 u288 u289 u290 u291 u292 u293 u294 u295 u296 u297 u298 u299 u300 u301 u302 u303 u304 u305 u306 u307 u308 u309 u310 u311 u312 u313 u314 u315 u316 u317 u318 u319 u320 u321 u322 u323 u324 u325 u326 u327 u328 u329 : Value)
    (hQ : ∀ w', Below B W w' → Rq (.returned (.bool true)) w') :
    Code.wp Ybaf.prog (mtail 18 Ybaf.f4.body) (bodyPost Ybaf.prog Ybaf.f4 Rq) ⟨#[.slice ba nb bc, .slice fa nf fc, .int .u8 (fl : Int), .int .u64 nw, u4, vv, .slice ta tn tc, .int .u32 (ct : Int), .bool pre, u9, u10, u11, u12, .pointer (some ⟨Hb, 0, none⟩), u14, u15, u16, u17, u18, u19, u20, u21, u22, u23, u24, u25, u26, u27, u28, u29, u30, u31, u32, u33, u34, u35, u36, u37, u38, u39, u40, u41, u42, u43, u44, u45, u46, u47, u48, u49, u50, u51, u52, u53, u54, u55, u56, u57, u58, u59, u60, u61, u62, u63, u64, u65, u66, u67, u68, u69, u70, u71, u72, u73, u74, u75, u76, u77, u78, u79, u80, u81, u82, u83, u84, u85, u86, u87, u88, u89, u90, u91, u92, u93, u94, u95, u96, u97, u98, u99, u100, u101, u102, u103, u104, u105, u106, u107, u108, u109, u110, u111, u112, u113, u114, u115, u116, u117, u118, u119, u120, u121, u122, u123, u124, u125, u126, u127, u128, u129, u130, u131, u132, u133, u134, u135, u136, u137, u138, u139, u140, u141, u142, u143, u144, u145, u146, u147, u148, u149, u150, u151, u152, u153, u154, u155, u156, u157, u158, u159, u160, u161, u162, u163, u164, u165, u166, u167, u168, u169, u170, u171, u172, u173, u174, u175, u176, u177, u178, u179, u180, u181, u182, u183, u184, u185, u186, u187, u188, u189, u190, u191, u192, u193, u194, u195, u196, u197, u198, u199, u200, u201, u202, u203, u204, u205, u206, u207, u208, u209, u210, u211, u212, u213, u214, u215, u216, u217, u218, u219, u220, u221, u222, u223, u224, u225, u226, u227, u228, u229, u230, u231, u232, u233, u234, u235, u236, u237, u238, u239, u240, u241, u242, u243, u244, u245, u246, u247, u248, u249, u250, u251, u252, u253, u254, u255, u256, u257, u258, u259, u260, u261, u262, u263, u264, u265, u266, u267, u268, u269, u270, u271, u272, u273, u274, u275, u276, u277, u278, u279, u280, u281, u282, u283, u284, u285, u286, u287, u288, u289, u290, u291, u292, u293, u294, u295, u296, u297, u298, u299, u300, u301, u302, u303, u304, u305, u306, u307, u308, u309, u310, u311, u312, u313, u314, u315, u316, u317, u318, u319, u320, u321, u322, u323, u324, u325, u326, u327, u328, u329], []⟩ W := by
  conv => arg 2; whnf
  conv => arg 4; zeta
  obtain ⟨i0, hi, hz0, hz1, hz2⟩ := info_parts Ybaf.info5
  have hnbI : (nb : Int) ≤ 200000000 := by omega
  have i0' : IntKind.u64.wrap (nb : Int) = (nb : Int) := IntWalk.u64_in _ (by omega)
  have hsz := hX.size
  have HN : Hid (2 + 52 * nb + psum pl nb + 2 + 42 * nf + 66 * psum sl nf + 43 + 66 * nv + tn ≤ 200000000 ∧ B ≤ W.heap.size ∧ ct < 4294967296 ∧ fl < 256) := ⟨hn, hX.size, hct, hfl⟩
  clear hn hct hfl
  go_upto_region 19 with (at_make; refine wpList_make_own _ rfl _ _ 33 rfl B 5 i0 (.int .u8 0) 1 Ybaf.underlying33 hi hz0 hz1 .i64 .i64 64 64 rfl rfl rfl (by rw [hz2]; omega) (by unfold maxLen; omega) hsz ?_; intro w1 hown1 hgrow1)
  have hB1 : Below B W w1 := (Below.refl B W).grown hgrow1 hsz (fun k hk => by cases hk)
  have hp := put_any B 0 2 (nb : Int) _ w1 ⟨W.heap.size, 64, fun _ => 0, rfl, fun _ => (by decide : (0 : Nat) < 256), hown1⟩ (by omega) (by omega) (Nat.le_trans hsz hB1.size)
  clear hown1 hgrow1 hi hz0 hz1 hz2
  go_upto_block 4 with (go_at_call 7; refine hp.mono ?_; rintro e w2 ⟨s2, rfl, hs2, hb2⟩)
  have hst : L3Rel B nb pl W s2 (.int .i64 0) w2 := ⟨0, rfl, Nat.zero_le _, hs2, hB1.trans hb2⟩
  clear hp hs2 hb2 hB1
  go_cut [22] (fun s wx => Str wx B s (2 + 52 * nb + psum pl nb) ∧ Below B W wx)
  case rest =>
    obtain ⟨k1, k2⟩ := hcut
    rename_i K hK
    refine hK _ _ ?_
    obtain ⟨h1, h2, h3, h4⟩ := HN.out
    exact law33 F B ee v0 Hb hb vv nv ta tn tc ft fl ct _ nw pre fa nf fc sl _ _ Rq (hX.below k2) h4 (hfs.below k2) k1 h1 h3 _ _ _ _ _ _ _ _ _ _ _ _ _ _ _ _ _ _ _ _ _ _ _ _ _ _ _ _ _ _ _ _ _ _ _ _ _ _ _ _ _ _ _ _ _ _ _ _ _ _ _ _ _ _ _ _ _ _ _ _ _ _ _ _ _ _ _ _ _ _ _ _ _ _ _ _ _ _ _ _ _ _ _ _ _ _ _ _ _ _ _ _ _ _ _ _ _ _ _ _ _ _ _ _ _ _ _ _ _ _ _ _ _ _ _ _ _ _ _ _ _ _ _ _ _ _ _ _ _ _ _ _ _ _ _ _ _ _ _ _ _ _ _ _ _ _ _ _ _ _ _ _ _ _ _ _ _ _ _ _ _ _ _ _ _ _ _ _ _ _ _ _ _ _ _ _ _ _ _ _ _ _ _ _ _ _ _ _ _ _ _ _ _ _ _ _ _ _ _ _ _ _ _ _ _ _ _ _ _ _ _ _ _ _ _ _ _ _ _ _ _ _ _ _ _ _ _ _ _ _ _ _ _ _ _ _ _ _ _ _ _ _ _ _ _ _ _ _ _ _ _ _ _ _ _ _ _ _ _ _ _ _ _ _ _ _ _ _ _ _ _ _ _ _ _ _ _ _ _ _ _ _ _ _ _ _ _ _ _ _ _ _ _ _ _ _ _ _ _ _ _ _ _ _ _ _ _ _ _ _ _ _ _ _ _ _ _ _ _ _ _ (fun w' hw => hQ w' (k2.trans hw))
  case first =>
    clear hQ hX hfs
    go_wp2
    go_loopw [22, 88] (fun s i wr => L3Rel B nb pl W s i wr) (fun s i _ => nb - (intOf i).toNat)
    case atStart => exact hst
    case round =>
      obtain ⟨k, rfl, hk, hstr, hbw⟩ := hrel
      clear hst
      by_cases hlt : k < nb
      · rcases hbs.below hbw with hv | ⟨b, o, rfl, hbB, hv⟩
        · omega
        have hC := hv k hlt
        have i1 : (k : Int) < (nb : Int) := by omega
        have i1' : IntKind.i64.wrap ((k : Int) + 1) = (k : Int) + 1 := IntWalk.i64_in _ (by omega)
        have hps : psum pl (k + 1) ≤ psum pl nb := psum_le pl hlt
        have hps' : psum pl (k + 1) = psum pl k + pl k := rfl
        have hszr : B ≤ wr.heap.size := Nat.le_trans hsz hbw.size
        obtain ⟨N0, hN0⟩ : ∃ N0, 2 + 52 * k + psum pl k = N0 := ⟨_, rfl⟩
        rw [hN0] at hstr
        have HK : Hid (k < nb ∧ 2 + 52 * (k + 1) + psum pl (k + 1) = N0 + 32 + 8 + 8 + 4 + pl k ∧ N0 + 32 + 8 + 8 + 4 + pl k ≤ 200000000 ∧ Below B W wr) := ⟨hlt, by omega, by have := HN.out; omega, hbw⟩
        obtain ⟨g1, cap1, f1, rfl, hf1, hown1⟩ := hstr
        obtain ⟨⟨hh, c1, c2⟩, ⟨x, c3⟩, ⟨y, c4⟩, ⟨pa, pc, fp, c5, c6, c7, c8, c9⟩, ⟨ov, c10⟩, z, c11⟩ := hC
        have d2 : Bytes wr (some ⟨b, o + k * 37, none⟩) 32 hh := .inr ⟨b, o + k * 37, rfl, c2⟩
        clear hk hlt hv hps hps' hN0 hbs hbw c2
        go_upto_region 25 with (at_builtin; refine wpList_appB _ rfl (.tmp 94) (.tmp 98) rfl B g1 cap1 N0 f1 rfl hf1 hown1 (some ⟨b, o + k * 37, none⟩) 32 32 hh rfl d2 c1 (fun h => by cases h) (by have := HK.out; omega) hszr ?_; intro g3 cap3 w3 f3 hf3 hown3 hb3)
        have hp := put_any B (N0 + 32) 8 x _ w3 ⟨g3, cap3, f3, rfl, hf3, hown3⟩ (by have := HK.out; omega) (by omega) (Nat.le_trans hszr hb3.size)
        have e3 := (hb3.cell (p := ⟨b, o + k * 37 + 32, none⟩) hbB).trans c3
        clear d2 hown1 hown3 hf3 hf1 c1 c3
        go_upto_region 26 with (go_at_call 7; refine hp.mono ?_; rintro e w4 ⟨s4, rfl, hs4, hb4⟩)
        have hb34 := hb3.trans hb4
        have hp := put_any B (N0 + 32 + 8) 8 y s4 w4 hs4 (by have := HK.out; omega) (by omega) (Nat.le_trans hszr hb34.size)
        have e4 := (hb34.cell (p := ⟨b, o + k * 37 + 33, none⟩) hbB).trans c4
        clear e3 hs4 c4 hb3 hb4
        go_upto_region 27 with (go_at_call 7; refine hp.mono ?_; rintro e w5 ⟨s5, rfl, hs5, hb5⟩)
        have hb35 := hb34.trans hb5
        have e5 := (hb35.cell (p := ⟨b, o + k * 37 + 34, none⟩) hbB).trans c5
        have e10 := (hb35.cell (p := ⟨b, o + k * 37 + 35, none⟩) hbB).trans c10
        have e11 := (hb35.cell (p := ⟨b, o + k * 37 + 36, none⟩) hbB).trans c11
        have e6 := c6.base hb35 c9
        clear hp e4 c5 c6 c10 c11 hb34 hb5
        go_upto_if 121 with fail
        go_cut [25] (fun v wx => (∃ t : Int, v = .int .u64 t) ∧ wx = w5)
        case first =>
          cases ov with
          | true =>
            go_wp2
            go_meet
            exact ⟨⟨_, rfl⟩, rfl⟩
          | false =>
            go_wp2
            go_meet
            exact ⟨⟨_, rfl⟩, rfl⟩
        case rest =>
          obtain ⟨⟨t, rfl⟩, hwc⟩ := hcut
          subst hwc
          have hp := put_any B (N0 + 32 + 8 + 8) 4 t s5 wc hs5 (by have := HK.out; omega) (by omega) (Nat.le_trans hszr hb35.size)
          clear hs5 e10 e11
          go_upto_region 31 with (go_at_call 7; refine hp.mono ?_; rintro e w6 ⟨s6, rfl, hs6, hb6⟩)
          obtain ⟨g6, cap6, f6, rfl, hf6, hown6⟩ := hs6
          have k5 := (hb6.cell (p := ⟨b, o + k * 37 + 34, none⟩) hbB).trans e5
          have k6 := e6.base hb6 c9
          have hszw : B ≤ w6.heap.size := Nat.le_trans (Nat.le_trans hszr hb35.size) hb6.size
          clear hp e5 e6
          go_wp2_with (at_builtin; refine wpList_appB _ rfl (.tmp 130) (.tmp 134) rfl B g6 cap6 (N0 + 32 + 8 + 8 + 4) f6 rfl hf6 hown6 pa (pl k) pc fp rfl k6 c7 c8 (by have := HK.out; omega) hszw ?_; intro g7 cap7 w7 f7 hf7 hown7 hb7)
          have hrel2 : L3Rel B nb pl W (.slice (some ⟨g7, 0, none⟩) (N0 + 32 + 8 + 8 + 4 + pl k) cap7) (.int .i64 ((k + 1 : Nat) : Int)) w7 := ⟨k + 1, rfl, HK.out.1, ⟨g7, cap7, f7, by rw [HK.out.2.1], hf7, by rw [HK.out.2.1]; exact hown7⟩, ((HK.out.2.2.2.trans hb35).trans hb6).trans hb7⟩
          clear hown6 hown7 hb7 hb6 hb35 k5 k6 hf6 hf7 c7 c8 c9
          go_roundw
          case rel =>
            rw [show ((k + 1 : Nat) : Int) = (k : Int) + 1 by omega] at hrel2
            first | exact hrel2 | ((repeat apply Exists.intro); exact ⟨hrel2, rfl⟩)
          case measure =>
            have := HK.out.1
            simp [intOf]
            omega
      · obtain rfl : k = nb := by omega
        have i1 : ¬ (k : Int) < (k : Int) := by omega
        have HX : Hid (Str wr B u22 (2 + 52 * k + psum pl k) ∧ Below B W wr) := ⟨hstr, hbw⟩
        clear hstr hbw
        go_wp2
        go_meet
        exact HX.out
end Go.Proofs.YbulkdlruFmt
