/-
  The law from the flag on.
-/
import Derived.Test.YbulkdlruFmtAo
namespace Go.Proofs.YbulkdlruFmt
open Go.RowKit Go.Shelf Go.Extern.Stop Go.Stop Go.Extern
set_option linter.unusedVariables false
set_option linter.unusedSimpArgs false

/-- What stands fixed while the law writes its stream. -/
structure Fix (F : Interp) (B : Nat) (ee : Addr) (v0 : Value) (Hb : Nat) (hb : Nat → Nat) (vv : Value) (nv : Nat) (ta : Option Addr) (tn tc : Nat) (ft : Nat → Nat) (w : World) : Prop where
  ans : F.answers w.tape
  size : B ≤ w.heap.size
  g0 : w.cell? ⟨0, 0, none⟩ = some (.iface 118 (.pointer (some ee)))
  z : 0 < B
  sen : w.cell? ee = some v0
  eb : ee.block < B
  hash : Bytes w (some ⟨Hb, 0, none⟩) 32 hb
  h256 : ∀ i, hb i < 256
  hB : Hb < B
  votes : SigV B w vv nv
  tail : Bytes w ta tn ft
  t256 : ∀ i, ft i < 256
  tnil : ta = none → tn = 0 ∧ tc = 0
  tB : ∀ p, ta = some p → tn ≠ 0 → p.block < B
theorem Bytes.base {w w' : World} {a : Option Addr} {n B : Nat} {f : Nat → Nat} (h : Bytes w a n f) (hb : Below B w w') (hB : ∀ p, a = some p → n ≠ 0 → p.block < B) : Bytes w' a n f := by
  rcases h with h | ⟨b, off, rfl, hc⟩
  · exact .inl h
  · exact .inr ⟨b, off, rfl, fun i hi => (hb.cell (p := ⟨b, off + i, none⟩) (hB ⟨b, off, none⟩ rfl (by omega))).trans (hc i hi)⟩
theorem Fix.below {F : Interp} {B : Nat} {ee : Addr} {v0 : Value} {Hb : Nat} {hb : Nat → Nat} {vv : Value} {nv : Nat} {ta : Option Addr} {tn tc : Nat} {ft : Nat → Nat} {w w' : World} (h : Fix F B ee v0 Hb hb vv nv ta tn tc ft w) (b : Below B w w') : Fix F B ee v0 Hb hb vv nv ta tn tc ft w' :=
  ⟨by rw [b.tape]; exact h.ans, Nat.le_trans h.size b.size, (b.cell (p := ⟨0, 0, none⟩) h.z).trans h.g0, h.z, (b.cell h.eb).trans h.sen, h.eb, h.hash.base b (fun p hp _ => by cases hp; exact h.hB), h.h256, h.hB, h.votes.below b, h.tail.base b h.tB, h.t256, h.tnil, h.tB⟩

set_option maxRecDepth 100000 in
set_option maxHeartbeats 4000000 in
theorem law42 (F : Interp) (B : Nat) (ee : Addr) (v0 : Value) (Hb : Nat) (hb : Nat → Nat) (vv : Value) (nv : Nat) (ta : Option Addr) (tn tc : Nat) (ft : Nat → Nat) (fl ct n : Nat) (nw : Int) (pre : Bool) (sv : Value) (W : World) (Rq : Ending → World → Prop)
    (hX : Fix F B ee v0 Hb hb vv nv ta tn tc ft W) (hfl : fl < 256) (hsv : Str W B sv n) (hn : n + 43 + 66 * nv + tn ≤ 200000000) (hct : ct < 4294967296)
    (u0 u1 u4 u9 u10 u11 u12 u14 u15 u16 u17 u18 u19 u20 u21 u23 u24 u25 u26 u27 u28 u29 u30 u31 u32 u33 u34 u35 u36 u37 u38 u39 u40 u41 u42 u43 u44 u45 u46 u47 u48 u49 u50 u51 u52 u53 u54 u55 u56 u57 u58 u59 u60 u61 u62 u63 u64 u65 u66 u67 u68 u69 u70 u71 u72 u73 u74 u75 u76 u77 u78 u79 u80 u81 u82 u83 u84 u85 u86 u87 u88 u89 u90 u91 u92 u93 u94 u95 u96 u97 u98 u99 u100 u101 u102 u103 u104 u105 u106 u107 u108 u109 u110 u111 u112 u113 u114 u115 u116 u117 u118 u119 u120 u121 u122 u123 u124 u125 u126 u127 u128 u129 u130 u131 u132 u133 u134 u135 u136 u137 u138 u139 u140 u141 u142 u143 u144 u145 u146 u147 u148 u149 u150 u151 u152 u153 u154 u155 u156 u157 u158 u159 u160 u161 u162 u163 u164 u165 u166 u167 u168 u169 u170 u171 u172 u173 u174 u175 u176 u177 u178 u179 u180 u181 u182 u183 u184 u185 u186 u187 u188 u189 u190 u191 u192 u193 u194 u195 u196 u197 u198 u199 u200 u201 u202 u203 u204 u205 u206 u207 u208 u209 u210 u211 u212 u213 u214 u215 u216 u217 u218 u219 u220 u221 u222 u223 u224 u225 u226 u227 u228 u229 u230 u231 u232 u233 u234 u235 u236 u237 u238 u239 u240 u241 u242 u243 u244 u245 u246 u247 u248 u249 u250 u251 u252 u253 u254 u255 u256 u257 u258 u259 u260 u261 u262 u263 u264 u265 u266 u267 u268 u269 u270 u271 u272 u273 u274 u275 u276 u277 u278 u279 u280 u281 u282 u283 u284 u285 u286 u287 u288 u289 u290 u291 u292 u293 u294 u295 u296 u297 u298 u299 u300 u301 u302 u303 u304 u305 u306 u307 u308 u309 u310 u311 u312 u313 u314 u315 u316 u317 u318 u319 u320 u321 u322 u323 u324 u325 u326 u327 u328 u329 : Value)
    (hQ : ∀ w', Below B W w' → Rq (.returned (.bool true)) w') :
    Code.wp Ybaf.prog (mtail 42 Ybaf.f4.body) (bodyPost Ybaf.prog Ybaf.f4 Rq) ⟨#[u0, u1, .int .u8 (fl : Int), .int .u64 nw, u4, vv, .slice ta tn tc, .int .u32 (ct : Int), .bool pre, u9, u10, u11, u12, .pointer (some ⟨Hb, 0, none⟩), u14, u15, u16, u17, u18, u19, u20, u21, sv, u23, u24, u25, u26, u27, u28, u29, u30, u31, u32, u33, u34, u35, u36, u37, u38, u39, u40, u41, u42, u43, u44, u45, u46, u47, u48, u49, u50, u51, u52, u53, u54, u55, u56, u57, u58, u59, u60, u61, u62, u63, u64, u65, u66, u67, u68, u69, u70, u71, u72, u73, u74, u75, u76, u77, u78, u79, u80, u81, u82, u83, u84, u85, u86, u87, u88, u89, u90, u91, u92, u93, u94, u95, u96, u97, u98, u99, u100, u101, u102, u103, u104, u105, u106, u107, u108, u109, u110, u111, u112, u113, u114, u115, u116, u117, u118, u119, u120, u121, u122, u123, u124, u125, u126, u127, u128, u129, u130, u131, u132, u133, u134, u135, u136, u137, u138, u139, u140, u141, u142, u143, u144, u145, u146, u147, u148, u149, u150, u151, u152, u153, u154, u155, u156, u157, u158, u159, u160, u161, u162, u163, u164, u165, u166, u167, u168, u169, u170, u171, u172, u173, u174, u175, u176, u177, u178, u179, u180, u181, u182, u183, u184, u185, u186, u187, u188, u189, u190, u191, u192, u193, u194, u195, u196, u197, u198, u199, u200, u201, u202, u203, u204, u205, u206, u207, u208, u209, u210, u211, u212, u213, u214, u215, u216, u217, u218, u219, u220, u221, u222, u223, u224, u225, u226, u227, u228, u229, u230, u231, u232, u233, u234, u235, u236, u237, u238, u239, u240, u241, u242, u243, u244, u245, u246, u247, u248, u249, u250, u251, u252, u253, u254, u255, u256, u257, u258, u259, u260, u261, u262, u263, u264, u265, u266, u267, u268, u269, u270, u271, u272, u273, u274, u275, u276, u277, u278, u279, u280, u281, u282, u283, u284, u285, u286, u287, u288, u289, u290, u291, u292, u293, u294, u295, u296, u297, u298, u299, u300, u301, u302, u303, u304, u305, u306, u307, u308, u309, u310, u311, u312, u313, u314, u315, u316, u317, u318, u319, u320, u321, u322, u323, u324, u325, u326, u327, u328, u329], []⟩ W := by
  conv => arg 2; whnf
  conv => arg 4; zeta
  obtain ⟨g, cap, f, rfl, hf, hown⟩ := hsv
  have HN : Hid (n + 43 + 66 * nv + tn ≤ 200000000 ∧ B ≤ W.heap.size ∧ ct < 4294967296 ∧ fl < 256) := ⟨hn, hX.size, hct, hfl⟩
  clear hn hct hfl
  go_upto_region 43 with (at_builtin; refine wpList_appB _ rfl (.tmp 169) (.tmp 171) rfl B g cap n f rfl hf (hown.alloc _) (some ⟨W.heap.size, 0, none⟩) 1 1 (fun _ => fl) rfl (.inr ⟨W.heap.size, 0, rfl, fun i hi => by (obtain rfl : i = 0 := by omega); simp [go_sem]⟩) (fun _ => HN.out.2.2.2) (fun h => by cases h) (by have := HN.out; omega) (by have := HN.out; simp; omega) ?_; intro g1 cap1 w1 f1 hf1 hown1 hb1)
  have hB1 : Below B W w1 := ((Below.refl B W).alloc HN.out.2.1 _).trans hb1
  have hX1 := hX.below hB1
  have hp := put_any B (n + 1) 8 nw _ w1 ⟨g1, cap1, f1, rfl, hf1, hown1⟩ (by have := HN.out; omega) (by omega) hX1.size
  clear hown hown1 hb1 hX hf hf1
  go_upto_region 44 with (go_at_call 7; refine hp.mono ?_; rintro e w2 ⟨sv2, rfl, hsv2, hb2⟩)
  obtain ⟨g2, cap2, f2, rfl, hf2, hown2⟩ := hsv2
  have hB2 := hB1.trans hb2
  have hX2 := hX1.below hb2
  clear hp hb2 hX1 hB1
  go_upto_region 45 with (at_builtin; refine wpList_appB _ rfl (.tmp 176) (.tmp 177) rfl B g2 cap2 (n + 1 + 8) f2 rfl hf2 hown2 (some ⟨Hb, 0, none⟩) 32 32 hb rfl hX2.hash hX2.h256 (fun h => by cases h) (by have := HN.out; omega) hX2.size ?_; intro g3 cap3 w3 f3 hf3 hown3 hb3)
  have hB3 := hB2.trans hb3
  have hX3 := hX2.below hb3
  have hsg := sigs_any B (n + 1 + 8 + 32) nv _ vv w3 ⟨g3, cap3, f3, rfl, hf3, hown3⟩ hX3.votes (by have := HN.out; omega) hX3.size
  clear hown2 hb3 hX2 hB2 hf2 hown3 hf3
  go_upto_region 46 with (go_at_call 8; refine hsg.mono ?_; rintro e w4 ⟨sv4, rfl, hsv4, hb4⟩)
  obtain ⟨g4, cap4, f4, rfl, hf4, hown4⟩ := hsv4
  have hB4 := hB3.trans hb4
  have hX4 := hX3.below hb4
  clear hsg hb4 hX3 hB3
  go_upto_region 47 with (at_builtin; refine wpList_appB _ rfl (.tmp 182) (.tmp 183) rfl B g4 cap4 (n + 1 + 8 + 32 + 2 + 66 * nv) f4 rfl hf4 hown4 ta tn tc ft rfl hX4.tail hX4.t256 hX4.tnil (by have := HN.out; omega) hX4.size ?_; intro g5 cap5 w5 f5 hf5 hown5 hb5)
  have hB5 := hB4.trans hb5
  have hX5 := hX4.below hb5
  clear hown4 hb5 hX4 hB4 hf4
  obtain ⟨hrow, hgB, hcap, hcc⟩ := OwnB.row hown5
  clear hcc
  obtain ⟨m, hm⟩ : ∃ m, n + 1 + 8 + 32 + 2 + 66 * nv + tn = m := ⟨_, rfl⟩
  rw [hm] at hrow hcap ⊢
  have HM : Hid (m ≤ 200000000 ∧ m ≤ cap5 ∧ B ≤ w5.heap.size ∧ 0 < m) := ⟨by have := HN.out; omega, hcap, hX5.size, by omega⟩
  have hgl := (OwnB.lt hown5).2
  clear hm hcap hown5
  go_upto_if 187 with fail
  go_cut [22] (fun v wx => ∃ k, v = .slice (some ⟨g5, 0, none⟩) k cap5 ∧ k ≤ m ∧ wx = w5)
  case first =>
    by_cases hpar : (ct : Int) % 2 = 1
    · have i1 : ((ct : Int) % 2 == 1) = true := by rw [beq_iff_eq]; exact hpar
      obtain ⟨q, hq⟩ : ∃ q : Nat, (ct : Int) / 2 = (q : Int) := ⟨ct / 2, by omega⟩
      have hq2 : (q : Int) ≤ 4294967296 := by have := HN.out; omega
      have hmI : (m : Int) ≤ 200000000 := by have := HM.out; omega
      have i2 : IntKind.i64.wrap (q : Int) = (q : Int) := IntWalk.i64_in _ (by omega)
      have i3 : IntKind.i64.wrap ((m : Int) + 1) = (m : Int) + 1 := IntWalk.i64_in _ (by omega)
      obtain ⟨r, hr⟩ : ∃ r : Nat, (q : Int) % ((m : Int) + 1) = (r : Int) := ⟨((q : Int) % ((m : Int) + 1)).toNat, by have := Int.emod_nonneg (q : Int) (show (m : Int) + 1 ≠ 0 by omega); omega⟩
      have hrm : (r : Int) ≤ (m : Int) := by have := Int.emod_lt_of_pos (q : Int) (show (0 : Int) < (m : Int) + 1 by omega); omega
      have i4 : ¬ (m : Int) + 1 = 0 := by omega
      have i5 : (q : Int) % 4294967296 = (q : Int) := by have := HN.out; omega
      have i6 : (r : Int) ≤ (cap5 : Int) := by have := HM.out; omega
      have i7 : ¬ cap5 = 0 := by have := HM.out; omega
      have i8 : ¬ 0 = cap5 := fun h => i7 h.symm
      have HR : Hid ((r : Int) ≤ (m : Int) ∧ (q : Int) ≤ 4294967296 ∧ (m : Int) ≤ 200000000) := ⟨hrm, hq2, hmI⟩
      clear hpar hq2 hmI hrm
      go_wp2
      go_meet
      exact ⟨r, rfl, by have := HR.out.1; omega, rfl⟩
    · have i1 : ((ct : Int) % 2 == 1) = false := by rw [beq_eq_false_iff_ne]; exact hpar
      clear hpar
      go_wp2
      go_meet
      exact ⟨m, rfl, Nat.le_refl _, rfl⟩
  case rest =>
    obtain ⟨k, rfl, hk, rfl⟩ := hcut
    rename_i K hK
    refine hK _ _ ?_
    have hE : Env g5 k cap5 f5 ee wc := ⟨hrow.shorter hk, hX5.g0, Nat.lt_of_lt_of_le hX5.eb hX5.size, hf5, by have := HM.out; omega, by have := HM.out; omega⟩
    have hQ' : ∀ w', Same [] wc w' → Rq (.returned (.bool true)) w' := fun w' hw => hQ w' (hB5.trans (hw.below hX5.size (by simp)))
    cases pre with
    | true => exact law50_pre g5 k cap5 f5 wc Rq hE.row _ _ _ _ _ _ _ _ _ _ _ _ _ _ _ _ _ _ _ _ _ _ _ _ _ _ _ _ _ _ _ _ _ _ _ _ _ _ _ _ _ _ _ _ _ _ _ _ _ _ _ _ _ _ _ _ _ _ _ _ _ _ _ _ _ _ _ _ _ _ _ _ _ _ _ _ _ _ _ _ _ _ _ _ _ _ _ _ _ _ _ _ _ _ _ _ _ _ _ _ _ _ _ _ _ _ _ _ _ _ _ _ _ _ _ _ _ _ _ _ _ _ _ _ _ _ _ _ _ _ _ _ _ _ _ _ _ _ _ _ _ _ _ _ _ _ _ _ _ _ _ _ _ _ _ _ _ _ _ _ _ _ _ _ _ _ _ _ _ _ _ _ _ _ _ _ _ _ _ _ _ _ _ _ _ _ _ _ _ _ _ _ _ _ _ _ _ _ _ _ _ _ _ _ _ _ _ _ _ _ _ _ _ _ _ _ _ _ _ _ _ _ _ _ _ _ _ _ _ _ _ _ _ _ _ _ _ _ _ _ _ _ _ _ _ _ _ _ _ _ _ _ _ _ _ _ _ _ _ _ _ _ _ _ _ _ _ _ _ _ _ _ _ _ _ _ _ _ _ _ _ _ _ _ _ _ _ _ _ _ _ _ _ _ _ _ _ _ _ _ _ _ _ _ _ _ _ _ _ _ _ _ _ _ _ _ _ _ _ _ _ _ _ _ _ _ _ _ hQ'
    | false => exact law50_no F g5 k cap5 f5 ee v0 wc Rq hX5.ans hE hX5.sen _ _ _ _ _ _ _ _ _ _ _ _ _ _ _ _ _ _ _ _ _ _ _ _ _ _ _ _ _ _ _ _ _ _ _ _ _ _ _ _ _ _ _ _ _ _ _ _ _ _ _ _ _ _ _ _ _ _ _ _ _ _ _ _ _ _ _ _ _ _ _ _ _ _ _ _ _ _ _ _ _ _ _ _ _ _ _ _ _ _ _ _ _ _ _ _ _ _ _ _ _ _ _ _ _ _ _ _ _ _ _ _ _ _ _ _ _ _ _ _ _ _ _ _ _ _ _ _ _ _ _ _ _ _ _ _ _ _ _ _ _ _ _ _ _ _ _ _ _ _ _ _ _ _ _ _ _ _ _ _ _ _ _ _ _ _ _ _ _ _ _ _ _ _ _ _ _ _ _ _ _ _ _ _ _ _ _ _ _ _ _ _ _ _ _ _ _ _ _ _ _ _ _ _ _ _ _ _ _ _ _ _ _ _ _ _ _ _ _ _ _ _ _ _ _ _ _ _ _ _ _ _ _ _ _ _ _ _ _ _ _ _ _ _ _ _ _ _ _ _ _ _ _ _ _ _ _ _ _ _ _ _ _ _ _ _ _ _ _ _ _ _ _ _ _ _ _ _ _ _ _ _ _ _ _ _ _ _ _ _ _ _ _ _ _ _ _ _ _ _ _ _ _ _ _ _ _ _ _ _ _ _ _ _ _ _ _ _ _ _ _ _ _ _ _ _ _ _ hQ'
end Go.Proofs.YbulkdlruFmt
