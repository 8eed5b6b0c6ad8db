/-
  LawS5633APart between the body and Fill.
-/
import Derived.Test.YbulkdlqeFmtAb
namespace Go.Proofs.YbulkdlqeFmt
open Go.RowKit Go.Shelf Go.Extern.Stop Go.Stop Go.Extern

def tail7 (b : Option Code) : Code := (b.bind (fromReg 7)).getD .skip
theorem DataAt.below {w w' : World} {B : Nat} {mv : Value} {sp : Option Addr} {lk : ByteArray → Nat × Bool} {sch dl : Nat} {ad : Option Addr} {dc : Nat} {df : Nat → Nat} (h : DataAt w B mv sp lk sch dl ad dc df) (hb : Below w.heap.size w w') : DataAt w' B mv sp lk sch dl ad dc df :=
  ⟨h.lkok, h.map.keep (fun b e => hb.block b (h.mapB b e).2), fun b e => ⟨(h.mapB b e).1, Nat.lt_of_lt_of_le (h.mapB b e).2 hb.size⟩, h.snap.below hb (Nat.le_refl _), h.snapB, h.bytes.below hb (Nat.le_refl _), h.bytesB⟩

set_option maxRecDepth 1000000 in
set_option maxHeartbeats 4000000 in
theorem apart_mid_type (I : Interp) (F fo c : Nat) (ea : Nat → Addr) (ot ns tt rm fl b7 el nr cr nf cf sch nd cd nk ck nv cv : Nat) (ar af as_ ak av : Option Addr) (raw us : Bool) (fd fk fv : Nat → Nat) (w W wc : World) (HSZ : Hid (W.heap.size = w.heap.size + 1)) (hA : Below w.heap.size w W) (hE' : Env w F fo c ea) (hEW : Env W F fo c ea) (hIW : I.answers W.tape)
    (hin1 : wc.heap[w.heap.size]? = some (.cells #[.int .u8 ot, .bool raw, .slice ar nr cr, .int .u16 ns, .int .u32 tt, .int .u8 rm, .int .u8 fl, .int .u8 b7, .int .u8 el, .slice af nf cf, .bool us, .int .u32 sch, .slice as_ nd cd, .slice ak nk ck, .slice av nv cv] 27 (0, 0))) (hnk : (nk : Int) ≤ 65536) (hnd : (nd : Int) ≤ 65536) (hdnil : as_ = none → nd = 0 ∧ cd = 0) (hdW : Bytes W as_ nd fd) (hkW : Bytes W ak nk fk) (hvW : Words W av nv fv) (hfk : ∀ i, fk i < 256) (hfv : ∀ i, fv i < 18446744073709551616) (hot : ot < 256)
    (a : Option Addr) (n cap : Nat) (f : Nat → Nat) (hanil : a = none → n = 0 ∧ cap = 0) (hrow : ∀ p, a = some p → ∃ g, p = ⟨g, 0, none⟩ ∧ W.heap.size ≤ g ∧ Row wc g n f) (hf : ∀ i, f i < 256) (hnc : n ≤ cap) (hcm : cap ≤ 9223372036854775807) (hn : n ≤ 65536) (hbc : Below W.heap.size W wc) (h12 : 12 ≤ ot % 16) (u0 u2 u4 u5 u6 u7 u8 u9 u10 u11 u12 u13 u14 u15 u16 u17 u18 u19 u20 u21 u22 u23 u24 u25 u26 u27 u28 u29 u30 u31 u32 u33 u34 u35 u36 u37 u38 u39 u40 u41 u42 u43 u44 u45 u46 u47 u48 u49 u50 u51 u52 u53 u54 u55 u56 u57 u58 u59 u60 u61 u62 u63 u64 u65 u66 u67 u68 u69 u70 u71 u72 u73 u74 u75 u76 u77 u78 u79 u80 u81 u82 u83 u84 u85 u86 u87 u88 u89 u90 u91 u92 u93 u94 u95 u96 u97 u98 u99 u100 u101 u102 u103 u104 u105 u106 u107 u108 u109 u110 u111 u112 u113 u114 u115 u116 u117 u118 u119 u120 u121 u122 u123 u124 u125 u126 u127 u128 u129 u130 u131 u132 u133 u134 u135 u136 u137 u138 u139 u140 u141 u142 u143 u144 u145 u146 u147 u148 u149 u150 u151 u152 u153 u154 u155 u156 u157 u158 u159 u160 u161 u162 u163 u164 u165 u166 u167 u168 u169 u170 u171 u172 u173 u174 u175 u176 u177 u178 u179 u180 u181 u182 u183 u184 u185 u186 u187 u188 u189 u190 u191 u192 u193 u194 u195 u196 u197 u198 u199 u200 u201 u202 u203 u204 u205 u206 u207 u208 u209 u210 u211 u212 u213 u214 u215 u216 u217 u218 u219 u220 u221 u222 u223 u224 u225 u226 u227 u228 u229 u230 u231 u232 u233 u234 u235 u236 u237 u238 u239 u240 u241 u242 u243 u244 u245 u246 u247 u248 u249 u250 u251 u252 u253 u254 u255 u256 u257 u258 u259 u260 u261 u262 u263 u264 u265 u266 u267 u268 u269 u270 u271 u272 u273 u274 u275 u276 u277 u278 u279 u280 u281 u282 u283 u284 u285 u286 u287 u288 u289 u290 u291 u292 u293 u294 u295 u296 u297 u298 u299 u300 u301 u302 u303 u304 u305 u306 u307 u308 u309 u310 u311 u312 u313 u314 u315 u316 u317 u318 u319 u320 u321 u322 u323 u324 u325 u326 u327 u328 u329 u330 u331 u332 u333 u334 u335 u336 u337 u338 u339 u340 u341 u342 u343 u344 u345 u346 u347 u348 u349 u350 u351 u352 u353 u354 u355 u356 u357 u358 u359 u360 u361 u362 u363 u364 u365 u366 u367 u368 u369 u370 u371 u372 u373 u374 u375 u376 : Value) :
    Code.wp Ybaf.prog (tail7 Ybaf.f3.body) (bodyPost Ybaf.prog Ybaf.f3 (LawPost w)) ⟨#[u0, .pointer (some ⟨w.heap.size, 0, none⟩), u2, .slice a n cap, u4, u5, u6, u7, u8, u9, u10, u11, u12, u13, u14, u15, u16, u17, u18, u19, u20, u21, u22, u23, u24, u25, u26, u27, u28, u29, u30, u31, u32, u33, u34, u35, u36, u37, u38, u39, u40, u41, u42, u43, u44, u45, u46, u47, u48, u49, u50, u51, u52, u53, u54, u55, u56, u57, u58, u59, u60, u61, u62, u63, u64, u65, u66, u67, u68, u69, u70, u71, u72, u73, u74, u75, u76, u77, u78, u79, u80, u81, u82, u83, u84, u85, u86, u87, u88, u89, u90, u91, u92, u93, u94, u95, u96, u97, u98, u99, u100, u101, u102, u103, u104, u105, u106, u107, u108, u109, u110, u111, u112, u113, u114, u115, u116, u117, u118, u119, u120, u121, u122, u123, u124, u125, u126, u127, u128, u129, u130, u131, u132, u133, u134, u135, u136, u137, u138, u139, u140, u141, u142, u143, u144, u145, u146, u147, u148, u149, u150, u151, u152, u153, u154, u155, u156, u157, u158, u159, u160, u161, u162, u163, u164, u165, u166, u167, u168, u169, u170, u171, u172, u173, u174, u175, u176, u177, u178, u179, u180, u181, u182, u183, u184, u185, u186, u187, u188, u189, u190, u191, u192, u193, u194, u195, u196, u197, u198, u199, u200, u201, u202, u203, u204, u205, u206, u207, u208, u209, u210, u211, u212, u213, u214, u215, u216, u217, u218, u219, u220, u221, u222, u223, u224, u225, u226, u227, u228, u229, u230, u231, u232, u233, u234, u235, u236, u237, u238, u239, u240, u241, u242, u243, u244, u245, u246, u247, u248, u249, u250, u251, u252, u253, u254, u255, u256, u257, u258, u259, u260, u261, u262, u263, u264, u265, u266, u267, u268, u269, u270, u271, u272, u273, u274, u275, u276, u277, u278, u279, u280, u281, u282, u283, u284, u285, u286, u287, u288, u289, u290, u291, u292, u293, u294, u295, u296, u297, u298, u299, u300, u301, u302, u303, u304, u305, u306, u307, u308, u309, u310, u311, u312, u313, u314, u315, u316, u317, u318, u319, u320, u321, u322, u323, u324, u325, u326, u327, u328, u329, u330, u331, u332, u333, u334, u335, u336, u337, u338, u339, u340, u341, u342, u343, u344, u345, u346, u347, u348, u349, u350, u351, u352, u353, u354, u355, u356, u357, u358, u359, u360, u361, u362, u363, u364, u365, u366, u367, u368, u369, u370, u371, u372, u373, u374, u375, u376], []⟩ wc := by
  conv => arg 2; whnf
  have hdata := fun X h1 h2 h3 => data_any us ak av nk ck nv cv sch nd cd as_ fk fv fd X hdnil h1 (by omega) hnk h2 hfk h3 hfv
  have hby : Bytes wc a n f := by
    cases a with
    | none => exact .inl (hanil rfl).1
    | some p => obtain ⟨g, rfl, _, hro⟩ := hrow p rfl; exact hro.bytes
  have hcl := clone_any a n cap f wc (by omega) hanil hby
  have hE6 := hE'.six
  have hEF := hE'.lt
  have i1 : (12 : Int) ≤ (ot : Int) % 16 := by omega
  obtain ⟨c0, c1, c2, c3, c4, c5, c6, c7, c8, c9, c10, c11, c12, c13, c14⟩ := icells hin1
  go_wp2_with fail
  refine hcl.mono ?_
  rintro e w1 ⟨a2, c2', rfl, hcs, hb1⟩
  have hin2 := (hb1.block w.heap.size (by have := HSZ.out; have := hbc.size; omega)).trans hin1
  clear c0 c1 c2 c3 c4 c5 c6 c7 c8 c9 c10 c11 c12 c13 c14 hcl
  obtain ⟨c0, c1, c2, c3, c4, c5, c6, c7, c8, c9, c10, c11, c12, c13, c14⟩ := icells hin2
  have hbw1 := hbc.trans (hb1.mono hbc.size)
  have hdc := hdata w1 (hdW.below hbw1 (Nat.le_refl _)) (hkW.below hbw1 (Nat.le_refl _)) (hvW.below hbw1 (Nat.le_refl _))
  clear hdata hdW hkW hvW
  go_wp2_with fail
  refine hdc.mono ?_
  rintro e w2 ⟨ob, sp, lk, sch', dl, ad, dc, df, rfl, hD, hb2, hu1, hu2, hdl⟩
  have hlt2 : w.heap.size < w2.heap.size := by have := HSZ.out; have := hbw1.size; have := hb2.size; omega
  have hin3 := (hb2.block w.heap.size (by have := HSZ.out; have := hbw1.size; omega)).trans hin2
  clear c0 c1 c2 c3 c4 c5 c6 c7 c8 c9 c10 c11 c12 c13 c14 hdc
  obtain ⟨c0, c1, c2, c3, c4, c5, c6, c7, c8, c9, c10, c11, c12, c13, c14⟩ := icells hin3
  have hbw2 := hbw1.trans (hb2.mono hbw1.size)
  have hne2 : ¬ (w.heap.size = w2.heap.size) := by omega
  have hne3 : ¬ (w2.heap.size = w.heap.size) := by omega
  have hbD : Below w2.heap.size w2 ((w2.alloc (.cells #[.map ob, .pointer sp] 34)).alloc (.cells #[.int .u8 ot, .int .u16 ns, .slice a n cap, .int .u8 0] 37)) := ((Below.refl _ _).alloc (Nat.le_refl _) _).alloc (by simp) _
  have hbwD : Below W.heap.size W ((w2.alloc (.cells #[.map ob, .pointer sp] 34)).alloc (.cells #[.int .u8 ot, .int .u16 ns, .slice a n cap, .int .u8 0] 37)) := hbw2.trans (hbD.mono hbw2.size)
  have hrowD : ∀ p, a = some p → ∃ g, p = ⟨g, 0, none⟩ ∧ W.heap.size ≤ g ∧ g < w1.heap.size ∧ Row ((w2.alloc (.cells #[.map ob, .pointer sp] 34)).alloc (.cells #[.int .u8 ot, .int .u16 ns, .slice a n cap, .int .u8 0] 37)) g n f := by
    intro p hp
    obtain ⟨g, e, hg, hro⟩ := hrow p hp
    have hg2 : g < w1.heap.size := Nat.lt_of_lt_of_le hro.lt hb1.size
    exact ⟨g, e, hg, hg2, ((hro.below hb1 hro.lt).below hb2 hg2).below hbD (Nat.lt_of_lt_of_le hg2 hb2.size)⟩
  have hfr : Calls Ybaf.prog 8 #[.agg #[.int .u8 ((ot : Nat) : Int), .int .u16 ns, .slice a n cap, .int .u8 0], .agg #[.map ob, .pointer sp]] ((w2.alloc (.cells #[.map ob, .pointer sp] 34)).alloc (.cells #[.int .u8 ot, .int .u16 ns, .slice a n cap, .int .u8 0] 37)) (fun e w' => ∃ v, e = .returned v ∧ FillRel ea us ot n a f v ((w2.alloc (.cells #[.map ob, .pointer sp] 34)).alloc (.cells #[.int .u8 ot, .int .u16 ns, .slice a n cap, .int .u8 0] 37)) w') :=
    fill_rel I us ot ns 0 F fo c n cap sch' dl dc a f df lk ea ad (.map ob) sp w1.heap.size W.heap.size ((w2.alloc (.cells #[.map ob, .pointer sp] 34)).alloc (.cells #[.int .u8 ot, .int .u16 ns, .slice a n cap, .int .u8 0] 37)) ((congrArg I.answers hbwD.tape).mpr hIW) (hEW.below hbwD (Nat.le_refl _)) hrowD (fun h => (hanil h).1) hf hnc hcm hn (Nat.lt_of_lt_of_le hE6 hA.size) (Nat.lt_of_lt_of_le hEF hA.size) (hD.below hbD) hu1 (by omega)
  have hbT : Below w.heap.size w ((w2.alloc (.cells #[.map ob, .pointer sp] 34)).alloc (.cells #[.int .u8 ot, .int .u16 ns, .slice a n cap, .int .u8 0] 37)) := hA.trans (hbwD.mono hA.size)
  have hlT : w.heap.size < ((w2.alloc (.cells #[.map ob, .pointer sp] 34)).alloc (.cells #[.int .u8 ot, .int .u16 ns, .slice a n cap, .int .u8 0] 37)).heap.size := by simp; omega
  have h1T : Bytes ((w2.alloc (.cells #[.map ob, .pointer sp] 34)).alloc (.cells #[.int .u8 ot, .int .u16 ns, .slice a n cap, .int .u8 0] 37)) a n f := ((hby.below hb1 (Nat.le_refl _)).below hb2 (Nat.le_refl _)).below hbD (Nat.le_refl _)
  have hoT : (a2 = none ∧ n = 0) ∨ ∃ h, a2 = some ⟨h, 0, none⟩ ∧ Row ((w2.alloc (.cells #[.map ob, .pointer sp] 34)).alloc (.cells #[.int .u8 ot, .int .u16 ns, .slice a n cap, .int .u8 0] 37)) h n f ∧ ∀ g, a = some ⟨g, 0, none⟩ → g ≠ h := by
    rcases hcs with ⟨_, e, h0, _, _⟩ | ⟨e, _, hro⟩
    · exact .inl ⟨e, h0⟩
    · refine .inr ⟨wc.heap.size, e, (hro.below hb2 hro.lt).below hbD (Nat.lt_of_lt_of_le hro.lt hb2.size), fun g hg => ?_⟩
      obtain ⟨g', e', _, hr'⟩ := hrow _ hg
      cases e'
      have := hr'.lt
      omega
  have haT : ∀ p, a = some p → ∃ g, p = ⟨g, 0, none⟩ ∧ w.heap.size < g ∧ g < ((w2.alloc (.cells #[.map ob, .pointer sp] 34)).alloc (.cells #[.int .u8 ot, .int .u16 ns, .slice a n cap, .int .u8 0] 37)).heap.size := by
    intro p hp
    obtain ⟨g, e, h3, _, h4⟩ := hrowD p hp
    exact ⟨g, e, by have := HSZ.out; omega, h4.lt⟩
  have huT : ((w2.alloc (.cells #[.map ob, .pointer sp] 34)).alloc (.cells #[.int .u8 ot, .int .u16 ns, .slice a n cap, .int .u8 0] 37)).cell? ⟨w.heap.size, 10, none⟩ = some (.bool us) := (hbD.cell (p := ⟨w.heap.size, 10, none⟩) hlt2).trans c10
  have hcT : n ≤ c2' := by
    rcases hcs with ⟨_, _, h0, _, _⟩ | ⟨_, e, _⟩
    · omega
    · omega
  have hET := hEW.below hbwD (Nat.le_refl _)
  go_upto_region 13 with fail
  go_cut [8] (fun v wx => FillRel ea us ot n a f v ((w2.alloc (.cells #[.map ob, .pointer sp] 34)).alloc (.cells #[.int .u8 ot, .int .u16 ns, .slice a n cap, .int .u8 0] 37)) wx)
  case first =>
    go_wp2_with fail
    refine hfr.mono ?_
    rintro e w3 ⟨v, rfl, hrel⟩
    go_wp2
    go_meet
    exact hrel
  case rest =>
    rename_i K hK
    refine hK _ _ ?_
    exact apart_tail w ((w2.alloc (.cells #[.map ob, .pointer sp] 34)).alloc (.cells #[.int .u8 ot, .int .u16 ns, .slice a n cap, .int .u8 0] 37)) _ ea us F fo c ot n cap c2' a a2 f _ hcut hET hbT hlT h1T hoT haT huT hf hn hnc hcT _ _ _ _ _ _ _ _ _ _ _ _ _ _ _ _ _ _ _ _ _ _ _ _ _ _ _ _ _ _ _ _ _ _ _ _ _ _ _ _ _ _ _ _ _ _ _ _ _ _ _ _ _ _ _ _ _ _ _ _ _ _ _ _ _ _ _ _ _ _ _ _ _ _ _ _ _ _ _ _ _ _ _ _ _ _ _ _ _ _ _ _ _ _ _ _ _ _ _ _ _ _ _ _ _ _ _ _ _ _ _ _ _ _ _ _ _ _ _ _ _ _ _ _ _ _ _ _ _ _ _ _ _ _ _ _ _ _ _ _ _ _ _ _ _ _ _ _ _ _ _ _ _ _ _ _ _ _ _ _ _ _ _ _ _ _ _ _ _ _ _ _ _ _ _ _ _ _ _ _ _ _ _ _ _ _ _ _ _ _ _ _ _ _ _ _ _ _ _ _ _ _ _ _ _ _ _ _ _ _ _ _ _ _ _ _ _ _ _ _ _ _ _ _ _ _ _ _ _ _ _ _ _ _ _ _ _ _ _ _ _ _ _ _ _ _ _ _ _ _ _ _ _ _ _ _ _ _ _ _ _ _ _ _ _ _ _ _ _ _ _ _ _ _ _ _ _ _ _ _ _ _ _ _ _ _ _ _ _ _ _ _ _ _ _ _ _ _ _ _ _ _ _ _ _ _ _ _ _ _ _ _ _ _ _ _ _ _ _ _ _ _ _ _ _ _ _ _ _ _ _ _ _ _ _ _ _ _ _ _ _ _ _ _ _ _ _ _ _ _ _ _ _ _ _ _ _ _ _ _ _ _ _ _ _ _ _ _ _ _ _ _

set_option maxRecDepth 1000000 in
set_option maxHeartbeats 4000000 in
theorem apart_mid_zero (I : Interp) (F fo c : Nat) (ea : Nat → Addr) (ot ns tt rm fl b7 el nr cr nf cf sch nd cd nk ck nv cv : Nat) (ar af as_ ak av : Option Addr) (raw us : Bool) (fd fk fv : Nat → Nat) (w W wc : World) (HSZ : Hid (W.heap.size = w.heap.size + 1)) (hA : Below w.heap.size w W) (hE' : Env w F fo c ea) (hEW : Env W F fo c ea) (hIW : I.answers W.tape)
    (hin1 : wc.heap[w.heap.size]? = some (.cells #[.int .u8 ot, .bool raw, .slice ar nr cr, .int .u16 ns, .int .u32 tt, .int .u8 rm, .int .u8 fl, .int .u8 b7, .int .u8 el, .slice af nf cf, .bool us, .int .u32 sch, .slice as_ nd cd, .slice ak nk ck, .slice av nv cv] 27 (0, 0))) (hnk : (nk : Int) ≤ 65536) (hnd : (nd : Int) ≤ 65536) (hdnil : as_ = none → nd = 0 ∧ cd = 0) (hdW : Bytes W as_ nd fd) (hkW : Bytes W ak nk fk) (hvW : Words W av nv fv) (hfk : ∀ i, fk i < 256) (hfv : ∀ i, fv i < 18446744073709551616) (hot : ot < 256)
    (a : Option Addr) (n cap : Nat) (f : Nat → Nat) (hanil : a = none → n = 0 ∧ cap = 0) (hrow : ∀ p, a = some p → ∃ g, p = ⟨g, 0, none⟩ ∧ W.heap.size ≤ g ∧ Row wc g n f) (hf : ∀ i, f i < 256) (hnc : n ≤ cap) (hcm : cap ≤ 9223372036854775807) (hn : n ≤ 65536) (hbc : Below W.heap.size W wc) (h12 : ¬ 12 ≤ ot % 16) (u0 u2 u4 u5 u6 u7 u8 u9 u10 u11 u12 u13 u14 u15 u16 u17 u18 u19 u20 u21 u22 u23 u24 u25 u26 u27 u28 u29 u30 u31 u32 u33 u34 u35 u36 u37 u38 u39 u40 u41 u42 u43 u44 u45 u46 u47 u48 u49 u50 u51 u52 u53 u54 u55 u56 u57 u58 u59 u60 u61 u62 u63 u64 u65 u66 u67 u68 u69 u70 u71 u72 u73 u74 u75 u76 u77 u78 u79 u80 u81 u82 u83 u84 u85 u86 u87 u88 u89 u90 u91 u92 u93 u94 u95 u96 u97 u98 u99 u100 u101 u102 u103 u104 u105 u106 u107 u108 u109 u110 u111 u112 u113 u114 u115 u116 u117 u118 u119 u120 u121 u122 u123 u124 u125 u126 u127 u128 u129 u130 u131 u132 u133 u134 u135 u136 u137 u138 u139 u140 u141 u142 u143 u144 u145 u146 u147 u148 u149 u150 u151 u152 u153 u154 u155 u156 u157 u158 u159 u160 u161 u162 u163 u164 u165 u166 u167 u168 u169 u170 u171 u172 u173 u174 u175 u176 u177 u178 u179 u180 u181 u182 u183 u184 u185 u186 u187 u188 u189 u190 u191 u192 u193 u194 u195 u196 u197 u198 u199 u200 u201 u202 u203 u204 u205 u206 u207 u208 u209 u210 u211 u212 u213 u214 u215 u216 u217 u218 u219 u220 u221 u222 u223 u224 u225 u226 u227 u228 u229 u230 u231 u232 u233 u234 u235 u236 u237 u238 u239 u240 u241 u242 u243 u244 u245 u246 u247 u248 u249 u250 u251 u252 u253 u254 u255 u256 u257 u258 u259 u260 u261 u262 u263 u264 u265 u266 u267 u268 u269 u270 u271 u272 u273 u274 u275 u276 u277 u278 u279 u280 u281 u282 u283 u284 u285 u286 u287 u288 u289 u290 u291 u292 u293 u294 u295 u296 u297 u298 u299 u300 u301 u302 u303 u304 u305 u306 u307 u308 u309 u310 u311 u312 u313 u314 u315 u316 u317 u318 u319 u320 u321 u322 u323 u324 u325 u326 u327 u328 u329 u330 u331 u332 u333 u334 u335 u336 u337 u338 u339 u340 u341 u342 u343 u344 u345 u346 u347 u348 u349 u350 u351 u352 u353 u354 u355 u356 u357 u358 u359 u360 u361 u362 u363 u364 u365 u366 u367 u368 u369 u370 u371 u372 u373 u374 u375 u376 : Value) :
    Code.wp Ybaf.prog (tail7 Ybaf.f3.body) (bodyPost Ybaf.prog Ybaf.f3 (LawPost w)) ⟨#[u0, .pointer (some ⟨w.heap.size, 0, none⟩), u2, .slice a n cap, u4, u5, u6, u7, u8, u9, u10, u11, u12, u13, u14, u15, u16, u17, u18, u19, u20, u21, u22, u23, u24, u25, u26, u27, u28, u29, u30, u31, u32, u33, u34, u35, u36, u37, u38, u39, u40, u41, u42, u43, u44, u45, u46, u47, u48, u49, u50, u51, u52, u53, u54, u55, u56, u57, u58, u59, u60, u61, u62, u63, u64, u65, u66, u67, u68, u69, u70, u71, u72, u73, u74, u75, u76, u77, u78, u79, u80, u81, u82, u83, u84, u85, u86, u87, u88, u89, u90, u91, u92, u93, u94, u95, u96, u97, u98, u99, u100, u101, u102, u103, u104, u105, u106, u107, u108, u109, u110, u111, u112, u113, u114, u115, u116, u117, u118, u119, u120, u121, u122, u123, u124, u125, u126, u127, u128, u129, u130, u131, u132, u133, u134, u135, u136, u137, u138, u139, u140, u141, u142, u143, u144, u145, u146, u147, u148, u149, u150, u151, u152, u153, u154, u155, u156, u157, u158, u159, u160, u161, u162, u163, u164, u165, u166, u167, u168, u169, u170, u171, u172, u173, u174, u175, u176, u177, u178, u179, u180, u181, u182, u183, u184, u185, u186, u187, u188, u189, u190, u191, u192, u193, u194, u195, u196, u197, u198, u199, u200, u201, u202, u203, u204, u205, u206, u207, u208, u209, u210, u211, u212, u213, u214, u215, u216, u217, u218, u219, u220, u221, u222, u223, u224, u225, u226, u227, u228, u229, u230, u231, u232, u233, u234, u235, u236, u237, u238, u239, u240, u241, u242, u243, u244, u245, u246, u247, u248, u249, u250, u251, u252, u253, u254, u255, u256, u257, u258, u259, u260, u261, u262, u263, u264, u265, u266, u267, u268, u269, u270, u271, u272, u273, u274, u275, u276, u277, u278, u279, u280, u281, u282, u283, u284, u285, u286, u287, u288, u289, u290, u291, u292, u293, u294, u295, u296, u297, u298, u299, u300, u301, u302, u303, u304, u305, u306, u307, u308, u309, u310, u311, u312, u313, u314, u315, u316, u317, u318, u319, u320, u321, u322, u323, u324, u325, u326, u327, u328, u329, u330, u331, u332, u333, u334, u335, u336, u337, u338, u339, u340, u341, u342, u343, u344, u345, u346, u347, u348, u349, u350, u351, u352, u353, u354, u355, u356, u357, u358, u359, u360, u361, u362, u363, u364, u365, u366, u367, u368, u369, u370, u371, u372, u373, u374, u375, u376], []⟩ wc := by
  conv => arg 2; whnf
  have hdata := fun X h1 h2 h3 => data_any us ak av nk ck nv cv sch nd cd as_ fk fv fd X hdnil h1 (by omega) hnk h2 hfk h3 hfv
  have hby : Bytes wc a n f := by
    cases a with
    | none => exact .inl (hanil rfl).1
    | some p => obtain ⟨g, rfl, _, hro⟩ := hrow p rfl; exact hro.bytes
  have hcl := clone_any a n cap f wc (by omega) hanil hby
  have hE6 := hE'.six
  have hEF := hE'.lt
  have i1 : ¬ (12 : Int) ≤ (ot : Int) % 16 := by omega
  obtain ⟨c0, c1, c2, c3, c4, c5, c6, c7, c8, c9, c10, c11, c12, c13, c14⟩ := icells hin1
  go_wp2_with fail
  refine hcl.mono ?_
  rintro e w1 ⟨a2, c2', rfl, hcs, hb1⟩
  have hin2 := (hb1.block w.heap.size (by have := HSZ.out; have := hbc.size; omega)).trans hin1
  clear c0 c1 c2 c3 c4 c5 c6 c7 c8 c9 c10 c11 c12 c13 c14 hcl
  obtain ⟨c0, c1, c2, c3, c4, c5, c6, c7, c8, c9, c10, c11, c12, c13, c14⟩ := icells hin2
  have hbw1 := hbc.trans (hb1.mono hbc.size)
  have hdc := hdata w1 (hdW.below hbw1 (Nat.le_refl _)) (hkW.below hbw1 (Nat.le_refl _)) (hvW.below hbw1 (Nat.le_refl _))
  clear hdata hdW hkW hvW
  go_wp2_with fail
  refine hdc.mono ?_
  rintro e w2 ⟨ob, sp, lk, sch', dl, ad, dc, df, rfl, hD, hb2, hu1, hu2, hdl⟩
  have hlt2 : w.heap.size < w2.heap.size := by have := HSZ.out; have := hbw1.size; have := hb2.size; omega
  have hin3 := (hb2.block w.heap.size (by have := HSZ.out; have := hbw1.size; omega)).trans hin2
  clear c0 c1 c2 c3 c4 c5 c6 c7 c8 c9 c10 c11 c12 c13 c14 hdc
  obtain ⟨c0, c1, c2, c3, c4, c5, c6, c7, c8, c9, c10, c11, c12, c13, c14⟩ := icells hin3
  have hbw2 := hbw1.trans (hb2.mono hbw1.size)
  have hne2 : ¬ (w.heap.size = w2.heap.size) := by omega
  have hne3 : ¬ (w2.heap.size = w.heap.size) := by omega
  have hbD : Below w2.heap.size w2 ((w2.alloc (.cells #[.map ob, .pointer sp] 34)).alloc (.cells #[.int .u8 0, .int .u16 ns, .slice a n cap, .int .u8 0] 37)) := ((Below.refl _ _).alloc (Nat.le_refl _) _).alloc (by simp) _
  have hbwD : Below W.heap.size W ((w2.alloc (.cells #[.map ob, .pointer sp] 34)).alloc (.cells #[.int .u8 0, .int .u16 ns, .slice a n cap, .int .u8 0] 37)) := hbw2.trans (hbD.mono hbw2.size)
  have hrowD : ∀ p, a = some p → ∃ g, p = ⟨g, 0, none⟩ ∧ W.heap.size ≤ g ∧ g < w1.heap.size ∧ Row ((w2.alloc (.cells #[.map ob, .pointer sp] 34)).alloc (.cells #[.int .u8 0, .int .u16 ns, .slice a n cap, .int .u8 0] 37)) g n f := by
    intro p hp
    obtain ⟨g, e, hg, hro⟩ := hrow p hp
    have hg2 : g < w1.heap.size := Nat.lt_of_lt_of_le hro.lt hb1.size
    exact ⟨g, e, hg, hg2, ((hro.below hb1 hro.lt).below hb2 hg2).below hbD (Nat.lt_of_lt_of_le hg2 hb2.size)⟩
  have hfr : Calls Ybaf.prog 8 #[.agg #[.int .u8 0, .int .u16 ns, .slice a n cap, .int .u8 0], .agg #[.map ob, .pointer sp]] ((w2.alloc (.cells #[.map ob, .pointer sp] 34)).alloc (.cells #[.int .u8 0, .int .u16 ns, .slice a n cap, .int .u8 0] 37)) (fun e w' => ∃ v, e = .returned v ∧ FillRel ea us 0 n a f v ((w2.alloc (.cells #[.map ob, .pointer sp] 34)).alloc (.cells #[.int .u8 0, .int .u16 ns, .slice a n cap, .int .u8 0] 37)) w') :=
    fill_rel I us 0 ns 0 F fo c n cap sch' dl dc a f df lk ea ad (.map ob) sp w1.heap.size W.heap.size ((w2.alloc (.cells #[.map ob, .pointer sp] 34)).alloc (.cells #[.int .u8 0, .int .u16 ns, .slice a n cap, .int .u8 0] 37)) ((congrArg I.answers hbwD.tape).mpr hIW) (hEW.below hbwD (Nat.le_refl _)) hrowD (fun h => (hanil h).1) hf hnc hcm hn (Nat.lt_of_lt_of_le hE6 hA.size) (Nat.lt_of_lt_of_le hEF hA.size) (hD.below hbD) hu1 (by omega)
  have hbT : Below w.heap.size w ((w2.alloc (.cells #[.map ob, .pointer sp] 34)).alloc (.cells #[.int .u8 0, .int .u16 ns, .slice a n cap, .int .u8 0] 37)) := hA.trans (hbwD.mono hA.size)
  have hlT : w.heap.size < ((w2.alloc (.cells #[.map ob, .pointer sp] 34)).alloc (.cells #[.int .u8 0, .int .u16 ns, .slice a n cap, .int .u8 0] 37)).heap.size := by simp; omega
  have h1T : Bytes ((w2.alloc (.cells #[.map ob, .pointer sp] 34)).alloc (.cells #[.int .u8 0, .int .u16 ns, .slice a n cap, .int .u8 0] 37)) a n f := ((hby.below hb1 (Nat.le_refl _)).below hb2 (Nat.le_refl _)).below hbD (Nat.le_refl _)
  have hoT : (a2 = none ∧ n = 0) ∨ ∃ h, a2 = some ⟨h, 0, none⟩ ∧ Row ((w2.alloc (.cells #[.map ob, .pointer sp] 34)).alloc (.cells #[.int .u8 0, .int .u16 ns, .slice a n cap, .int .u8 0] 37)) h n f ∧ ∀ g, a = some ⟨g, 0, none⟩ → g ≠ h := by
    rcases hcs with ⟨_, e, h0, _, _⟩ | ⟨e, _, hro⟩
    · exact .inl ⟨e, h0⟩
    · refine .inr ⟨wc.heap.size, e, (hro.below hb2 hro.lt).below hbD (Nat.lt_of_lt_of_le hro.lt hb2.size), fun g hg => ?_⟩
      obtain ⟨g', e', _, hr'⟩ := hrow _ hg
      cases e'
      have := hr'.lt
      omega
  have haT : ∀ p, a = some p → ∃ g, p = ⟨g, 0, none⟩ ∧ w.heap.size < g ∧ g < ((w2.alloc (.cells #[.map ob, .pointer sp] 34)).alloc (.cells #[.int .u8 0, .int .u16 ns, .slice a n cap, .int .u8 0] 37)).heap.size := by
    intro p hp
    obtain ⟨g, e, h3, _, h4⟩ := hrowD p hp
    exact ⟨g, e, by have := HSZ.out; omega, h4.lt⟩
  have huT : ((w2.alloc (.cells #[.map ob, .pointer sp] 34)).alloc (.cells #[.int .u8 0, .int .u16 ns, .slice a n cap, .int .u8 0] 37)).cell? ⟨w.heap.size, 10, none⟩ = some (.bool us) := (hbD.cell (p := ⟨w.heap.size, 10, none⟩) hlt2).trans c10
  have hcT : n ≤ c2' := by
    rcases hcs with ⟨_, _, h0, _, _⟩ | ⟨_, e, _⟩
    · omega
    · omega
  have hET := hEW.below hbwD (Nat.le_refl _)
  go_upto_region 13 with fail
  go_cut [8] (fun v wx => FillRel ea us 0 n a f v ((w2.alloc (.cells #[.map ob, .pointer sp] 34)).alloc (.cells #[.int .u8 0, .int .u16 ns, .slice a n cap, .int .u8 0] 37)) wx)
  case first =>
    go_wp2_with fail
    refine hfr.mono ?_
    rintro e w3 ⟨v, rfl, hrel⟩
    go_wp2
    go_meet
    exact hrel
  case rest =>
    rename_i K hK
    refine hK _ _ ?_
    exact apart_tail w ((w2.alloc (.cells #[.map ob, .pointer sp] 34)).alloc (.cells #[.int .u8 0, .int .u16 ns, .slice a n cap, .int .u8 0] 37)) _ ea us F fo c 0 n cap c2' a a2 f _ hcut hET hbT hlT h1T hoT haT huT hf hn hnc hcT _ _ _ _ _ _ _ _ _ _ _ _ _ _ _ _ _ _ _ _ _ _ _ _ _ _ _ _ _ _ _ _ _ _ _ _ _ _ _ _ _ _ _ _ _ _ _ _ _ _ _ _ _ _ _ _ _ _ _ _ _ _ _ _ _ _ _ _ _ _ _ _ _ _ _ _ _ _ _ _ _ _ _ _ _ _ _ _ _ _ _ _ _ _ _ _ _ _ _ _ _ _ _ _ _ _ _ _ _ _ _ _ _ _ _ _ _ _ _ _ _ _ _ _ _ _ _ _ _ _ _ _ _ _ _ _ _ _ _ _ _ _ _ _ _ _ _ _ _ _ _ _ _ _ _ _ _ _ _ _ _ _ _ _ _ _ _ _ _ _ _ _ _ _ _ _ _ _ _ _ _ _ _ _ _ _ _ _ _ _ _ _ _ _ _ _ _ _ _ _ _ _ _ _ _ _ _ _ _ _ _ _ _ _ _ _ _ _ _ _ _ _ _ _ _ _ _ _ _ _ _ _ _ _ _ _ _ _ _ _ _ _ _ _ _ _ _ _ _ _ _ _ _ _ _ _ _ _ _ _ _ _ _ _ _ _ _ _ _ _ _ _ _ _ _ _ _ _ _ _ _ _ _ _ _ _ _ _ _ _ _ _ _ _ _ _ _ _ _ _ _ _ _ _ _ _ _ _ _ _ _ _ _ _ _ _ _ _ _ _ _ _ _ _ _ _ _ _ _ _ _ _ _ _ _ _ _ _ _ _ _ _ _ _ _ _ _ _ _ _ _ _ _ _ _ _ _ _ _ _ _ _ _ _ _ _ _ _ _ _ _ _

end Go.Proofs.YbulkdlqeFmt
