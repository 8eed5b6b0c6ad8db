/-
  The comparison: the notarization, and the end.
-/
import Derived.Test.YbulkdlruFmtAf
namespace Go.Proofs.YbulkdlruFmt
open Go.RowKit Go.Shelf
set_option linter.unusedVariables false
set_option linter.unusedSimpArgs false

theorem own_some {w : World} {B e k n gc : Nat} {ga : Option Addr} {xs : List Value} (h : w.ownsRow B e k (.slice ga n gc) n xs) (hn : 0 < n) : ∃ g, ga = some ⟨g, 0, none⟩ := by
  rcases h.2 with ⟨_, h0⟩ | ⟨g5, c5', cur5, hv5, hg5, hg5h, _⟩
  · omega
  · injection hv5 with e5
    exact ⟨_, e5⟩
theorem cell_lt {w : World} {a : Addr} {v : Value} (h : w.cell? a = some v) : a.block < w.heap.size := by
  by_cases hl : a.block < w.heap.size
  · exact hl
  · simp [World.cell?, Array.getElem?_eq_none (Nat.le_of_not_lt hl)] at h
theorem apart_nil (w : World) (t : Nat) : Apart w t [] := fun _ _ _ h => by cases h
def SRel (n : Nat) (W : World) (i : Value) (wr : World) : Prop := ∃ j : Nat, i = .int .i64 (j : Int) ∧ j ≤ n ∧ Same [] W wr

set_option maxRecDepth 100000 in
set_option maxHeartbeats 4000000 in
theorem same24 (R X T N B B' : Nat) (cf cf' : Nat → Nat) (f : Nat → Nat) (bs : List PB) (cs : List PC) (nt : Option PC) (W : World) (Rq : Ending → World → Prop) (hT : Row W T N f) (hR : RepAt W R T B cf bs cs nt) (hX : RepAt W X T B' cf' bs cs nt) (hin : ∀ c, nt = some c → InL N c.l ∧ c.l.length ≤ 256)
    (u2 u3 u4 u5 u6 u7 u8 u9 u10 u11 u12 u13 u14 u15 u16 u17 u18 u19 u20 u21 u22 u23 u24 u25 u26 u27 u28 u29 u30 u31 u32 u33 u34 u35 u36 u37 u38 u39 u40 u41 u42 u43 u44 u45 u46 u47 u48 u49 u50 u51 u52 u53 u54 u55 u56 u57 u58 u59 u60 u61 u62 u63 u64 u65 u66 u67 u68 u69 u70 u71 u72 u73 u74 u75 u76 u77 u78 u79 u80 u81 u82 u83 u84 u85 u86 u87 u88 u89 u90 u91 u92 u93 u94 u95 u96 u97 u98 u99 u100 u101 u102 u103 u104 u105 u106 u107 u108 u109 u110 u111 u112 u113 u114 u115 u116 u117 u118 u119 u120 u121 u122 u123 u124 u125 u126 u127 u128 u129 u130 u131 u132 u133 u134 u135 u136 u137 u138 u139 u140 u141 u142 u143 u144 u145 u146 u147 u148 u149 u150 u151 u152 u153 u154 u155 u156 u157 u158 u159 u160 u161 u162 u163 u164 u165 u166 u167 u168 u169 u170 u171 u172 u173 u174 u175 u176 u177 u178 u179 u180 u181 u182 u183 u184 u185 u186 u187 u188 u189 u190 u191 u192 u193 u194 u195 u196 u197 u198 u199 u200 u201 u202 u203 u204 u205 u206 u207 u208 u209 u210 u211 u212 u213 u214 u215 u216 u217 u218 u219 u220 u221 u222 u223 u224 u225 u226 u227 u228 u229 u230 u231 u232 u233 u234 u235 u236 u237 u238 u239 u240 u241 u242 u243 u244 u245 u246 u247 u248 u249 u250 u251 u252 u253 u254 u255 u256 u257 u258 u259 u260 u261 u262 u263 u264 u265 u266 u267 u268 u269 u270 u271 u272 u273 u274 u275 u276 u277 u278 u279 u280 u281 u282 u283 u284 u285 u286 u287 u288 u289 u290 u291 u292 u293 u294 u295 u296 u297 u298 u299 u300 u301 u302 u303 u304 u305 u306 u307 u308 u309 u310 u311 u312 u313 u314 u315 u316 u317 u318 u319 u320 u321 u322 u323 u324 u325 u326 u327 u328 u329 : Value)
    (hQ : ∀ w', Same [] W w' → Rq (.returned (.bool true)) w') :
    Code.wp Ybaf.prog (mtail 24 Ybaf.f13.body) (bodyPost Ybaf.prog Ybaf.f13 Rq) ⟨#[.pointer (some ⟨R, 0, none⟩), .pointer (some ⟨X, 0, none⟩), u2, u3, u4, u5, u6, u7, u8, u9, u10, u11, u12, u13, u14, u15, u16, u17, u18, u19, u20, u21, u22, u23, u24, u25, u26, u27, u28, u29, u30, u31, u32, u33, u34, u35, u36, u37, u38, u39, u40, u41, u42, u43, u44, u45, u46, u47, u48, u49, u50, u51, u52, u53, u54, u55, u56, u57, u58, u59, u60, u61, u62, u63, u64, u65, u66, u67, u68, u69, u70, u71, u72, u73, u74, u75, u76, u77, u78, u79, u80, u81, u82, u83, u84, u85, u86, u87, u88, u89, u90, u91, u92, u93, u94, u95, u96, u97, u98, u99, u100, u101, u102, u103, u104, u105, u106, u107, u108, u109, u110, u111, u112, u113, u114, u115, u116, u117, u118, u119, u120, u121, u122, u123, u124, u125, u126, u127, u128, u129, u130, u131, u132, u133, u134, u135, u136, u137, u138, u139, u140, u141, u142, u143, u144, u145, u146, u147, u148, u149, u150, u151, u152, u153, u154, u155, u156, u157, u158, u159, u160, u161, u162, u163, u164, u165, u166, u167, u168, u169, u170, u171, u172, u173, u174, u175, u176, u177, u178, u179, u180, u181, u182, u183, u184, u185, u186, u187, u188, u189, u190, u191, u192, u193, u194, u195, u196, u197, u198, u199, u200, u201, u202, u203, u204, u205, u206, u207, u208, u209, u210, u211, u212, u213, u214, u215, u216, u217, u218, u219, u220, u221, u222, u223, u224, u225, u226, u227, u228, u229, u230, u231, u232, u233, u234, u235, u236, u237, u238, u239, u240, u241, u242, u243, u244, u245, u246, u247, u248, u249, u250, u251, u252, u253, u254, u255, u256, u257, u258, u259, u260, u261, u262, u263, u264, u265, u266, u267, u268, u269, u270, u271, u272, u273, u274, u275, u276, u277, u278, u279, u280, u281, u282, u283, u284, u285, u286, u287, u288, u289, u290, u291, u292, u293, u294, u295, u296, u297, u298, u299, u300, u301, u302, u303, u304, u305, u306, u307, u308, u309, u310, u311, u312, u313, u314, u315, u316, u317, u318, u319, u320, u321, u322, u323, u324, u325, u326, u327, u328, u329], []⟩ W := by
  conv => arg 2; whnf
  conv => arg 4; zeta
  obtain ⟨ga, gc, ps, ga2, gc2, qs, nv, hRr, hH, hnv⟩ := hR
  obtain ⟨ga', gc', ps', ga2', gc2', qs', nv', hXr, hH', hnv'⟩ := hX
  obtain ⟨d0, d1, d2, df⟩ := rcells97 hRr
  obtain ⟨d0', d1', d2', df'⟩ := rcells97 hXr
  clear hH hH' df df'
  cases nt with
  | none =>
    obtain rfl : nv = .pointer none := hnv
    obtain rfl : nv' = .pointer none := hnv'
    clear hin
    go_upto_region 24 with fail
    refine reg24n R X 0 0 W _ ⟨d2, d2'⟩ (fun _ _ d _ _ h => by cases d <;> exact h) _ _ _ _ _ _ _ _ _ _ _ _ _ _ _ _ _ _ _ _ _ _ _ _ _ _ _ _ _ _ _ _ _ _ _ _ _ _ _ _ _ _ _ _ _ _ _ _ _ _ _ _ _ _ _ _ _ _ _ _ _ _ _ _ _ _ _ _ _ _ _ _ _ _ _ _ _ _ _ _ _ _ _ _ _ _ _ _ _ _ _ _ _ _ _ _ _ _ _ _ _ _ _ _ _ _ _ _ _ _ _ _ _ _ _ _ _ _ _ _ _ _ _ _ _ _ _ _ _ _ _ _ _ _ _ _ _ _ _ _ _ _ _ _ _ _ _ _ _ _ _ _ _ _ _ _ _ _ _ _ _ _ _ _ _ _ _ _ _ _ _ _ _ _ _ _ _ _ _ _ _ _ _ _ _ _ _ _ _ _ _ _ _ _ _ _ _ _ _ _ _ _ _ _ _ _ _ _ _ _ _ _ _ _ _ _ _ _ _ _ _ _ _ _ _ _ _ _ _ _ _ _ _ _ _ _ _ _ _ _ _ _ _ _ _ _ _ _ _ _ _ _ _ _ _ _ _ _ _ _ _ _ _ _ _ _ _ _ _ _ _ _ _ _ _ _ _ _ _ _ _ _ _ _ _ _ _ _ _ _ _ _ _ _ _ _ _ _ _ _ _ _ _ _ _ _ _ _ _ _ _ _ _ _ _ _ _ _ _ _ _ _ _ _ _ _ _ _ ?_
    intro y223 y224 y225 y226 y227 y228 y229 y230 y231 y232
    conv => arg 4; zeta
    have k2 : W.drew.cell? ⟨X, 2, none⟩ = some (.pointer none) := d2'
    have HQ : Hid (Rq (.returned (.bool true)) W.drew) := hQ _ (Same.drew _ _)
    clear hQ d0 d1 d2 d0' d1' d2' hRr hXr hT
    go_wp2
    exact HQ.out
  | some c =>
    obtain ⟨p, rfl, xa, xc, hp, hpr⟩ := hnv
    obtain ⟨p', rfl, xa', xc', hp', hpr'⟩ := hnv'
    obtain ⟨hin1, hin2⟩ := hin c rfl
    obtain ⟨l, el⟩ : ∃ l, c.l = l := ⟨_, rfl⟩
    obtain ⟨v, ev⟩ : ∃ v, c.v = v := ⟨_, rfl⟩
    obtain ⟨h, eh⟩ : ∃ h, c.h = h := ⟨_, rfl⟩
    rw [el, ev, eh] at hp hpr hp' hpr'
    rw [el] at hin1 hin2
    obtain ⟨b0, br, b33, bf⟩ := c34_cells hp
    obtain ⟨b0', br', b33', bf'⟩ := c34_cells hp'
    clear hin el ev eh
    go_upto_region 24 with fail
    refine reg24s R X p p' W _ ⟨d2, d2'⟩ (fun _ _ d _ _ h => by cases d <;> exact h) _ _ _ _ _ _ _ _ _ _ _ _ _ _ _ _ _ _ _ _ _ _ _ _ _ _ _ _ _ _ _ _ _ _ _ _ _ _ _ _ _ _ _ _ _ _ _ _ _ _ _ _ _ _ _ _ _ _ _ _ _ _ _ _ _ _ _ _ _ _ _ _ _ _ _ _ _ _ _ _ _ _ _ _ _ _ _ _ _ _ _ _ _ _ _ _ _ _ _ _ _ _ _ _ _ _ _ _ _ _ _ _ _ _ _ _ _ _ _ _ _ _ _ _ _ _ _ _ _ _ _ _ _ _ _ _ _ _ _ _ _ _ _ _ _ _ _ _ _ _ _ _ _ _ _ _ _ _ _ _ _ _ _ _ _ _ _ _ _ _ _ _ _ _ _ _ _ _ _ _ _ _ _ _ _ _ _ _ _ _ _ _ _ _ _ _ _ _ _ _ _ _ _ _ _ _ _ _ _ _ _ _ _ _ _ _ _ _ _ _ _ _ _ _ _ _ _ _ _ _ _ _ _ _ _ _ _ _ _ _ _ _ _ _ _ _ _ _ _ _ _ _ _ _ _ _ _ _ _ _ _ _ _ _ _ _ _ _ _ _ _ _ _ _ _ _ _ _ _ _ _ _ _ _ _ _ _ _ _ _ _ _ _ _ _ _ _ _ _ _ _ _ _ _ _ _ _ _ _ _ _ _ _ _ _ _ _ _ _ _ _ _ _ _ _ _ _ _ ?_
    intro y223 y224 y225 y226 y227 y228 y229 y230 y231 y232
    conv => arg 4; zeta
    obtain ⟨wd, hwd⟩ : ∃ wd, W.drew = wd := ⟨_, rfl⟩
    have k2 : wd.cell? ⟨R, 2, none⟩ = some (.pointer (some ⟨p, 0, none⟩)) := by rw [← hwd]; exact d2
    have k2' : wd.cell? ⟨X, 2, none⟩ = some (.pointer (some ⟨p', 0, none⟩)) := by rw [← hwd]; exact d2'
    have hsd : Same [] W wd := by rw [← hwd]; exact Same.drew _ _
    have hS0 : wd.cell? ⟨p, 0, none⟩ = some (.int .u64 (v : Int)) ∧ wd.rangeAt p 1 (vals h 32) ∧ wd.cell? ⟨p, 33, none⟩ = some (.slice xa l.length xc) ∧ wd.cell? ⟨p', 0, none⟩ = some (.int .u64 (v : Int)) ∧ wd.rangeAt p' 1 (vals h 32) ∧ wd.cell? ⟨p', 33, none⟩ = some (.slice xa' l.length xc') := by
      rw [← hwd]
      exact ⟨b0, range_of br, b33, b0', range_of br', b33'⟩
    rw [hwd]
    clear hwd d0 d1 d2 d0' d1' d2' hRr hXr b0 br b33 bf b0' br' b33' bf'
    have HQ : Hid (∀ w', Same [] W w' → Rq (.returned (.bool true)) w') := hQ
    clear hQ
    have HI : Hid (InL N l ∧ l.length ≤ 256) := ⟨hin1, hin2⟩
    have hlI : (l.length : Int) ≤ 256 := by omega
    clear hin1 hin2
    go_upto_region 29 with fail
    refine cmp29 p p' v l.length xc xc' xa xa' h wd _ hS0 (fun _ _ d _ _ h => by cases d <;> exact h) _ _ _ _ _ _ _ _ _ _ _ _ _ _ _ _ _ _ _ _ _ _ _ _ _ _ _ _ _ _ _ _ _ _ _ _ _ _ _ _ _ _ _ _ _ _ _ _ _ _ _ _ _ _ _ _ _ _ _ _ _ _ _ _ _ _ _ _ _ _ _ _ _ _ _ _ _ _ _ _ _ _ _ _ _ _ _ _ _ _ _ _ _ _ _ _ _ _ _ _ _ _ _ _ _ _ _ _ _ _ _ _ _ _ _ _ _ _ _ _ _ _ _ _ _ _ _ _ _ _ _ _ _ _ _ _ _ _ _ _ _ _ _ _ _ _ _ _ _ _ _ _ _ _ _ _ _ _ _ _ _ _ _ _ _ _ _ _ _ _ _ _ _ _ _ _ _ _ _ _ _ _ _ _ _ _ _ _ _ _ _ _ _ _ _ _ _ _ _ _ _ _ _ _ _ _ _ _ _ _ _ _ _ _ _ _ _ _ _ _ _ _ _ _ _ _ _ _ _ _ _ _ _ _ _ _ _ _ _ _ _ _ _ _ _ _ _ _ _ _ _ _ _ _ _ _ _ _ _ _ _ _ _ _ _ _ _ _ _ _ _ _ _ _ _ _ _ _ _ _ _ _ _ _ _ _ _ _ _ _ _ _ _ _ _ _ _ _ _ _ _ _ _ _ _ _ _ _ _ _ _ _ _ _ _ _ _ _ _ _ _ _ _ _ _ _ _ _ ?_
    intro y247 y248 y249 y250 y251 y252 y253 y254 y255 y256 y257 y258 y259 y260 y261 y262 y263 y264 y265 y266 y267 y268 y269 y270 y271 y272 y273 y274 y275 y276 y277 y278
    conv => arg 4; zeta
    obtain ⟨we, hwe⟩ : ∃ we, wd.drew = we := ⟨_, rfl⟩
    have hse : Same [] W we := by rw [← hwe]; exact hsd.trans (Same.drew _ _)
    rw [hwe]
    clear hwe hS0 k2 k2' hsd
    go_upto_block 6 with fail
    go_cut [] (fun wx => Same [] W wx)
    case rest =>
      have HF := HQ.out _ hcut
      clear HQ
      have HQ : Hid (Rq (.returned (.bool true)) wc) := HF
      clear hT hp hpr hp' hpr' HF hcut hse
      go_wp2
      exact HQ.out
    case first =>
      have hst : SRel l.length W (.int .i64 0) we := ⟨0, rfl, Nat.zero_le _, hse⟩
      clear HQ
      go_wp2
      go_loopw [16] (fun i wr => SRel l.length W i wr) (fun i _ => l.length - (intOf i).toNat)
      case atStart => exact hst
      case round =>
        obtain ⟨j, rfl, hj, hs⟩ := hrel
        have hpw := (hs.block p (Array.getElem?_eq_some_iff.1 hp).1 (by simp)).trans hp
        have hpw' := (hs.block p' (Array.getElem?_eq_some_iff.1 hp').1 (by simp)).trans hp'
        obtain ⟨b0, br, b33, bf⟩ := c34_cells hpw
        obtain ⟨b0', br', b33', bf'⟩ := c34_cells hpw'
        clear hst hse
        by_cases hlt : j < l.length
        · have i1 : (j : Int) < (l.length : Int) := by omega
          have i1' : IntKind.i64.wrap ((j : Int) + 1) = (j : Int) + 1 := IntWalk.i64_in _ (by omega)
          obtain ⟨e, he⟩ : ∃ e, l[j] = e := ⟨_, rfl⟩
          have hle : l[j]? = some e := by rw [List.getElem?_eq_getElem hlt, he]
          have hprw := own_same' hpr hs (apart_nil _ _)
          have hprw' := own_same' hpr' hs (apart_nil _ _)
          obtain ⟨g, rfl⟩ := own_some hprw (by omega)
          obtain ⟨g', rfl⟩ := own_some hprw' (by omega)
          obtain ⟨a1, m1, c1, a2, m2, c2, e1, e2, htw⟩ := sig_twin T N f cf cf' e.2 (fun q hq => HI.out.1 e (by rw [← he]; exact List.getElem_mem hlt) q hq)
          have hw1 := cert_word hprw hle
          have hw2 := cert_word hprw' hle
          have ho1 := E35_one v h e.1 T cf e.2
          have ho2 := E35_one v h e.1 T cf' e.2
          rw [e1] at hw1 ho1
          rw [e2] at hw2 ho2
          have HJ : Hid (j < l.length ∧ Same [] W wr) := ⟨hlt, hs⟩
          have hTr := hT.same hs (by simp)
          clear b0 br bf b0' br' bf' he hle hprw hprw' e1 e2 hj hs
          go_upto_region 34 with fail
          refine var34 p g l.length xc j v e.1 m1 c1 h a1 wr _ hlt b33 hw1 ho1 (fun _ _ d _ _ h => by cases d <;> exact h) _ _ _ _ _ _ _ _ _ _ _ _ _ _ _ _ _ _ _ _ _ _ _ _ _ _ _ _ _ _ _ _ _ _ _ _ _ _ _ _ _ _ _ _ _ _ _ _ _ _ _ _ _ _ _ _ _ _ _ _ _ _ _ _ _ _ _ _ _ _ _ _ _ _ _ _ _ _ _ _ _ _ _ _ _ _ _ _ _ _ _ _ _ _ _ _ _ _ _ _ _ _ _ _ _ _ _ _ _ _ _ _ _ _ _ _ _ _ _ _ _ _ _ _ _ _ _ _ _ _ _ _ _ _ _ _ _ _ _ _ _ _ _ _ _ _ _ _ _ _ _ _ _ _ _ _ _ _ _ _ _ _ _ _ _ _ _ _ _ _ _ _ _ _ _ _ _ _ _ _ _ _ _ _ _ _ _ _ _ _ _ _ _ _ _ _ _ _ _ _ _ _ _ _ _ _ _ _ _ _ _ _ _ _ _ _ _ _ _ _ _ _ _ _ _ _ _ _ _ _ _ _ _ _ _ _ _ _ _ _ _ _ _ _ _ _ _ _ _ _ _ _ _ _ _ _ _ _ _ _ _ _ _ _ _ _ _ _ _ _ _ _ _ _ _ _ _ _ _ _ _ _ _ _ _ _ _ _ _ _ _ _ _ _ _ _ _ _ _ _ _ _ _ _ _ _ _ _ _ _ _ _ _ _ _ _ _ _ _ _ _ _ _ _ _ _ _ _ ?_
          intro w1 q1 hq1 hs1 hge1 y289 y290 y291 y292 y293 y294 y295
          conv => arg 4; zeta
          have hpw1 := (hs1.block p' (Array.getElem?_eq_some_iff.1 hpw').1 (by simp)).trans hpw'
          obtain ⟨b0, br, b33, bf⟩ := c34_cells hpw1
          have hw2r : w1.rangeAt g' (j * 35) (E35 v h e.1 (.slice a2 m2 c2)) := fun i u hu => by
            have h1 := hw2 i u hu
            have h2 : g' < wr.heap.size := cell_lt h1
            rw [World.cell?_of_block (w := wr) (hs1.block g' h2 (by simp))]
            exact h1
          clear b0 br bf b33' hw1 ho1
          go_upto_region 35 with fail
          refine var35 p' g' l.length xc' j v e.1 m2 c2 h a2 w1 _ hlt b33 hw2r ho2 (fun _ _ d _ _ h => by cases d <;> exact h) _ _ _ _ _ _ _ _ _ _ _ _ _ _ _ _ _ _ _ _ _ _ _ _ _ _ _ _ _ _ _ _ _ _ _ _ _ _ _ _ _ _ _ _ _ _ _ _ _ _ _ _ _ _ _ _ _ _ _ _ _ _ _ _ _ _ _ _ _ _ _ _ _ _ _ _ _ _ _ _ _ _ _ _ _ _ _ _ _ _ _ _ _ _ _ _ _ _ _ _ _ _ _ _ _ _ _ _ _ _ _ _ _ _ _ _ _ _ _ _ _ _ _ _ _ _ _ _ _ _ _ _ _ _ _ _ _ _ _ _ _ _ _ _ _ _ _ _ _ _ _ _ _ _ _ _ _ _ _ _ _ _ _ _ _ _ _ _ _ _ _ _ _ _ _ _ _ _ _ _ _ _ _ _ _ _ _ _ _ _ _ _ _ _ _ _ _ _ _ _ _ _ _ _ _ _ _ _ _ _ _ _ _ _ _ _ _ _ _ _ _ _ _ _ _ _ _ _ _ _ _ _ _ _ _ _ _ _ _ _ _ _ _ _ _ _ _ _ _ _ _ _ _ _ _ _ _ _ _ _ _ _ _ _ _ _ _ _ _ _ _ _ _ _ _ _ _ _ _ _ _ _ _ _ _ _ _ _ _ _ _ _ _ _ _ _ _ _ _ _ _ _ _ _ _ _ _ _ _ _ _ _ _ _ _ _ _ _ _ _ _ _ _ _ _ _ _ _ ?_
          intro w2 q2 hq2 hs2 hge2 y296 y297 y298 y299 y300 y301 y302
          conv => arg 4; zeta
          have hq12 := (hs2.block q1 (Array.getElem?_eq_some_iff.1 hq1).1 (by simp)).trans hq1
          have hb := htw w2 ((hTr.same hs1 (by simp)).same hs2 (by simp))
          clear b33 hw2 hw2r ho2 hpw hpw1
          go_upto_region 36 with fail
          refine cmp36 q1 q2 v e.1 m1 c1 m2 c2 a1 a2 h w2 _ hq12 hq2 hb (fun _ _ d _ _ h => by cases d <;> exact h) _ _ _ _ _ _ _ _ _ _ _ _ _ _ _ _ _ _ _ _ _ _ _ _ _ _ _ _ _ _ _ _ _ _ _ _ _ _ _ _ _ _ _ _ _ _ _ _ _ _ _ _ _ _ _ _ _ _ _ _ _ _ _ _ _ _ _ _ _ _ _ _ _ _ _ _ _ _ _ _ _ _ _ _ _ _ _ _ _ _ _ _ _ _ _ _ _ _ _ _ _ _ _ _ _ _ _ _ _ _ _ _ _ _ _ _ _ _ _ _ _ _ _ _ _ _ _ _ _ _ _ _ _ _ _ _ _ _ _ _ _ _ _ _ _ _ _ _ _ _ _ _ _ _ _ _ _ _ _ _ _ _ _ _ _ _ _ _ _ _ _ _ _ _ _ _ _ _ _ _ _ _ _ _ _ _ _ _ _ _ _ _ _ _ _ _ _ _ _ _ _ _ _ _ _ _ _ _ _ _ _ _ _ _ _ _ _ _ _ _ _ _ _ _ _ _ _ _ _ _ _ _ _ _ _ _ _ _ _ _ _ _ _ _ _ _ _ _ _ _ _ _ _ _ _ _ _ _ _ _ _ _ _ _ _ _ _ _ _ _ _ _ _ _ _ _ _ _ _ _ _ _ _ _ _ _ _ _ _ _ _ _ _ _ _ _ _ _ _ _ _ _ _ _ _ _ _ _ _ _ _ _ _ _ _ _ _ _ _ _ _ _ _ _ _ _ _ _ ?_
          intro y303 y304 y305 y306 y307 y308 y309 y310 y311 y312 y313 y314 y315 y316 y317 y318 y319 y320 y321 y322 y323 y324 y325 y326 y327 y328
          conv => arg 4; zeta
          have hrel2 : SRel l.length W (.int .i64 ((j + 1 : Nat) : Int)) w2 := ⟨j + 1, rfl, hlt, (HJ.out.2.trans hs1).trans hs2⟩
          clear hq12 hq2 hb htw hTr hs1 hs2 hge1 hge2 hq1
          go_wp2
          go_roundw
          case rel =>
            rw [show ((j + 1 : Nat) : Int) = (j : Int) + 1 by omega] at hrel2
            first | exact hrel2 | ((repeat apply Exists.intro); exact ⟨hrel2, rfl⟩)
          case measure =>
            have := HJ.out.1
            simp [intOf]
            omega
        · have i1 : ¬ (j : Int) < (l.length : Int) := by omega
          have HX : Hid (Same [] W wr) := hs
          clear hs b0 br b33 bf b0' br' bf'
          go_wp2
          go_meet
          exact HX.out
end Go.Proofs.YbulkdlruFmt
