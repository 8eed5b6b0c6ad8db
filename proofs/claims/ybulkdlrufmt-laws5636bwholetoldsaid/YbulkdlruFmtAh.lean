/-
  The comparison: the finalizations.
-/
import Derived.Test.YbulkdlruFmtAg
namespace Go.Proofs.YbulkdlruFmt
open Go.RowKit Go.Shelf
set_option linter.unusedVariables false
set_option linter.unusedSimpArgs false

theorem RepAt.nil {w w' : World} {R T B : Nat} {cf : Nat → Nat} {bs : List PB} {cs : List PC} {nt : Option PC} (h : RepAt w R T B cf bs cs nt) (hs : Same [] w w') : RepAt w' R T B cf bs cs nt := by
  obtain ⟨ga, gc, ps, ga2, gc2, qs, nv, hRr, hH, hnv⟩ := h
  refine ⟨ga, gc, ps, ga2, gc2, qs, nv, (hs.block R (Array.getElem?_eq_some_iff.1 hRr).1 (by simp)).trans hRr, hH.same hs (fun _ _ => apart_nil _ _), ?_⟩
  cases nt with
  | none => exact hnv
  | some c =>
    obtain ⟨b, hb, hc⟩ := hnv
    exact ⟨b, hb, hc.same hs (apart_nil _ _) (apart_nil _ _)⟩
/-- What a round of the loop over the finalizations finds. -/
theorem rep_fin {w : World} {R T B : Nat} {cf : Nat → Nat} {bs : List PB} {cs : List PC} {nt : Option PC} (h : RepAt w R T B cf bs cs nt) {k : Nat} {c : PC} (hc : cs[k]? = some c) :
    ∃ g gc q, w.cell? ⟨R, 1, none⟩ = some (.slice (some ⟨g, 0, none⟩) cs.length gc) ∧ w.cell? ⟨g, k, none⟩ = some (.pointer (some ⟨q, 0, none⟩)) ∧ CertX w 141 147 T cf q c := by
  obtain ⟨ga, gc, ps, ga2, gc2, qs, nv, hRr, hH, hnv⟩ := h
  obtain ⟨d0, d1, d2, df⟩ := rcells97 hRr
  have hk := (List.getElem?_eq_some_iff.1 hc).1
  have hl := hH.ct.1
  have hr := hH.row2
  unfold PtrRow at hr
  obtain ⟨g, rfl⟩ := own_some hr (by omega)
  have hkq : k < qs.length := by omega
  have h1 := hr.cells (g := g) rfl k (.pointer (some ⟨qs[k], 0, none⟩)) (by simp [hkq])
  rw [Addr.add_mid, Nat.zero_add] at h1
  rw [hl] at d1
  exact ⟨g, gc2, qs[k], d1, h1, hH.ct.2 k _ _ (List.getElem?_eq_getElem hkq) hc⟩
theorem rep_len2 {w : World} {R T B : Nat} {cf : Nat → Nat} {bs : List PB} {cs : List PC} {nt : Option PC} (h : RepAt w R T B cf bs cs nt) : ∃ ga gc, w.cell? ⟨R, 1, none⟩ = some (.slice ga cs.length gc) := by
  obtain ⟨ga, gc, ps, ga2, gc2, qs, nv, hRr, hH, hnv⟩ := h
  obtain ⟨d0, d1, d2, df⟩ := rcells97 hRr
  rw [hH.ct.1] at d1
  exact ⟨_, _, d1⟩
/-- A round of the loop over the blocks. -/
theorem rep_blk {w : World} {R T B : Nat} {cf : Nat → Nat} {bs : List PB} {cs : List PC} {nt : Option PC} (h : RepAt w R T B cf bs cs nt) {k : Nat} {b : PB} (hc : bs[k]? = some b) :
    ∃ g gc q, w.cell? ⟨R, 0, none⟩ = some (.slice (some ⟨g, 0, none⟩) bs.length gc) ∧ w.cell? ⟨g, k, none⟩ = some (.pointer (some ⟨q, 0, none⟩)) ∧ BlkAt w T q b := by
  obtain ⟨ga, gc, ps, ga2, gc2, qs, nv, hRr, hH, hnv⟩ := h
  obtain ⟨d0, d1, d2, df⟩ := rcells97 hRr
  have hk := (List.getElem?_eq_some_iff.1 hc).1
  have hl := hH.bl.1
  have hr := hH.row
  unfold PtrRow at hr
  obtain ⟨g, rfl⟩ := own_some hr (by omega)
  have hkq : k < ps.length := by omega
  have h1 := hr.cells (g := g) rfl k (.pointer (some ⟨ps[k], 0, none⟩)) (by simp [hkq])
  rw [Addr.add_mid, Nat.zero_add] at h1
  rw [hl] at d0
  exact ⟨g, gc, ps[k], d0, h1, hH.bl.2 k _ _ (List.getElem?_eq_getElem hkq) hc⟩
theorem rep_len1 {w : World} {R T B : Nat} {cf : Nat → Nat} {bs : List PB} {cs : List PC} {nt : Option PC} (h : RepAt w R T B cf bs cs nt) : ∃ ga gc, w.cell? ⟨R, 0, none⟩ = some (.slice ga bs.length gc) := by
  obtain ⟨ga, gc, ps, ga2, gc2, qs, nv, hRr, hH, hnv⟩ := h
  obtain ⟨d0, d1, d2, df⟩ := rcells97 hRr
  rw [hH.bl.1] at d0
  exact ⟨_, _, d0⟩

set_option maxRecDepth 100000 in
set_option maxHeartbeats 4000000 in
theorem same10 (R X T N B B' : Nat) (cf cf' : Nat → Nat) (f : Nat → Nat) (bs : List PB) (cs : List PC) (nt : Option PC) (W : World) (Rq : Ending → World → Prop) (hT : Row W T N f) (hR : RepAt W R T B cf bs cs nt) (hX : RepAt W X T B' cf' bs cs nt) (hin : ∀ c, nt = some c → InL N c.l ∧ c.l.length ≤ 256) (hcs : ∀ c ∈ cs, InL N c.l ∧ c.l.length ≤ 256) (hcl : cs.length ≤ 256)
    (u2 u3 u4 u5 u6 u7 u8 u9 u10 u11 u12 u13 u14 u15 u16 u17 u18 u19 u20 u21 u22 u23 u24 u25 u26 u27 u28 u29 u30 u31 u32 u33 u34 u35 u36 u37 u38 u39 u40 u41 u42 u43 u44 u45 u46 u47 u48 u49 u50 u51 u52 u53 u54 u55 u56 u57 u58 u59 u60 u61 u62 u63 u64 u65 u66 u67 u68 u69 u70 u71 u72 u73 u74 u75 u76 u77 u78 u79 u80 u81 u82 u83 u84 u85 u86 u87 u88 u89 u90 u91 u92 u93 u94 u95 u96 u97 u98 u99 u100 u101 u102 u103 u104 u105 u106 u107 u108 u109 u110 u111 u112 u113 u114 u115 u116 u117 u118 u119 u120 u121 u122 u123 u124 u125 u126 u127 u128 u129 u130 u131 u132 u133 u134 u135 u136 u137 u138 u139 u140 u141 u142 u143 u144 u145 u146 u147 u148 u149 u150 u151 u152 u153 u154 u155 u156 u157 u158 u159 u160 u161 u162 u163 u164 u165 u166 u167 u168 u169 u170 u171 u172 u173 u174 u175 u176 u177 u178 u179 u180 u181 u182 u183 u184 u185 u186 u187 u188 u189 u190 u191 u192 u193 u194 u195 u196 u197 u198 u199 u200 u201 u202 u203 u204 u205 u206 u207 u208 u209 u210 u211 u212 u213 u214 u215 u216 u217 u218 u219 u220 u221 u222 u223 u224 u225 u226 u227 u228 u229 u230 u231 u232 u233 u234 u235 u236 u237 u238 u239 u240 u241 u242 u243 u244 u245 u246 u247 u248 u249 u250 u251 u252 u253 u254 u255 u256 u257 u258 u259 u260 u261 u262 u263 u264 u265 u266 u267 u268 u269 u270 u271 u272 u273 u274 u275 u276 u277 u278 u279 u280 u281 u282 u283 u284 u285 u286 u287 u288 u289 u290 u291 u292 u293 u294 u295 u296 u297 u298 u299 u300 u301 u302 u303 u304 u305 u306 u307 u308 u309 u310 u311 u312 u313 u314 u315 u316 u317 u318 u319 u320 u321 u322 u323 u324 u325 u326 u327 u328 u329 : Value)
    (hQ : ∀ w', Same [] W w' → Rq (.returned (.bool true)) w') :
    Code.wp Ybaf.prog (mtail 10 Ybaf.f13.body) (bodyPost Ybaf.prog Ybaf.f13 Rq) ⟨#[.pointer (some ⟨R, 0, none⟩), .pointer (some ⟨X, 0, none⟩), u2, u3, u4, u5, u6, u7, u8, u9, u10, u11, u12, u13, u14, u15, u16, u17, u18, u19, u20, u21, u22, u23, u24, u25, u26, u27, u28, u29, u30, u31, u32, u33, u34, u35, u36, u37, u38, u39, u40, u41, u42, u43, u44, u45, u46, u47, u48, u49, u50, u51, u52, u53, u54, u55, u56, u57, u58, u59, u60, u61, u62, u63, u64, u65, u66, u67, u68, u69, u70, u71, u72, u73, u74, u75, u76, u77, u78, u79, u80, u81, u82, u83, u84, u85, u86, u87, u88, u89, u90, u91, u92, u93, u94, u95, u96, u97, u98, u99, u100, u101, u102, u103, u104, u105, u106, u107, u108, u109, u110, u111, u112, u113, u114, u115, u116, u117, u118, u119, u120, u121, u122, u123, u124, u125, u126, u127, u128, u129, u130, u131, u132, u133, u134, u135, u136, u137, u138, u139, u140, u141, u142, u143, u144, u145, u146, u147, u148, u149, u150, u151, u152, u153, u154, u155, u156, u157, u158, u159, u160, u161, u162, u163, u164, u165, u166, u167, u168, u169, u170, u171, u172, u173, u174, u175, u176, u177, u178, u179, u180, u181, u182, u183, u184, u185, u186, u187, u188, u189, u190, u191, u192, u193, u194, u195, u196, u197, u198, u199, u200, u201, u202, u203, u204, u205, u206, u207, u208, u209, u210, u211, u212, u213, u214, u215, u216, u217, u218, u219, u220, u221, u222, u223, u224, u225, u226, u227, u228, u229, u230, u231, u232, u233, u234, u235, u236, u237, u238, u239, u240, u241, u242, u243, u244, u245, u246, u247, u248, u249, u250, u251, u252, u253, u254, u255, u256, u257, u258, u259, u260, u261, u262, u263, u264, u265, u266, u267, u268, u269, u270, u271, u272, u273, u274, u275, u276, u277, u278, u279, u280, u281, u282, u283, u284, u285, u286, u287, u288, u289, u290, u291, u292, u293, u294, u295, u296, u297, u298, u299, u300, u301, u302, u303, u304, u305, u306, u307, u308, u309, u310, u311, u312, u313, u314, u315, u316, u317, u318, u319, u320, u321, u322, u323, u324, u325, u326, u327, u328, u329], []⟩ W := by
  conv => arg 2; whnf
  conv => arg 4; zeta
  obtain ⟨n, hn⟩ : ∃ n, cs.length = n := ⟨_, rfl⟩
  go_upto_block 2 with fail
  go_cut [] (fun wx => Same [] W wx)
  case rest =>
    rename_i K hK
    refine hK _ _ ?_
    exact same24 R X T N B B' cf cf' f bs cs nt _ _ (hT.same hcut (by simp)) (hR.nil hcut) (hX.nil hcut) hin _ _ _ _ _ _ _ _ _ _ _ _ _ _ _ _ _ _ _ _ _ _ _ _ _ _ _ _ _ _ _ _ _ _ _ _ _ _ _ _ _ _ _ _ _ _ _ _ _ _ _ _ _ _ _ _ _ _ _ _ _ _ _ _ _ _ _ _ _ _ _ _ _ _ _ _ _ _ _ _ _ _ _ _ _ _ _ _ _ _ _ _ _ _ _ _ _ _ _ _ _ _ _ _ _ _ _ _ _ _ _ _ _ _ _ _ _ _ _ _ _ _ _ _ _ _ _ _ _ _ _ _ _ _ _ _ _ _ _ _ _ _ _ _ _ _ _ _ _ _ _ _ _ _ _ _ _ _ _ _ _ _ _ _ _ _ _ _ _ _ _ _ _ _ _ _ _ _ _ _ _ _ _ _ _ _ _ _ _ _ _ _ _ _ _ _ _ _ _ _ _ _ _ _ _ _ _ _ _ _ _ _ _ _ _ _ _ _ _ _ _ _ _ _ _ _ _ _ _ _ _ _ _ _ _ _ _ _ _ _ _ _ _ _ _ _ _ _ _ _ _ _ _ _ _ _ _ _ _ _ _ _ _ _ _ _ _ _ _ _ _ _ _ _ _ _ _ _ _ _ _ _ _ _ _ _ _ _ _ _ _ _ _ _ _ _ _ _ _ _ _ _ _ _ _ _ _ _ _ _ _ _ _ _ _ _ _ _ _ _ _ _ _ _ _ _ _ _ (fun w' hw => hQ _ (hcut.trans hw))
  case first =>
    have hst : SRel n W (.int .i64 0) W := ⟨0, rfl, Nat.zero_le _, Same.refl _ _⟩
    have hnI : (n : Int) ≤ 256 := by omega
    have HC : Hid ((∀ c ∈ cs, InL N c.l ∧ c.l.length ≤ 256) ∧ cs.length = n) := ⟨hcs, hn⟩
    have HR : Hid (RepAt W R T B cf bs cs nt ∧ RepAt W X T B' cf' bs cs nt ∧ Row W T N f) := ⟨hR, hX, hT⟩
    clear hQ hin hcs hcl hn hR hX hT
    go_wp2
    go_loopw [8] (fun i wr => SRel n W i wr) (fun i _ => n - (intOf i).toNat)
    case atStart => exact hst
    case round =>
      obtain ⟨k, rfl, hk, hs⟩ := hrel
      clear hst
      have hRw := HR.out.1.nil hs
      have hXw := HR.out.2.1.nil hs
      by_cases hlt : k < n
      · have i1 : (k : Int) < (n : Int) := by omega
        have i1' : IntKind.i64.wrap ((k : Int) + 1) = (k : Int) + 1 := IntWalk.i64_in _ (by omega)
        have hkl : k < cs.length := by rw [HC.out.2]; exact hlt
        obtain ⟨c, hc⟩ : ∃ c, cs[k]? = some c := ⟨_, List.getElem?_eq_getElem hkl⟩
        have hcm := HC.out.1 c (List.mem_of_getElem? hc)
        obtain ⟨g, gc, p, f1, f2, xa, xc, hp, hpr⟩ := rep_fin hRw hc
        obtain ⟨g', gc', p', f1', f2', xa', xc', hp', hpr'⟩ := rep_fin hXw hc
        rw [HC.out.2] at f1 f1'
        obtain ⟨hin1, hin2⟩ := hcm
        obtain ⟨l, el⟩ : ∃ l, c.l = l := ⟨_, rfl⟩
        obtain ⟨v, ev⟩ : ∃ v, c.v = v := ⟨_, rfl⟩
        obtain ⟨h, eh⟩ : ∃ h, c.h = h := ⟨_, rfl⟩
        rw [el, ev, eh] at hp hpr hp' hpr'
        rw [el] at hin1 hin2
        obtain ⟨b0, br, b33, bf⟩ := c34_cells hp
        obtain ⟨b0', br', b33', bf'⟩ := c34_cells hp'
        have hS0 : wr.cell? ⟨p, 0, none⟩ = some (.int .u64 (v : Int)) ∧ wr.rangeAt p 1 (vals h 32) ∧ wr.cell? ⟨p, 33, none⟩ = some (.slice xa l.length xc) ∧ wr.cell? ⟨p', 0, none⟩ = some (.int .u64 (v : Int)) ∧ wr.rangeAt p' 1 (vals h 32) ∧ wr.cell? ⟨p', 33, none⟩ = some (.slice xa' l.length xc') := ⟨b0, range_of br, b33, b0', range_of br', b33'⟩
        have HI : Hid (InL N l ∧ l.length ≤ 256) := ⟨hin1, hin2⟩
        have hlI : (l.length : Int) ≤ 256 := by omega
        have HK : Hid (k < n ∧ Same [] W wr) := ⟨hlt, hs⟩
        obtain ⟨we, hwe⟩ : ∃ we, wr.drew = we := ⟨_, rfl⟩
        have hse : Same [] wr we := by rw [← hwe]; exact Same.drew _ _
        have hT := HR.out.2.2.same (hs.trans hse) (by simp)
        have hpe := (hse.block p (Array.getElem?_eq_some_iff.1 hp).1 (by simp)).trans hp
        have hpe' := (hse.block p' (Array.getElem?_eq_some_iff.1 hp').1 (by simp)).trans hp'
        have hpre := own_same' hpr hse (apart_nil _ _)
        have hpre' := own_same' hpr' hse (apart_nil _ _)
        clear b0 br b33 bf b0' br' b33' bf' hin1 hin2 el ev eh hc hkl hRw hXw hk hlt hs hp hp' hpr hpr'
        go_upto_region 15 with fail
        refine cmp15 p p' v l.length xc xc' xa xa' h wr _ hS0 (fun _ _ d _ _ h => by cases d <;> exact h) _ _ _ _ _ _ _ _ _ _ _ _ _ _ _ _ _ _ _ _ _ _ _ _ _ _ _ _ _ _ _ _ _ _ _ _ _ _ _ _ _ _ _ _ _ _ _ _ _ _ _ _ _ _ _ _ _ _ _ _ _ _ _ _ _ _ _ _ _ _ _ _ _ _ _ _ _ _ _ _ _ _ _ _ _ _ _ _ _ _ _ _ _ _ _ _ _ _ _ _ _ _ _ _ _ _ _ _ _ _ _ _ _ _ _ _ _ _ _ _ _ _ _ _ _ _ _ _ _ _ _ _ _ _ _ _ _ _ _ _ _ _ _ _ _ _ _ _ _ _ _ _ _ _ _ _ _ _ _ _ _ _ _ _ _ _ _ _ _ _ _ _ _ _ _ _ _ _ _ _ _ _ _ _ _ _ _ _ _ _ _ _ _ _ _ _ _ _ _ _ _ _ _ _ _ _ _ _ _ _ _ _ _ _ _ _ _ _ _ _ _ _ _ _ _ _ _ _ _ _ _ _ _ _ _ _ _ _ _ _ _ _ _ _ _ _ _ _ _ _ _ _ _ _ _ _ _ _ _ _ _ _ _ _ _ _ _ _ _ _ _ _ _ _ _ _ _ _ _ _ _ _ _ _ _ _ _ _ _ _ _ _ _ _ _ _ _ _ _ _ _ _ _ _ _ _ _ _ _ _ _ _ _ _ _ _ _ _ _ _ _ _ _ _ _ _ _ _ ?_
        intro y136 y137 y138 y139 y140 y141 y142 y143 y144 y145 y146 y147 y148 y149 y150 y151 y152 y153 y154 y155 y156 y157 y158 y159 y160 y161 y162 y163 y164 y165 y166 y167 y168 y169 y170 y171
        conv => arg 4; zeta
        rw [hwe]
        have HKe : Hid (Same [] W we) := HK.out.2.trans hse
        clear hwe hS0 f1 f2 f1' f2' hse
        go_upto_block 4 with fail
        have hst : SRel l.length we (.int .i64 0) we := ⟨0, rfl, Nat.zero_le _, Same.refl _ _⟩
        clear HC HR
        go_wp2
        go_loopw [11] (fun i wr => SRel l.length we i wr) (fun i _ => l.length - (intOf i).toNat)
        case atStart => exact hst
        case round =>
          obtain ⟨j, rfl, hj, hs⟩ := hrel
          have hpw := (hs.block p (Array.getElem?_eq_some_iff.1 hpe).1 (by simp)).trans hpe
          have hpw' := (hs.block p' (Array.getElem?_eq_some_iff.1 hpe').1 (by simp)).trans hpe'
          obtain ⟨b0, br, b33, bf⟩ := c34_cells hpw
          obtain ⟨b0', br', b33', bf'⟩ := c34_cells hpw'
          clear hst
          by_cases hlt : j < l.length
          · have i2 : (j : Int) < (l.length : Int) := by omega
            have i2' : IntKind.i64.wrap ((j : Int) + 1) = (j : Int) + 1 := IntWalk.i64_in _ (by omega)
            obtain ⟨e, he⟩ : ∃ e, l[j] = e := ⟨_, rfl⟩
            have hle : l[j]? = some e := by rw [List.getElem?_eq_getElem hlt, he]
            have hprw := own_same' hpre hs (apart_nil _ _)
            have hprw' := own_same' hpre' hs (apart_nil _ _)
            obtain ⟨g, rfl⟩ := own_some hprw (by omega)
            obtain ⟨g', rfl⟩ := own_some hprw' (by omega)
            obtain ⟨a1, m1, c1, a2, m2, c2, e1, e2, htw⟩ := sig_twin T N f cf cf' e.2 (fun q hq => HI.out.1 e (by rw [← he]; exact List.getElem_mem hlt) q hq)
            have hw1 := cert_word hprw hle
            have hw2 := cert_word hprw' hle
            have ho1 := E35_one v h e.1 T cf e.2
            have ho2 := E35_one v h e.1 T cf' e.2
            rw [e1] at hw1 ho1
            rw [e2] at hw2 ho2
            have HJ : Hid (j < l.length ∧ Same [] we wr) := ⟨hlt, hs⟩
            have hTr := hT.same hs (by simp)
            clear b0 br bf b0' br' bf' he hle hprw hprw' e1 e2 hj hs
            go_upto_region 20 with fail
            refine var20 p g l.length xc j v e.1 m1 c1 h a1 wr _ hlt b33 hw1 ho1 (fun _ _ d _ _ h => by cases d <;> exact h) _ _ _ _ _ _ _ _ _ _ _ _ _ _ _ _ _ _ _ _ _ _ _ _ _ _ _ _ _ _ _ _ _ _ _ _ _ _ _ _ _ _ _ _ _ _ _ _ _ _ _ _ _ _ _ _ _ _ _ _ _ _ _ _ _ _ _ _ _ _ _ _ _ _ _ _ _ _ _ _ _ _ _ _ _ _ _ _ _ _ _ _ _ _ _ _ _ _ _ _ _ _ _ _ _ _ _ _ _ _ _ _ _ _ _ _ _ _ _ _ _ _ _ _ _ _ _ _ _ _ _ _ _ _ _ _ _ _ _ _ _ _ _ _ _ _ _ _ _ _ _ _ _ _ _ _ _ _ _ _ _ _ _ _ _ _ _ _ _ _ _ _ _ _ _ _ _ _ _ _ _ _ _ _ _ _ _ _ _ _ _ _ _ _ _ _ _ _ _ _ _ _ _ _ _ _ _ _ _ _ _ _ _ _ _ _ _ _ _ _ _ _ _ _ _ _ _ _ _ _ _ _ _ _ _ _ _ _ _ _ _ _ _ _ _ _ _ _ _ _ _ _ _ _ _ _ _ _ _ _ _ _ _ _ _ _ _ _ _ _ _ _ _ _ _ _ _ _ _ _ _ _ _ _ _ _ _ _ _ _ _ _ _ _ _ _ _ _ _ _ _ _ _ _ _ _ _ _ _ _ _ _ _ _ _ _ _ _ _ _ _ _ _ _ _ _ _ _ ?_
            intro w1 q1 hq1 hs1 hge1 y182 y183 y184 y185 y186 y187 y188
            conv => arg 4; zeta
            have hpw1 := (hs1.block p' (Array.getElem?_eq_some_iff.1 hpw').1 (by simp)).trans hpw'
            obtain ⟨b0, br, b33, bf⟩ := c34_cells hpw1
            have hw2r : w1.rangeAt g' (j * 35) (E35 v h e.1 (.slice a2 m2 c2)) := fun i u hu => by
              have h1 := hw2 i u hu
              have h2 : g' < wr.heap.size := cell_lt h1
              rw [World.cell?_of_block (w := wr) (hs1.block g' h2 (by simp))]
              exact h1
            clear b0 br bf b33' hw1 ho1
            go_upto_region 21 with fail
            refine var21 p' g' l.length xc' j v e.1 m2 c2 h a2 w1 _ hlt b33 hw2r ho2 (fun _ _ d _ _ h => by cases d <;> exact h) _ _ _ _ _ _ _ _ _ _ _ _ _ _ _ _ _ _ _ _ _ _ _ _ _ _ _ _ _ _ _ _ _ _ _ _ _ _ _ _ _ _ _ _ _ _ _ _ _ _ _ _ _ _ _ _ _ _ _ _ _ _ _ _ _ _ _ _ _ _ _ _ _ _ _ _ _ _ _ _ _ _ _ _ _ _ _ _ _ _ _ _ _ _ _ _ _ _ _ _ _ _ _ _ _ _ _ _ _ _ _ _ _ _ _ _ _ _ _ _ _ _ _ _ _ _ _ _ _ _ _ _ _ _ _ _ _ _ _ _ _ _ _ _ _ _ _ _ _ _ _ _ _ _ _ _ _ _ _ _ _ _ _ _ _ _ _ _ _ _ _ _ _ _ _ _ _ _ _ _ _ _ _ _ _ _ _ _ _ _ _ _ _ _ _ _ _ _ _ _ _ _ _ _ _ _ _ _ _ _ _ _ _ _ _ _ _ _ _ _ _ _ _ _ _ _ _ _ _ _ _ _ _ _ _ _ _ _ _ _ _ _ _ _ _ _ _ _ _ _ _ _ _ _ _ _ _ _ _ _ _ _ _ _ _ _ _ _ _ _ _ _ _ _ _ _ _ _ _ _ _ _ _ _ _ _ _ _ _ _ _ _ _ _ _ _ _ _ _ _ _ _ _ _ _ _ _ _ _ _ _ _ _ _ _ _ _ _ _ _ _ _ _ _ _ _ _ _ ?_
            intro w2 q2 hq2 hs2 hge2 y189 y190 y191 y192 y193 y194 y195
            conv => arg 4; zeta
            have hq12 := (hs2.block q1 (Array.getElem?_eq_some_iff.1 hq1).1 (by simp)).trans hq1
            have hb := htw w2 ((hTr.same hs1 (by simp)).same hs2 (by simp))
            clear b33 hw2 hw2r ho2 hpw hpw1
            go_upto_region 22 with fail
            refine cmp22 q1 q2 v e.1 m1 c1 m2 c2 a1 a2 h w2 _ hq12 hq2 hb (fun _ _ d _ _ h => by cases d <;> exact h) _ _ _ _ _ _ _ _ _ _ _ _ _ _ _ _ _ _ _ _ _ _ _ _ _ _ _ _ _ _ _ _ _ _ _ _ _ _ _ _ _ _ _ _ _ _ _ _ _ _ _ _ _ _ _ _ _ _ _ _ _ _ _ _ _ _ _ _ _ _ _ _ _ _ _ _ _ _ _ _ _ _ _ _ _ _ _ _ _ _ _ _ _ _ _ _ _ _ _ _ _ _ _ _ _ _ _ _ _ _ _ _ _ _ _ _ _ _ _ _ _ _ _ _ _ _ _ _ _ _ _ _ _ _ _ _ _ _ _ _ _ _ _ _ _ _ _ _ _ _ _ _ _ _ _ _ _ _ _ _ _ _ _ _ _ _ _ _ _ _ _ _ _ _ _ _ _ _ _ _ _ _ _ _ _ _ _ _ _ _ _ _ _ _ _ _ _ _ _ _ _ _ _ _ _ _ _ _ _ _ _ _ _ _ _ _ _ _ _ _ _ _ _ _ _ _ _ _ _ _ _ _ _ _ _ _ _ _ _ _ _ _ _ _ _ _ _ _ _ _ _ _ _ _ _ _ _ _ _ _ _ _ _ _ _ _ _ _ _ _ _ _ _ _ _ _ _ _ _ _ _ _ _ _ _ _ _ _ _ _ _ _ _ _ _ _ _ _ _ _ _ _ _ _ _ _ _ _ _ _ _ _ _ _ _ _ _ _ _ _ _ _ _ _ _ _ _ _ ?_
            intro y196 y197 y198 y199 y200 y201 y202 y203 y204 y205 y206 y207 y208 y209 y210 y211 y212 y213 y214 y215 y216 y217 y218 y219 y220 y221
            conv => arg 4; zeta
            have hrel2 : SRel l.length we (.int .i64 ((j + 1 : Nat) : Int)) w2 := ⟨j + 1, rfl, hlt, (HJ.out.2.trans hs1).trans hs2⟩
            clear hq12 hq2 hb htw hTr hs1 hs2 hge1 hge2 hq1
            go_wp2
            go_roundw
            case rel =>
              rw [show ((j + 1 : Nat) : Int) = (j : Int) + 1 by omega] at hrel2
              first | exact hrel2 | ((repeat apply Exists.intro); exact ⟨hrel2, rfl⟩)
            case measure =>
              have := HJ.out.1
              simp [intOf]
              omega
          · have i2 : ¬ (j : Int) < (l.length : Int) := by omega
            have hrel2 : SRel n W (.int .i64 ((k + 1 : Nat) : Int)) wr := ⟨k + 1, rfl, HK.out.1, HKe.out.trans hs⟩
            clear hs b0 br b33 bf b0' br' bf' hT hpe hpe' hpre hpre'
            go_wp2
            go_roundw
            case rel =>
              rw [show ((k + 1 : Nat) : Int) = (k : Int) + 1 by omega] at hrel2
              first | exact hrel2 | ((repeat apply Exists.intro); exact ⟨hrel2, rfl⟩)
            case measure =>
              have := HK.out.1
              simp [intOf]
              omega
      · have i1 : ¬ (k : Int) < (n : Int) := by omega
        obtain ⟨xa, xc, hlen⟩ := rep_len2 hXw
        rw [HC.out.2] at hlen
        have HX : Hid (Same [] W wr) := hs
        clear hs hRw hXw
        go_wp2
        go_meet
        exact HX.out
end Go.Proofs.YbulkdlruFmt
