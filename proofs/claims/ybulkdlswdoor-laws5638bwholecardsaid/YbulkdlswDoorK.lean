/-
  The law's loop, and what follows.
-/
import Derived.Test.YbulkdlswDoorI
import Derived.Test.YbulkdlswDoorJ
import Derived.LaidEql
namespace Go.Proofs.YbulkdlswDoor
open Go.RowKit Go.Shelf
set_option linter.unusedVariables false

theorem info37 : (Ybad.prog.info? 37).map (fun i => i.comparable) = some true := by kernel_rfl
theorem info39 : (Ybad.prog.info? 39).isSome = true := by kernel_rfl
theorem errEq (a : Addr) (w : World) : (binOp .eql 25 (.iface 37 (.pointer (some a))) (.iface 37 (.pointer (some a)))).run Ybad.prog w = .ok (.bool true) w := by
  obtain ⟨i, hi, hc⟩ := Option.map_eq_some_iff.1 info37
  obtain ⟨j, hj⟩ := Option.isSome_iff_exists.1 info39
  exact run_eql_iface_ptr_same (P := Ybad.prog) w a Ybad.underlying25 Ybad.underlying37 hi hc hj

theorem Live.same {R S U bl n tc nc cc : Nat} {ta ca : Option Addr} {fail : Bool} {fe : Addr} {ft : Nat → Nat} {at' : Nat} {ex : List Nat} {w w' : World} (h : Live R S U bl n tc nc cc ta ca fail fe ft at' w) (hs : Same ex w w') (hR : R ∉ ex) (hS : S ∉ ex) (hU : U ∉ ex) :
    Live R S U bl n tc nc cc ta ca fail fe ft at' w' := by
  obtain ⟨r, x, pos, k, fU, lb, lr, h1, h2, h3, h4, h5, h6, h7, h8, h9⟩ := h
  exact ⟨r, x, pos, k, fU, lb, lr, h1, h2, h3, h4, h5, (hs.block R (World.block_lt_of_cell? w _ (rcells h6).1) hR).trans h6, (hs.block S (World.block_lt_of_cell? w _ (scells h7).1) hS).trans h7, h8.same hs hU, h9⟩
theorem Live.lt {R S U bl n tc nc cc : Nat} {ta ca : Option Addr} {fail : Bool} {fe : Addr} {ft : Nat → Nat} {at' : Nat} {w : World} (h : Live R S U bl n tc nc cc ta ca fail fe ft at' w) : R < w.heap.size ∧ S < w.heap.size ∧ U < w.heap.size := by
  obtain ⟨r, x, pos, k, fU, lb, lr, h1, h2, h3, h4, h5, h6, h7, h8, h9⟩ := h
  exact ⟨World.block_lt_of_cell? w _ (rcells h6).1, World.block_lt_of_cell? w _ (scells h7).1, h8.lt⟩

/-- The length of a slice. -/
def lenV : Value → Nat
  | .slice _ m _ => m
  | _ => 0

def ltail25 (b : Option Code) : Code := (b.bind (fromReg 25)).getD .skip

/-- The loop's state: got is the text from at0 on; i rounds gave at least i bytes. -/
def Got (R S U V bl n tc nc cc : Nat) (ta ch : Option Addr) (fail : Bool) (fe : Addr) (ft : Nat → Nat) (at0 : Nat) (W : World) (v i : Value) (wr : World) : Prop :=
  ∃ (ga : Option Addr) (gcap gm k : Nat) (fV : Nat → Nat), v = .slice ga gm gcap ∧ i = .int .i64 (k : Int) ∧ k ≤ gm ∧ at0 + gm ≤ n ∧ OwnS wr W.heap.size ga gcap gm (fun j => ft (at0 + j)) ∧ Live R S U bl n tc nc cc ta ch fail fe ft (at0 + gm) wr ∧ Row wr V 7 fV ∧ Same [R, S, U, V] W wr

set_option maxRecDepth 1000000 in
set_option maxHeartbeats 4000000 in
theorem loop25 (R S U V bl n tc nc cc at0 la ca oc wn wcap : Nat) (a oa wa ta ch : Option Addr) (fail : Bool) (fe ea : Addr) (ft fV0 fc fa : Nat → Nat) (W : World) (Q : Ending → World → Prop) (hL : Live R S U bl n tc nc cc ta ch fail fe ft at0 W)
    (hg : W.cell? ⟨0, 0, none⟩ = some (.iface 37 (.pointer (some ea)))) (h0 : 0 ∉ [R, S, U, V]) (hb16 : 16 ≤ bl) (hbl : (bl : Int) ≤ 70000) (hn : n ≤ 3000000) (hnt : n ≤ tc) (hT : TextAt W ta n ft [R, S, U, V]) (hV : Row W V 7 fV0) (hc : Bytes W ch nc fc) (hfc : ∀ i, fc i < 256) (hnc : nc ≤ 4000000)
    (hcX : ∀ p, ch = some p → p.block ∉ [R, S, U, V]) (hSU : S ≠ U) (hRS : R ≠ S) (hRU : R ≠ U) (hRV : R ≠ V) (hSV : S ≠ V) (hUV : U ≠ V) (hat : at0 ≤ n)
    (ha : Bytes W a la fa) (haX : ∀ p, a = some p → p.block ∉ [R, S, U, V]) (ho : Bytes W oa la fa) (hoX : ∀ p, oa = some p → p.block ∉ [R, S, U, V]) (hw : Bytes W wa wn (fun j => ft (at0 + j))) (hwX : ∀ p, wa = some p → p.block ∉ [R, S, U, V]) (hwn : at0 + wn = n)
    (hQ : ∀ w', Same [R, S, U, V] W w' → Q (.returned (.bool true)) w') (u1 u2 u4 u5 u6 u7 u8 u13 u17 u18 u19 u20 u21 u22 u23 u24 u25 u26 u27 u28 u29 u30 u31 u32 u33 u34 u35 u36 u37 u38 u39 u40 u41 u42 u43 u44 u45 u46 u47 u48 u49 u50 u51 u52 u53 u54 u55 u56 u57 u58 u59 u60 u61 u62 u63 u64 u65 u66 u67 u68 u69 u70 u71 u72 u73 u74 u75 u76 u77 u78 u79 u80 u81 u82 u83 u84 u85 u86 u87 u88 u89 u90 u91 u92 u93 u94 u95 u96 u97 u98 u99 u100 u101 u102 u103 u104 u105 u106 u107 u108 u109 u110 u111 u112 u113 u114 u115 u116 u117 u118 u119 u120 u121 u122 u123 u124 u125 u126 u127 u128 u129 u130 : Value) :
    Code.wp Ybad.prog (ltail25 Ybad.f3.body) (bodyPost Ybad.prog Ybad.f3 Q) ⟨#[.slice a la ca, u1, u2, .bool fail, u4, u5, u6, u7, u8, .slice oa la oc, .slice ta n tc, .slice wa wn wcap, .iface 37 (.pointer (some fe)), u13, .pointer (some ⟨R, 0, none⟩), .slice none 0 0, .slice (some ⟨V, 0, none⟩) 7 7, u17, u18, u19, u20, u21, u22, u23, u24, u25, u26, u27, u28, u29, u30, u31, u32, u33, u34, u35, u36, u37, u38, u39, u40, u41, u42, u43, u44, u45, u46, u47, u48, u49, u50, u51, u52, u53, u54, u55, u56, u57, u58, u59, u60, u61, u62, u63, u64, u65, u66, u67, u68, u69, u70, u71, u72, u73, u74, u75, u76, u77, u78, u79, u80, u81, u82, u83, u84, u85, u86, u87, u88, u89, u90, u91, u92, u93, u94, u95, u96, u97, u98, u99, u100, u101, u102, u103, u104, u105, u106, u107, u108, u109, u110, u111, u112, u113, u114, u115, u116, u117, u118, u119, u120, u121, u122, u123, u124, u125, u126, u127, u128, u129, u130], []⟩ W := by
  conv => arg 2; whnf
  conv => arg 4; zeta
  have hst : Got R S U V bl n tc nc cc ta ch fail fe ft at0 W (.slice none 0 0) (.int .i64 0) W := ⟨none, 0, 0, 0, fV0, rfl, rfl, Nat.le_refl _, by omega, OwnS.nil _ _ _, hL, hV, Same.refl _ _⟩
  obtain ⟨va, hva⟩ : ∃ va, (if fail = true then fe else ea) = va := ⟨_, rfl⟩
  have hlt := hL.lt
  have hVl := hV.lt
  have hdraw : True := trivial
  clear hL hV
  have HC : Hid ((R < W.heap.size ∧ S < W.heap.size ∧ U < W.heap.size) ∧ V < W.heap.size ∧ n ≤ 3000000 ∧ at0 + wn = n) := ⟨hlt, hVl, hn, hwn⟩
  have hread := fun (at' : Nat) (fV : Nat → Nat) (wr : World) hLr hgr hTr hVr hcr => read_any R S U V bl n tc nc cc at' ta ch fail fe ea va ft fV fc wr hLr hva hgr hb16 hbl hn hnt hTr hVr hcr hfc hnc (fun p hp => by have := hcX p hp; simp only [List.mem_cons, List.not_mem_nil, or_false, not_or] at this; omega) (fun p hp => by have := hcX p hp; simp only [List.mem_cons, List.not_mem_nil, or_false, not_or] at this; omega) hSU hRS hRU hRV hSV hUV
  clear hn hlt hVl hwn hb16 hbl hnc hnt
  go_wp2
  go_loopw [15, 18] (fun v i wr => Got R S U V bl n tc nc cc ta ch fail fe ft at0 W v i wr) (fun v _ _ => n - lenV v)
  case atStart => exact hst
  case round =>
    obtain ⟨ga, gcap, gm, k, fV, rfl, rfl, hk, hgm, hown, hLr, hVr, hsm⟩ := hrel
    have hgr : wr.cell? ⟨0, 0, none⟩ = some (.iface 37 (.pointer (some ea))) := (World.cell?_of_block (w := W) (hsm.block 0 (World.block_lt_of_cell? W _ hg) h0)).trans hg
    have hrd := hread (at0 + gm) fV wr hLr hgr (hT.same hsm (fun _ h => h)) hVr (hc.same hsm hcX)
    have hgX : ∀ p, ga = some p → W.heap.size ≤ p.block := by
      rcases hown.parts with ⟨rfl, _, _⟩ | ⟨g, rfl, hb⟩
      · intro p hp; cases hp
      · intro p hp; cases hp; exact (OwnB.lt hb).1
    have i1 : (k : Int) ≤ (n : Int) + 2 := by omega
    have i2 : IntKind.i64.wrap ((n : Int) + 2) = (n : Int) + 2 := IntWalk.i64_in _ (by have := HC.out; omega)
    have i3 : IntKind.i64.wrap ((k : Int) + 1) = (k : Int) + 1 := IntWalk.i64_in _ (by have := HC.out; omega)
    have HK : Hid (k ≤ gm ∧ at0 + gm ≤ n) := ⟨hk, hgm⟩
    clear hk hgm hread hst hT hVr hLr hgr
    go_wp2_with fail
    refine hrd.mono ?_
    rintro e w1 ⟨hsm1, ⟨c, rfl, hc1, hc7, hcn, hL1, hV1⟩ | ⟨hend, rfl, hV1⟩⟩
    · have i4 : (0 : Int) ≤ (c : Int) := by omega
      have i5 : (c : Int) ≤ 7 := by omega
      have hVb : Bytes w1 (some ⟨V, 0, none⟩) c (fun i => if i < c then ft (at0 + gm + i) else fV i) := (hV1.shorter hc7).bytes
      have hown1 : OwnS w1 W.heap.size ga gcap gm (fun j => ft (at0 + j)) := hown.same hsm1 (fun p hp => by have := hgX p hp; have := HC.out; simp; omega)
      have HX : Hid (1 ≤ c ∧ c ≤ 7 ∧ at0 + gm + c ≤ n) := ⟨hc1, hc7, hcn⟩
      clear hrd hc1 hc7 hcn
      go_wp2_with (at_builtin; refine wpList_appS _ rfl (.tmp 105) (.tmp 108) rfl W.heap.size ga gcap gm (fun j => ft (at0 + j)) rfl hown1 (some ⟨V, 0, none⟩) c 7 _ rfl hVb (fun h => by cases h) (by have := HC.out; have := HX.out; have := HK.out; omega) (Nat.le_trans hsm.size hsm1.size) ?_; intro g' cap' w2 hown2 hsm2)
      have hX := HX.out
      have hK := HK.out
      have hXR : ∀ X, X < W.heap.size → X ∉ ga.toList.map (·.block) := fun X hX hm => by
        simp only [List.mem_map, Option.mem_toList] at hm
        obtain ⟨p, hp, rfl⟩ := hm
        have := hgX p hp
        omega
      go_roundw
      case rel =>
        have hr : Got R S U V bl n tc nc cc ta ch fail fe ft at0 W (.slice g' (gm + c) cap') (.int .i64 ((k + 1 : Nat) : Int)) w2 := by
          refine ⟨g', cap', gm + c, k + 1, _, rfl, rfl, by omega, by omega, hown2.congr (fun i hi => ?_), ?_, hV1.same hsm2 (hXR _ HC.out.2.1), (hsm.trans hsm1).shed hsm2 (fun i hi => ?_)⟩
          · show ft (at0 + i) = if i < gm then ft (at0 + i) else (if i - gm < c then ft (at0 + gm + (i - gm)) else fV (i - gm))
            by_cases h : i < gm
            · rw [if_pos h]
            · rw [if_neg h, if_pos (by omega)]
              congr 1
              omega
          · rw [← Nat.add_assoc]
            exact hL1.same hsm2 (hXR _ HC.out.1.1) (hXR _ HC.out.1.2.1) (hXR _ HC.out.1.2.2)
          · refine .inr ?_
            simp only [List.mem_map, Option.mem_toList] at hi
            obtain ⟨p, hp, rfl⟩ := hi
            exact hgX p hp
        first | exact hr | ((repeat apply Exists.intro); exact ⟨hr, rfl⟩)
      case measure => simp [lenV]; omega
    · have hVb : Bytes w1 (some ⟨V, 0, none⟩) 0 fV := .inl rfl
      have hown1 : OwnS w1 W.heap.size ga gcap gm (fun j => ft (at0 + j)) := hown.same hsm1 (fun p hp => by have := hgX p hp; have := HC.out; simp; omega)
      have hXR : ∀ X, X < W.heap.size → X ∉ ga.toList.map (·.block) := fun X hX hm => by
        simp only [List.mem_map, Option.mem_toList] at hm
        obtain ⟨p, hp, rfl⟩ := hm
        have := hgX p hp
        omega
      have hfin : ∀ w2, Same (ga.toList.map (·.block)) w1 w2 → Same [R, S, U, V] W w2 := fun w2 h2 => (hsm.trans hsm1).shed h2 (fun i hi => by
        refine .inr ?_
        simp only [List.mem_map, Option.mem_toList] at hi
        obtain ⟨p, hp, rfl⟩ := hi
        exact hgX p hp)
      have HE : Hid (at0 + gm = n) := hend
      have hee := errEq va
      clear hrd hend
      cases fail with
      | true =>
        obtain rfl : fe = va := by simpa using hva
        go_wp2_with (at_builtin; refine wpList_appS _ rfl (.tmp 105) (.tmp 108) rfl W.heap.size ga gcap gm (fun j => ft (at0 + j)) rfl hown1 (some ⟨V, 0, none⟩) 0 7 _ rfl hVb (fun h => by cases h) (by have := HC.out; have := HK.out; omega) (Nat.le_trans hsm.size hsm1.size) ?_; intro g' cap' w2 hown2 hsm2; have hgl := (World.cell?_of_block (w := W) ((hfin w2 hsm2).block 0 (World.block_lt_of_cell? W _ hg) h0)).trans hg)
        have hs2 := hfin w2 hsm2
        rw [Nat.add_zero] at hown2
        have hq1 := equal_any g' wa gm wn cap' wcap (fun j => ft (at0 + j)) (fun j => ft (at0 + j)) w2 (hown2.congr (fun i hi => (if_pos hi).symm)).bytes (hw.same hs2 hwX) (by have := HC.out; have := HE.out; omega) (fun _ _ => rfl)
        have hq2 := equal_any a oa la la ca oc fa fa w2 (ha.same hs2 haX) (ho.same hs2 hoX) rfl (fun _ _ => rfl)
        refine hq1.mono ?_
        rintro e w3 ⟨rfl, hw3⟩
        subst w3
        go_wp2_with fail
        refine hq2.mono ?_
        rintro e w3 ⟨rfl, hw3⟩
        subst w3
        go_wp2
        exact hs2
      | false =>
        obtain rfl : ea = va := by simpa using hva
        go_wp2_with (at_builtin; refine wpList_appS _ rfl (.tmp 105) (.tmp 108) rfl W.heap.size ga gcap gm (fun j => ft (at0 + j)) rfl hown1 (some ⟨V, 0, none⟩) 0 7 _ rfl hVb (fun h => by cases h) (by have := HC.out; have := HK.out; omega) (Nat.le_trans hsm.size hsm1.size) ?_; intro g' cap' w2 hown2 hsm2; have hgl := (World.cell?_of_block (w := W) ((hfin w2 hsm2).block 0 (World.block_lt_of_cell? W _ hg) h0)).trans hg)
        have hs2 := hfin w2 hsm2
        rw [Nat.add_zero] at hown2
        have hq1 := equal_any g' wa gm wn cap' wcap (fun j => ft (at0 + j)) (fun j => ft (at0 + j)) w2 (hown2.congr (fun i hi => (if_pos hi).symm)).bytes (hw.same hs2 hwX) (by have := HC.out; have := HE.out; omega) (fun _ _ => rfl)
        have hq2 := equal_any a oa la la ca oc fa fa w2 (ha.same hs2 haX) (ho.same hs2 hoX) rfl (fun _ _ => rfl)
        refine hq1.mono ?_
        rintro e w3 ⟨rfl, hw3⟩
        subst w3
        go_wp2_with fail
        refine hq2.mono ?_
        rintro e w3 ⟨rfl, hw3⟩
        subst w3
        go_wp2
        exact hs2
end Go.Proofs.YbulkdlswDoor
