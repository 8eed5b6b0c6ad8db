/-
  The law from the append of data on.
-/
import Derived.Test.YbulkdlswDoorK
namespace Go.Proofs.YbulkdlswDoor
open Go.RowKit Go.Shelf
set_option linter.unusedVariables false

def ltail13 (b : Option Code) : Code := (b.bind (fromReg 13)).getD .skip

/-- What 'want' is. -/
def WantSaid (ta : Option Addr) (n tc : Nat) (ft : Nat → Nat) (w : World) (v : Value) : Prop :=
  ∃ (wa : Option Addr) (wn wcap : Nat), v = .slice wa wn wcap ∧ (if Marked n ft then 3 else 0) + wn = n ∧ Bytes w wa wn (fun j => ft ((if Marked n ft then 3 else 0) + j)) ∧ (∀ p, wa = some p → p.block < w.heap.size)
theorem Bytes.congr {w : World} {a : Option Addr} {len : Nat} {f f' : Nat → Nat} (h : Bytes w a len f) (he : ∀ i, i < len → f' i = f i) : Bytes w a len f' := by
  rcases h with h | ⟨b, off, rfl, hc⟩
  · exact .inl h
  · exact .inr ⟨b, off, rfl, fun i hi => by rw [he i hi]; exact hc i hi⟩

set_option maxRecDepth 1000000 in
set_option maxHeartbeats 4000000 in
theorem mid13 (B la ca oc pm pcap nc cc : Nat) (a oa pa ch : Option Addr) (fail : Bool) (ea : Addr) (fp fc fa : Nat → Nat) (W : World) (Q : Ending → World → Prop) 
    (hg : W.cell? ⟨0, 0, none⟩ = some (.iface 37 (.pointer (some ea)))) (hown : OwnS W B pa pcap pm fp) (hB0 : 0 < B) (hB : B ≤ W.heap.size) (hpm : pm ≤ 6) (hla : la ≤ 1048576) (hnc : nc ≤ 1048576) (hfp : ∀ i, fp i < 256) (hfa : ∀ i, fa i < 256) (hfc : ∀ i, fc i < 256)
    (ha : Bytes W a la fa) (han : a = none → la = 0 ∧ ca = 0) (haX : ∀ p, a = some p → p.block < B) (ho : Bytes W oa la fa) (hoX : ∀ p, oa = some p → p.block < B) (hc : Bytes W ch nc fc) (hcX : ∀ p, ch = some p → p.block < B)
    (hQ : ∀ w', Below B W w' → Q (.returned (.bool true)) w') (u1 u4 u5 u6 u7 u8 u11 u12 u13 u14 u15 u16 u17 u18 u19 u20 u21 u22 u23 u24 u25 u26 u27 u28 u29 u30 u31 u32 u33 u34 u35 u36 u37 u38 u39 u40 u41 u42 u43 u44 u45 u46 u47 u48 u49 u50 u51 u52 u53 u54 u55 u56 u57 u58 u59 u60 u61 u62 u63 u64 u65 u66 u67 u68 u69 u70 u71 u72 u73 u74 u75 u76 u77 u78 u79 u80 u81 u82 u83 u84 u85 u86 u87 u88 u89 u90 u91 u92 u93 u94 u95 u96 u97 u98 u99 u100 u101 u102 u103 u104 u105 u106 u107 u108 u109 u110 u111 u112 u113 u114 u115 u116 u117 u118 u119 u120 u121 u122 u123 u124 u125 u126 u127 u128 u129 u130 : Value) :
    Code.wp Ybad.prog (ltail13 Ybad.f3.body) (bodyPost Ybad.prog Ybad.f3 Q) ⟨#[.slice a la ca, u1, .slice ch nc cc, .bool fail, u4, u5, u6, u7, u8, .slice oa la oc, .slice pa pm pcap, u11, u12, u13, u14, u15, u16, u17, u18, u19, u20, u21, u22, u23, u24, u25, u26, u27, u28, u29, u30, u31, u32, u33, u34, u35, u36, u37, u38, u39, u40, u41, u42, u43, u44, u45, u46, u47, u48, u49, u50, u51, u52, u53, u54, u55, u56, u57, u58, u59, u60, u61, u62, u63, u64, u65, u66, u67, u68, u69, u70, u71, u72, u73, u74, u75, u76, u77, u78, u79, u80, u81, u82, u83, u84, u85, u86, u87, u88, u89, u90, u91, u92, u93, u94, u95, u96, u97, u98, u99, u100, u101, u102, u103, u104, u105, u106, u107, u108, u109, u110, u111, u112, u113, u114, u115, u116, u117, u118, u119, u120, u121, u122, u123, u124, u125, u126, u127, u128, u129, u130], []⟩ W := by
  conv => arg 2; whnf
  conv => arg 4; zeta
  have HL : Hid (pm ≤ 6 ∧ la ≤ 1048576 ∧ nc ≤ 1048576) := ⟨hpm, hla, hnc⟩
  clear hpm hla hnc
  go_upto_region 14 with (at_builtin; refine wpList_appS _ rfl (.tmp 47) (.tmp 48) rfl B pa pcap pm fp rfl hown a la ca fa rfl ha han (by have := HL.out; omega) hB ?_; intro ta tc w1 hown1 hsm1)
  obtain ⟨n, hn⟩ : ∃ n, pm + la = n := ⟨_, rfl⟩
  rw [hn] at hown1 ⊢
  have hpX : ∀ X, X < B → X ∉ pa.toList.map (·.block) := fun X hX hm => by
    simp only [List.mem_map, Option.mem_toList] at hm
    obtain ⟨p, hp, rfl⟩ := hm
    have := hown.ge p hp
    omega
  have hb1 : Below B W w1 := ⟨hsm1.os, hsm1.tape, hsm1.output, hsm1.size, fun k hk => hsm1.block k (by omega) (hpX k hk)⟩
  have ha1 : Bytes w1 a la fa := ha.same hsm1 (fun p hp => hpX _ (haX p hp))
  have ho1 : Bytes w1 oa la fa := ho.same hsm1 (fun p hp => hpX _ (hoX p hp))
  have hc1 : Bytes w1 ch nc fc := hc.same hsm1 (fun p hp => hpX _ (hcX p hp))
  have hg1 : w1.cell? ⟨0, 0, none⟩ = some (.iface 37 (.pointer (some ea))) := (hb1.cell (p := ⟨0, 0, none⟩) hB0).trans hg
  obtain ⟨ft, hft⟩ : ∃ ft : Nat → Nat, (fun i => if i < pm then fp i else fa (i - pm)) = ft := ⟨_, rfl⟩
  have hf256 : ∀ i, ft i < 256 := by
    intro i
    rw [← hft]
    show (if i < pm then fp i else fa (i - pm)) < 256
    split
    · exact hfp _
    · exact hfa _
  rw [hft] at hown1
  have HN : Hid (n ≤ 2000000) := by show n ≤ 2000000; have := HL.out; omega
  have hsz1 := Nat.le_trans hB hsm1.size
  clear hft hfp hfa hsm1 hpX hown ha ho hc hg hB hn
  go_upto_region 15 with fail
  obtain ⟨md, hmd⟩ : ∃ md, decide (Marked n ft) = md := ⟨_, rfl⟩
  go_cut [71] (fun v wx => v = .bool md ∧ wx = w1)
  case first =>
    by_cases h3 : 3 ≤ n
    · have i3 : (3 : Int) ≤ (n : Int) := by omega
      have i30 : (0 : Int) < (n : Int) := by omega
      have i31 : (1 : Int) < (n : Int) := by omega
      have i32 : (2 : Int) < (n : Int) := by omega
      rcases hown1.parts with ⟨_, h0, _⟩ | ⟨T, rfl, hT⟩
      · omega
      have t0 := (OwnB.row hT).1.cell (i := 0) (by omega)
      have t1 := (OwnB.row hT).1.cell (i := 1) (by omega)
      have t2 := (OwnB.row hT).1.cell (i := 2) (by omega)
      have hM : Marked n ft ↔ (ft 0 : Int) = 239 ∧ (ft 1 : Int) = 187 ∧ (ft 2 : Int) = 191 := ⟨fun h => ⟨by have := h.2.1; omega, by have := h.2.2.1; omega, by have := h.2.2.2; omega⟩, fun h => ⟨h3, by omega, by omega, by omega⟩⟩
      obtain ⟨x0, hx0⟩ : ∃ x0, (ft 0 : Int) = x0 := ⟨_, rfl⟩
      obtain ⟨x1, hx1⟩ : ∃ x1, (ft 1 : Int) = x1 := ⟨_, rfl⟩
      obtain ⟨x2, hx2⟩ : ∃ x2, (ft 2 : Int) = x2 := ⟨_, rfl⟩
      rw [hx0] at t0 hM
      rw [hx1] at t1 hM
      rw [hx2] at t2 hM
      have HM : Hid ((Marked n ft ↔ x0 = 239 ∧ x1 = 187 ∧ x2 = 191) ∧ decide (Marked n ft) = md) := ⟨hM, hmd⟩
      clear hM hmd hx0 hx1 hx2 hown1 hf256 h3
      by_cases y0 : x0 = 239
      · by_cases y1 : x1 = 187
        · by_cases y2 : x2 = 191
          · subst y0 y1 y2
            go_wp2
            go_meet
            obtain ⟨h1, h2⟩ := HM.out
            exact ⟨by rw [← h2]; exact congrArg Value.bool (decide_eq_true (h1.2 (by simp))).symm, rfl⟩
          · have z2 : (x2 == 191) = false := beq_eq_false_iff_ne.2 y2
            subst y0 y1
            go_wp2
            go_meet
            obtain ⟨h1, h2⟩ := HM.out
            exact ⟨by rw [← h2]; exact congrArg Value.bool (decide_eq_false (fun h => y2 (h1.1 h).2.2)).symm, rfl⟩
        · subst y0
          go_wp2
          go_meet
          obtain ⟨h1, h2⟩ := HM.out
          exact ⟨by rw [← h2]; exact congrArg Value.bool (decide_eq_false (fun h => y1 (h1.1 h).2.1)).symm, rfl⟩
      · go_wp2
        go_meet
        obtain ⟨h1, h2⟩ := HM.out
        exact ⟨by rw [← h2]; exact congrArg Value.bool (decide_eq_false (fun h => y0 (h1.1 h).1)).symm, rfl⟩
    · have i3 : ¬ (3 : Int) ≤ (n : Int) := by omega
      have i3' : decide ((3 : Int) ≤ (n : Int)) = false := decide_eq_false i3
      have hM : decide (Marked n ft) = false := decide_eq_false (fun h => h3 h.1)
      rw [hM] at hmd
      clear hM h3
      subst hmd
      go_wp2
      go_meet
      exact ⟨rfl, rfl⟩
  case rest =>
    obtain ⟨rfl, rfl⟩ := hcut
    go_upto_if 71 with fail
    go_cut [11] (fun v wx => wx = wc ∧ WantSaid ta n tc ft wc v)
    case first =>
      by_cases hM : Marked n ft
      · rw [decide_eq_true hM] at hmd
        subst hmd
        have HM : Hid (Marked n ft) := hM
        have h3 := hM.1
        have hcap := hown1.cap_le
        rcases hown1.parts with ⟨_, h0, _⟩ | ⟨T, rfl, hT⟩
        · omega
        have hrow := (OwnB.row hT).1
        have i1 : (3 : Int) ≤ (n : Int) := by omega
        have i2 : (n : Int) ≤ (tc : Int) := by omega
        have i3 : (3 : Int) ≤ (tc : Int) := by omega
        have HC : Hid (3 ≤ n ∧ n ≤ tc) := ⟨h3, hcap⟩
        by_cases htc : tc = 3
        · subst htc
          have hn3 : n = 3 := by omega
          subst hn3
          clear hM h3 hcap hown1 i1 i2 i3
          go_wp2
          go_meet
          refine ⟨rfl, some ⟨T, 0, none⟩, 0, 0, rfl, by rw [if_pos HM.out], .inl rfl, fun p hp => ?_⟩
          cases hp
          exact hrow.lt
        · have i5 : ¬ (tc : Int) = 3 := by omega
          clear hM h3 hcap hown1
          go_wp2
          go_meet
          have hh := HC.out
          refine ⟨rfl, some ⟨T, 3, none⟩, n - 3, tc - 3, rfl, by rw [if_pos HM.out]; omega, .inr ⟨T, 3, rfl, fun i hi => by rw [if_pos HM.out]; exact hrow.cell (by omega)⟩, fun p hp => ?_⟩
          cases hp
          exact hrow.lt
      · rw [decide_eq_false hM] at hmd
        subst hmd
        have hwant : WantSaid ta n tc ft wc (.slice ta n tc) := ⟨ta, n, tc, rfl, by rw [if_neg hM]; omega, by rw [if_neg hM]; exact hown1.bytes.congr (fun i _ => by rw [Nat.zero_add]), hown1.lt⟩
        clear hM hown1
        go_wp2
        go_meet
        exact ⟨rfl, hwant⟩
    case rest =>
      obtain ⟨hwq, wa, wn, wcap, rfl, hwn, hw, hwX⟩ := hcut
      subst hwq
      obtain ⟨wq, hwq⟩ : ∃ wq, wq = wc := ⟨_, rfl⟩
      subst hwq
      clear hmd
      go_upto_region 19 with (go_at_call 5; refine (new_any _ wq).mono ?_; rintro e w2 ⟨rfl, hb2⟩)
      obtain ⟨fe, hfe⟩ : ∃ fe : Addr, (⟨wq.heap.size, 0, none⟩ : Addr) = fe := ⟨_, rfl⟩
      rw [hfe]
      obtain ⟨w3, hw3⟩ : ∃ w3, w2.alloc (.cells (SB ta n tc 0 ch nc cc 0 fail fe) 29 (0, 0)) = w3 := ⟨_, rfl⟩
      have hS3 : w3.heap[w2.heap.size]? = some (.cells (SB ta n tc 0 ch nc cc 0 fail fe) 29 (0, 0)) := by rw [← hw3]; exact heap_alloc_new w2 _
      have hs3 : Same [] wq w3 := by rw [← hw3]; exact (Below.same hb2 _ (Nat.le_refl _)).trans (Same.alloc _ _ _)
      have hz3 : w3.heap.size = w2.heap.size + 1 := by rw [← hw3]; simp
      have hz2 := hb2.size
      rw [hw3]
      clear hw3 hfe
      obtain ⟨S, hS⟩ : ∃ S, w2.heap.size = S := ⟨_, rfl⟩
      rw [hS] at hS3 hz3 hz2 ⊢
      obtain ⟨R, hR⟩ : ∃ R, w3.heap.size = R := ⟨_, rfl⟩
      have hRS : R = S + 1 := hR.symm.trans hz3
      obtain ⟨bl, hbl⟩ : ∃ bl : Nat, (bl : Int) = 65536 := ⟨65536, rfl⟩
      have hT3 : TextAt w3 ta n ft [S] := by
        rcases hown1.parts with ⟨_, h0, _⟩ | ⟨T, rfl, hT⟩
        · exact .inl h0
        · exact .inr ⟨T, rfl, (OwnB.row hT).1.same hs3 (by simp), by have := (OwnB.row hT).1.lt; simp; omega⟩
      have hc3 : Bytes w3 ch nc fc := hc1.same hs3 (fun p hp => by simp)
      have ha3 : Bytes w3 a la fa := ha1.same hs3 (fun p hp => by simp)
      have ho3 : Bytes w3 oa la fa := ho1.same hs3 (fun p hp => by simp)
      have hw3 := hw.same hs3 (fun p hp => by simp)
      have hg3 : w3.cell? ⟨0, 0, none⟩ = some (.iface 37 (.pointer (some ea))) := (World.cell?_of_block (w := wq) (hs3.block 0 (by omega) (by simp))).trans hg1
      have hbom := bom_any S bl n tc nc cc ta ch fail fe ea ft fc w3 hbl hS3 hg3 (by omega) (by have := HN.out; omega) hown1.cap_le hT3 (fun i _ => hf256 i) hc3 hfc (by have := HL.out; omega) (fun p hp => by have := hcX p hp; omega)
      have HB : Hid ((bl : Int) = 65536 ∧ w3.heap.size = R ∧ R = S + 1 ∧ wq.heap.size ≤ S ∧ B ≤ wq.heap.size) := ⟨hbl, hR, hRS, hz2, hsz1⟩
      have HT : Hid (TextAt w3 ta n ft [S]) := hT3
      have HF : Hid (∀ i, fc i < 256) := hfc
      have HF2 : Hid (n ≤ tc) := hown1.cap_le
      have hlt1 := hown1.lt
      obtain ⟨at0, hat0⟩ : ∃ at0, (if Marked n ft then 3 else 0) = at0 := ⟨_, rfl⟩
      rw [hat0] at hwn
      simp only [hat0] at hw3
      unfold BomSaid at hbom
      rw [hat0, hR] at hbom
      clear hbl hRS hR hz2 hz3 hsz1 hS hT3 hS3 hw hc1 ha1 ho1 hg1 hf256 hfc hown1 hb2 hat0
      go_upto_region 20 with (go_at_call 6; refine hbom.mono ?_; rintro e w4 ⟨rfl, hL4, hs4⟩)
      have hsz : Calls Ybad.prog 7 #[.pointer (some ⟨R, 0, none⟩)] w4 fun e w' => e = .returned (.int .i64 65536) ∧ w' = w4 := by
        obtain ⟨r, x, pos, k, fU, lb, lr, h1, h2, h3, h4, h5, h6, h7, h8, h9⟩ := hL4
        have := size_any R (R + 1) bl _ _ r x lb lr w4 h6
        rw [HB.out.1] at this
        exact this
      clear hbom
      obtain ⟨i0, hi, hz0, hz1, hz2⟩ := info_parts Ybad.info5
      go_upto_region 24 with (first
        | (go_at_call 7; refine hsz.mono ?_; rintro e w5 ⟨rfl, hw5⟩; subst w5)
        | (at_make; refine wpList_make_full _ rfl _ _ 22 rfl w4.heap.size 5 i0 (.int .u8 0) 1 Ybad.underlying22 hi hz0 hz1 .i64 .i64 _ _ 7 rfl rfl rfl rfl (by rw [hz2]; omega) (by simp [maxLen]) (Nat.le_refl _) ?_; intro w5 hown5 hgrow5))
      have hrow5 := row_of_made hown5
      have hb5 : Below w4.heap.size w4 w5 := (Below.refl _ _).grown hgrow5 (Nat.le_refl _) (fun k hk => by cases hk)
      go_cut [17] (fun v wx => v = .nilIface ∧ wx = w5)
      case first =>
        clear hrow5 hb5 hown5 hgrow5 hi hz0 hz1 hz2 hsz hL4 hs4 hw3 hc3 ha3 ho3
        go_wp2
        go_meet
        exact ⟨rfl, rfl⟩
      case rest =>
        obtain ⟨rfl, hwd⟩ := hcut
        subst hwd
        rename_i K hK
        refine hK _ _ ?_
        obtain ⟨hbl, hR, hRS, hz2', hsz1⟩ := HB.out
        have hL := HL.out
        have hlt4 := hL4.lt
        have hs5 : Same [S] w3 wc := hs4.trans (Below.same hb5 _ (Nat.le_refl _))
        have hsz5 := hs4.size
        have hT5 : TextAt wc ta n ft [R, S, R + 1, w4.heap.size] := by
          rcases HT.out with h | ⟨T, h1, h2, h3⟩
          · exact .inl h
          · have := h2.lt
            have h4 := hlt1 _ h1
            simp at h4
            exact .inr ⟨T, h1, h2.same hs5 (by simp; omega), by simp; omega⟩
        have hX : ∀ X, X < wq.heap.size → X ∉ [R, S, R + 1, w4.heap.size] := fun X hX => by simp; omega
        have hX1 : ∀ X, X < wq.heap.size → X ∉ [S] := fun X hX => by simp; omega
        have hQ2 : ∀ w', Same [R, S, R + 1, w4.heap.size] wc w' → Q (.returned (.bool true)) w' := fun w' hs' => by
          refine hQ w' ?_
          refine hb1.trans ?_
          have h1 : Same [S] wq wc := (hs3.more (by simp)).trans hs5
          have h2 : Below B wq wc := h1.below hsz1 (by simp; omega)
          have h3 : Below B wc w' := hs'.below (by have := h1.size; omega) (by simp; omega)
          exact h2.trans h3
        exact loop25 R S (R + 1) w4.heap.size bl n tc nc cc at0 la ca oc wn wcap a oa wa ta ch fail fe ea ft (fun _ => 0) fc fa wc Q (hL4.same (Below.same hb5 [] (Nat.le_refl _)) (by simp) (by simp) (by simp)) ((World.cell?_of_block (w := w3) (hs5.block 0 (by omega) (hX1 0 (by omega)))).trans hg3) (hX 0 (by omega)) (by omega) (by omega) (by have := HN.out; omega) HF2.out hT5 hrow5 (hc3.same hs5 (fun p hp => hX1 _ (by have := hcX p hp; omega))) HF.out (by omega)
          (fun p hp => hX _ (by have := hcX p hp; omega)) (by omega) (by omega) (by omega) (by omega) (by omega) (by omega) (by omega) (ha3.same hs5 (fun p hp => hX1 _ (by have := haX p hp; omega))) (fun p hp => hX _ (by have := haX p hp; omega)) (ho3.same hs5 (fun p hp => hX1 _ (by have := hoX p hp; omega))) (fun p hp => hX _ (by have := hoX p hp; omega)) (hw3.same hs5 (fun p hp => hX1 _ (hwX p hp))) (fun p hp => hX _ (hwX p hp)) hwn hQ2 _ _ _ _ _ _ _ _ _ _ _ _ _ _ _ _ _ _ _ _ _ _ _ _ _ _ _ _ _ _ _ _ _ _ _ _ _ _ _ _ _ _ _ _ _ _ _ _ _ _ _ _ _ _ _ _ _ _ _ _ _ _ _ _ _ _ _ _ _ _ _ _ _ _ _ _ _ _ _ _ _ _ _ _ _ _ _ _ _ _ _ _ _ _ _ _ _ _ _ _ _ _ _ _ _ _ _ _ _ _ _ _ _ _ _ _ _ _ _ _ _ _
end Go.Proofs.YbulkdlswDoor
