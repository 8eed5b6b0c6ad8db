/-
  BlockReply.readBody.
-/
import Derived.Test.YbulkdlruFmtN
namespace Go.Proofs.YbulkdlruFmt
open Go.RowKit Go.Shelf Go.Extern.Stop Go.Stop Go.Extern
set_option linter.unusedVariables false
set_option linter.unusedSimpArgs false

theorem zero34 : (#[.int .u64 0, .int .u8 0, .int .u8 0, .int .u8 0, .int .u8 0, .int .u8 0, .int .u8 0, .int .u8 0, .int .u8 0, .int .u8 0, .int .u8 0, .int .u8 0, .int .u8 0, .int .u8 0, .int .u8 0, .int .u8 0, .int .u8 0, .int .u8 0, .int .u8 0, .int .u8 0, .int .u8 0, .int .u8 0, .int .u8 0, .int .u8 0, .int .u8 0, .int .u8 0, .int .u8 0, .int .u8 0, .int .u8 0, .int .u8 0, .int .u8 0, .int .u8 0, .int .u8 0, .slice none 0 0] : Array Value) = C34 0 (fun _ => 0) (.slice none 0 0) := rfl
/-- What readBody comes to. -/
def ReplySaid (I R T N cap : Nat) (f : Nat → Nat) (ee : Addr) (s : St) (W : World) (e : Ending) (w' : World) : Prop :=
  e = .returned (.tuple #[]) ∧ RepAt w' R T W.heap.size (fun _ => 64) (parse f N s).bs (parse f N s).cs (parse f N s).nt ∧ Rd I T N cap ee (parse f N s).st w' ∧ Same [I, R] W w'

set_option maxRecDepth 100000 in
set_option maxHeartbeats 4000000 in
theorem reply_any (F : Interp) (I R T N cap : Nat) (f : Nat → Nat) (ee : Addr) (s : St) (W : World) (hF : F.answers W.tape) (hE : Env T N cap f ee W) (hr : Rd I T N cap ee s W) (hR : W.heap[R]? = some (.cells #[.slice none 0 0, .slice none 0 0, .pointer none] 97 (0, 0))) (hIT : I ≠ T) (hI0 : 0 ≠ I) (hR0 : 0 ≠ R) :
    Calls Ybaf.prog 10 #[.pointer (some ⟨R, 0, none⟩), .pointer (some ⟨I, 0, none⟩)] W (ReplySaid I R T N cap f ee s W) := by
  have hct := count_any F I T N cap 256 f ee { data := #[98, 108, 111, 99, 107, 115] } s W hF hE hr hIT (by omega)
  obtain ⟨rvI, evI, hI1, _⟩ := hr
  have hIR : I ≠ R := fun e => by rw [e, hR] at hI1; injection hI1 with h1; injection h1 with _ h2 _; cases h2
  have hTR : T ≠ R := fun e => by obtain ⟨cur, h1, _⟩ := hE.row; rw [e, hR] at h1; injection h1 with h1; injection h1 with _ h2 _; cases h2
  have hIl := (Array.getElem?_eq_some_iff.1 hI1).1
  have hRl := (Array.getElem?_eq_some_iff.1 hR).1
  have hTI : T ∉ [I] := by simp; omega
  have h0I : 0 ∉ [I] := by simp; omega
  go_enter Ybaf.func10, Ybaf.ntmps10
  go_wp2_with (go_at_call 18; refine hct.mono ?_; rintro e w1 ⟨rfl, r1, hs1⟩)
  have hst : BRel I R T N cap f ee s W (.int .i64 0) w1 := ⟨0, rfl, Nat.zero_le _, ⟨none, 0, [], none, 0, [], .pointer none, (hs1.block R hRl (by simp; omega)).trans hR, ⟨fun _ => ⟨rfl, rfl⟩, fun _ => ⟨rfl, rfl⟩, World.ownsRow_nil _ _ _ _, ⟨rfl, fun i p b hp => by simp at hp⟩, World.ownsRow_nil _ _ _ _, ⟨rfl, fun i p b hp => by simp at hp⟩⟩, rfl⟩, r1, hs1.more (by simp)⟩
  obtain ⟨c, ec⟩ : ∃ c, cnt f N 256 s = c := ⟨_, rfl⟩
  have hc256 : c ≤ 256 := by rw [← ec]; exact cnt_le _ _ _ _
  rw [ec]
  have hcI : (c : Int) ≤ 256 := by omega
  clear hct r1 hs1 hI1
  go_loopw [9] (fun i wr => BRel I R T N cap f ee s W i wr) (fun i _ => c - (intOf i).toNat)
  case atStart => exact hst
  case round =>
    obtain ⟨k, rfl, hk, hrep, hrd, hsm⟩ := hrel
    obtain ⟨ga, gc, ps, ga0, gc0, qs, nv, hRr, hH, hnv⟩ := hrep
    rw [ec] at hk
    by_cases hlt : k < c
    · have i1 : (k : Int) < (c : Int) := by omega
      have hEr := hE.same hsm (by simp; omega) (by simp; omega)
      have hcall := block_any F I T N cap f ee _ wr.drew (by show F.answers wr.tape; rw [hsm.tape]; exact hF) (hEr.same (Same.drew [] wr) (by simp) (by simp)) (hrd.same (Same.drew [] wr) (by simp)) hIT hI0
      obtain ⟨cR, cR1, cR2, cRf⟩ := rcells97 hRr
      obtain ⟨rv, ev, hIr, _⟩ := hrd
      have hret : ∀ e w2, BlockSaid I T N cap f ee (bSt f N (cntS f N 256 s) k) wr.drew e w2 → ∃ q, e = .returned (.pointer (some ⟨q, 0, none⟩)) ∧ (BlkAt w2 T q (blk f N (bSt f N (cntS f N 256 s) k)) ∧ Rd I T N cap ee (blkS f N (bSt f N (cntS f N 256 s) k)) w2 ∧ Same [I] wr w2) := by
        intro e w2 h
        obtain ⟨q, rfl, h1, h2, h3, h4⟩ := h
        exact ⟨q, rfl, h2, h3, (Same.drew _ _).trans h4⟩
      have hnn : ps.length ≤ 1000 := by rw [hH.bl.1, bList_length]; omega
      have hmid : ∀ (e : Ending) (w2 : World) (q : Nat), (BlkAt w2 T q (blk f N (bSt f N (cntS f N 256 s) k)) ∧ Rd I T N cap ee (blkS f N (bSt f N (cntS f N 256 s) k)) w2 ∧ Same [I] wr w2) → w2.cell? ⟨R, 0, none⟩ = some (.slice ga ps.length gc) ∧ w2.ownsRow W.heap.size 62 1 (.slice ga ps.length gc) ps.length (ps.map fun p => .pointer (some ⟨p, 0, none⟩)) ∧ (w2.alloc (.cells #[.pointer (some ⟨q, 0, none⟩)] 62)).cell? ⟨R, 0, none⟩ = some (.slice ga ps.length gc) ∧ W.heap.size ≤ w2.heap.size := by
        rintro e w2 q ⟨h2, h3, h4⟩
        have h6 := (h4.block R (Array.getElem?_eq_some_iff.1 hRr).1 (by simp; omega)).trans hRr
        have h7 := ((Same.alloc [] w2 (.cells #[.pointer (some ⟨q, 0, none⟩)] 62)).block R (Array.getElem?_eq_some_iff.1 h6).1 (by simp)).trans h6
        exact ⟨(rcells97 h6).1, own_same' hH.row h4 (apart_one hIr (by omega)), (rcells97 h7).1, Nat.le_trans hsm.size h4.size⟩
      have HK : Hid (k < c ∧ k ≤ 256) := ⟨hlt, by omega⟩
      have hkc : k + 1 ≤ c := by omega
      go_upto_region 3 with fail
      refine push3 I R W.heap.size ps.length gc ga (ps.map fun p => .pointer (some ⟨p, 0, none⟩)) wr _ (fun _ w2 q => BlkAt w2 T q (blk f N (bSt f N (cntS f N 256 s) k)) ∧ Rd I T N cap ee (blkS f N (bSt f N (cntS f N 256 s) k)) w2 ∧ Same [I] wr w2) _ cR hsm.size hnn hcall hret hmid (fun _ _ d _ _ h => by cases d <;> exact h) _ _ _ _ _ _ _ _ _ _ _ _ _ _ _ _ _ _ _ _ _ _ _ _ _ _ _ _ _ _ _ _ _ _ _ _ _ _ _ _ _ _ _ _ _ _ _ _ _ _ _ _ _ _ _ _ _ _ _ _ _ _ _ _ _ _ _ _ _ _ ?_
      rintro e w2 w3 q gb gd ⟨h2, h3, h4⟩ hown' hgrow
      obtain ⟨rv2, ev2, hI2, hI2'⟩ := h3
      obtain ⟨m1, m2, m3, m4, m5, m6⟩ := rep_pushB (nt := none) hRr hH rfl hnv (.inl rfl) hIr hIR h2 h4 hown' hgrow (Nat.le_refl _) hsm hI2
      refine ⟨m1, m2, fun y0 y1 y2 y3 y4 y5 y6 y7 y8 y9 y10 => ?_⟩
      have hrel2 : BRel I R T N cap f ee s W (.int .i64 ((k + 1 : Nat) : Int)) _ := ⟨k + 1, rfl, by rw [ec]; exact hkc, m3, ⟨rv2, ev2, m4.trans hI2, hI2'.errs m6⟩, m5⟩
      clear hcall hret hmid hEr m1 m2 m3 m4 m5 m6 hown' hgrow h2 h4 hI2 hI2' hIr hRr hH hnv cR cR1 cR2 cRf
      go_wp2
      go_roundw
      case rel =>
        rw [show ((k + 1 : Nat) : Int) = (k : Int) + 1 by omega] at hrel2
        first | exact hrel2 | ((repeat apply Exists.intro); exact ⟨hrel2, rfl⟩)
      case measure =>
        have := HK.out
        simp [intOf]
        omega
    · have hkc : k = c := by omega
      subst hkc
      have i1 : ¬ (k : Int) < (k : Int) := by omega
      have HE : Hid (cnt f N 256 s = k) := ec
      have hEr := hE.same hsm (by simp; omega) (by simp; omega)
      obtain ⟨bs, ebs⟩ : ∃ bs, bList f N (cntS f N 256 s) k = bs := ⟨_, rfl⟩
      obtain ⟨s1, es1⟩ : ∃ s1, bSt f N (cntS f N 256 s) k = s1 := ⟨_, rfl⟩
      rw [ebs] at hH
      rw [es1] at hrd
      have hct2 := count_any F I T N cap 2 f ee { data := #[102, 105, 110, 97, 108, 105, 122, 97, 116, 105, 111, 110, 115] } s1 wr (by rw [hsm.tape]; exact hF) hEr hrd hIT (by omega)
      obtain ⟨rvr, evr, hIr, _⟩ := hrd
      clear ec hst hlt hk hc256 hcI
      go_wp2_with (go_at_call 18; refine hct2.mono ?_; rintro e w2 ⟨rfl, r2, hs2⟩)
      have hst2 : FRel I R T N cap f ee bs s1 W (.int .i64 0) w2 := ⟨0, rfl, Nat.zero_le _, ⟨ga, gc, ps, ga0, gc0, qs, nv, (hs2.block R (Array.getElem?_eq_some_iff.1 hRr).1 (by simp; omega)).trans hRr, hH.same hs2 (fun t ht => apart_one hIr (by omega)), hnv⟩, r2, hsm.trans (hs2.more (by simp))⟩
      obtain ⟨c2, ec2⟩ : ∃ c2, cnt f N 2 s1 = c2 := ⟨_, rfl⟩
      have hc2' : c2 ≤ 2 := by rw [← ec2]; exact cnt_le _ _ _ _
      rw [ec2]
      have hc2I : (c2 : Int) ≤ 2 := by omega
      have HK1 : Hid (bList f N (cntS f N 256 s) k = bs ∧ bSt f N (cntS f N 256 s) k = s1 ∧ cnt f N 256 s = k) := ⟨ebs, es1, HE.out⟩
      obtain ⟨k0, hk0⟩ : ∃ k0, k0 = k := ⟨_, rfl⟩
      subst hk0
      clear hct2 r2 hs2 hRr hH hnv hIr hsm hEr HE ebs es1 i1
      go_loopw [25] (fun i wr => FRel I R T N cap f ee bs s1 W i wr) (fun i _ => c2 - (intOf i).toNat)
      case atStart => exact hst2
      case round =>
        obtain ⟨k, rfl, hk, hrep, hrd, hsm⟩ := hrel
        obtain ⟨ga, gc, ps, ga0, gc0, qs, nv, hRr, hH, hnv⟩ := hrep
        rw [ec2] at hk
        by_cases hlt : k < c2
        · have i1 : (k : Int) < (c2 : Int) := by omega
          have hEr := hE.same hsm (by simp; omega) (by simp; omega)
          have hcall := fin_any F I T N cap f ee _ wr.drew (by show F.answers wr.tape; rw [hsm.tape]; exact hF) (hEr.same (Same.drew [] wr) (by simp) (by simp)) (hrd.same (Same.drew [] wr) (by simp)) hIT hI0
          obtain ⟨cR, cR1, cR2, cRf⟩ := rcells97 hRr
          obtain ⟨rv, ev, hIr, _⟩ := hrd
          have hret : ∀ e w2, FinSaid I T N cap f ee (fSt f N (cntS f N 2 s1) k) wr.drew e w2 → ∃ q, e = .returned (.pointer (some ⟨q, 0, none⟩)) ∧ (CertX w2 141 147 T (fun _ => 64) q (certOf f N (fSt f N (cntS f N 2 s1) k)) ∧ Rd I T N cap ee (certS f N (fSt f N (cntS f N 2 s1) k)) w2 ∧ Same [I] wr w2) := by
            intro e w2 h
            obtain ⟨q, B2, rfl, h1, hB2, ⟨xa, xc, h2, h2b⟩, h3, h4⟩ := h
            exact ⟨q, rfl, ⟨xa, xc, h2, own_base h2b (Nat.zero_le _)⟩, h3, (Same.drew _ _).trans h4⟩
          have hnn : qs.length ≤ 1000 := by rw [hH.ct.1, fList_length]; omega
          have hmid : ∀ (e : Ending) (w2 : World) (q : Nat), (CertX w2 141 147 T (fun _ => 64) q (certOf f N (fSt f N (cntS f N 2 s1) k)) ∧ Rd I T N cap ee (certS f N (fSt f N (cntS f N 2 s1) k)) w2 ∧ Same [I] wr w2) → w2.cell? ⟨R, 1, none⟩ = some (.slice ga0 qs.length gc0) ∧ w2.ownsRow W.heap.size 123 1 (.slice ga0 qs.length gc0) qs.length (qs.map fun p => .pointer (some ⟨p, 0, none⟩)) ∧ (w2.alloc (.cells #[.pointer (some ⟨q, 0, none⟩)] 123)).cell? ⟨R, 1, none⟩ = some (.slice ga0 qs.length gc0) ∧ W.heap.size ≤ w2.heap.size := by
            rintro e w2 q ⟨h2, h3, h4⟩
            have h6 := (h4.block R (Array.getElem?_eq_some_iff.1 hRr).1 (by simp; omega)).trans hRr
            have h7 := ((Same.alloc [] w2 (.cells #[.pointer (some ⟨q, 0, none⟩)] 123)).block R (Array.getElem?_eq_some_iff.1 h6).1 (by simp)).trans h6
            exact ⟨(rcells97 h6).2.1, own_same' hH.row2 h4 (apart_one hIr (by omega)), (rcells97 h7).2.1, Nat.le_trans hsm.size h4.size⟩
          have HK : Hid (k < c2 ∧ k ≤ 256) := ⟨hlt, by omega⟩
          have hkc : k + 1 ≤ c2 := by omega
          go_upto_region 7 with fail
          refine push7 I R W.heap.size qs.length gc0 ga0 (qs.map fun p => .pointer (some ⟨p, 0, none⟩)) wr _ (fun _ w2 q => CertX w2 141 147 T (fun _ => 64) q (certOf f N (fSt f N (cntS f N 2 s1) k)) ∧ Rd I T N cap ee (certS f N (fSt f N (cntS f N 2 s1) k)) w2 ∧ Same [I] wr w2) _ cR1 hsm.size hnn hcall hret hmid (fun _ _ d _ _ h => by cases d <;> exact h) _ _ _ _ _ _ _ _ _ _ _ _ _ _ _ _ _ _ _ _ _ _ _ _ _ _ _ _ _ _ _ _ _ _ _ _ _ _ _ _ _ _ _ _ _ _ _ _ _ _ _ _ _ _ _ _ _ _ _ _ _ _ _ _ _ _ _ _ _ _ ?_
          rintro e w2 w3 q gb gd ⟨h2, h3, h4⟩ hown' hgrow
          obtain ⟨rv2, ev2, hI2, hI2'⟩ := h3
          obtain ⟨m1, m2, m3, m4, m5, m6⟩ := rep_pushF (nt := none) hRr hH rfl hnv (.inl rfl) hIr hIR h2 h4 hown' hgrow (Nat.le_refl _) hsm hI2
          refine ⟨m1, m2, fun y0 y1 y2 y3 y4 y5 y6 y7 y8 y9 y10 => ?_⟩
          have hrel2 : FRel I R T N cap f ee bs s1 W (.int .i64 ((k + 1 : Nat) : Int)) _ := ⟨k + 1, rfl, by rw [ec2]; exact hkc, m3, ⟨rv2, ev2, m4.trans hI2, hI2'.errs m6⟩, m5⟩
          clear hcall hret hmid hEr m1 m2 m3 m4 m5 m6 hown' hgrow h2 h4 hI2 hI2' hIr hRr hH hnv cR cR1 cR2 cRf
          go_wp2
          go_roundw
          case rel =>
            rw [show ((k + 1 : Nat) : Int) = (k : Int) + 1 by omega] at hrel2
            first | exact hrel2 | ((repeat apply Exists.intro); exact ⟨hrel2, rfl⟩)
          case measure =>
            have := HK.out
            simp [intOf]
            omega
        · have hkc : k = c2 := by omega
          subst hkc
          have i1 : ¬ (k : Int) < (k : Int) := by omega
          have hEr := hE.same hsm (by simp; omega) (by simp; omega)
          obtain ⟨cs, ecs'⟩ : ∃ cs, fList f N (cntS f N 2 s1) k = cs := ⟨_, rfl⟩
          obtain ⟨s2, es2⟩ : ∃ s2, fSt f N (cntS f N 2 s1) k = s2 := ⟨_, rfl⟩
          rw [ecs'] at hH
          rw [es2] at hrd
          have hP1 : prS1 f N s = s1 := by unfold prS1; rw [HK1.out.2.2]; exact HK1.out.2.1
          have hP2 : prS2 f N s = s2 := by unfold prS2; rw [hP1, ec2]; exact es2
          have hbs : (parse f N s).bs = bs := by show bList f N (cntS f N 256 s) (cnt f N 256 s) = bs; rw [HK1.out.2.2]; exact HK1.out.1
          have hcs : (parse f N s).cs = cs := by show fList f N (cntS f N 2 (prS1 f N s)) (cnt f N 2 (prS1 f N s)) = cs; rw [hP1, ec2]; exact ecs'
          have hnt : (parse f N s).nt = if Ok N 1 s2 ∧ f s2.p = 1 then some (certOf f N (tk N 1 s2)) else none := by show (if Ok N 1 (prS2 f N s) ∧ f (prS2 f N s).p = 1 then some (certOf f N (tk N 1 (prS2 f N s))) else none) = _; rw [hP2]
          have hps : (parse f N s).st = if Ok N 1 s2 then (if f s2.p = 1 then certS f N (tk N 1 s2) else if f s2.p = 0 then tk N 1 s2 else oth (tk N 1 s2)) else tk N 1 s2 := by
            show (if Ok N 1 (prS2 f N s) then _ else _) = _
            rw [hP2]
          have htk := rtake I T N cap 1 ee s2 wr hrd (by omega) (by omega) hE.hN hE.hN2 hEr.g0
          have hrd0 := hrd
          obtain ⟨rvr, evr, hIr, _⟩ := hrd0
          clear ec2 hst2 hlt hk hc2' hc2I hP1 hP2 ecs' es2
          have fin : ∀ w9 : World, RepAt w9 R T W.heap.size (fun _ => 64) bs cs (parse f N s).nt → Rd I T N cap ee (parse f N s).st w9 → Same [I, R] W w9 → ReplySaid I R T N cap f ee s W (.returned (.tuple #[])) w9 := fun w9 h1 h2 h3 => ⟨rfl, by rw [hbs, hcs]; exact h1, h2, h3⟩
          have hq1 := fun X : World => Go.Lib.run_eql_slice_nil (P := Ybaf.prog) X 33 5 (some ⟨T, s2.p, none⟩) 1 1 0 0 Ybaf.underlying33
          have hq0 := fun X : World => Go.Lib.run_eql_slice_nil (P := Ybaf.prog) X 33 5 none 0 0 0 0 Ybaf.underlying33
          by_cases hok : Ok N 1 s2
          · have hV : tkV T N 1 1 s2 = .slice (some ⟨T, s2.p, none⟩) 1 1 := by unfold tkV; rw [if_pos hok]
            rw [hV] at htk
            simp only [if_pos hok] at hps
            have hcell := hEr.row.cell (i := s2.p) (by have := hok.2; omega)
            have hf256 := hE.hf s2.p
            by_cases hf1 : f s2.p = 1
            · simp only [if_pos hf1] at hps
              rw [if_pos ⟨hok, hf1⟩] at hnt
              rw [hnt, hps] at fin
              rw [hf1] at hcell
              clear hV hbs hcs hnt hps
              go_upto_region 12 with (go_at_call 21; refine htk.mono ?_; rintro e w3 ⟨rfl, r3, hs3⟩; have hc3 : w3.cell? ⟨T, s2.p, none⟩ = some (.int .u8 1) := (World.cell?_of_block (w := wr) (hs3.block T hEr.row.lt (by simp; omega))).trans hcell)
              have hR3 := (hs3.block R (Array.getElem?_eq_some_iff.1 hRr).1 (by simp; omega)).trans hRr
              have hH3 := hH.same hs3 (fun t ht => apart_one hIr (by omega))
              have hE3 := hEr.same hs3 hTI h0I
              obtain ⟨d0, d1, d2, df⟩ := rcells97 hR3
              have hsm3 : Same [I, R] W w3 := hsm.trans (hs3.more (by simp))
              have hRl3 := (Array.getElem?_eq_some_iff.1 hR3).1
              have hRn : ¬ R = w3.heap.size := by omega
              clear htk hRr hH hEr hs3 hIr hrd hsm
              go_upto_region 13 with fail
              rw [zero34]
              obtain ⟨nb, hnb⟩ : ∃ nb, w3.heap.size = nb := ⟨_, rfl⟩
              rw [hnb]
              obtain ⟨w4, hw4⟩ : ∃ w4, w3.setCell ⟨R, 2, none⟩ (.pointer (some ⟨nb, 0, none⟩)) = w4 := ⟨_, rfl⟩
              have hR4 : w4.heap[R]? = some (.cells #[.slice ga ps.length gc, .slice ga0 qs.length gc0, .pointer (some ⟨nb, 0, none⟩)] 97 (0, 0)) := by rw [← hw4]; exact r_set hR3 2 _
              have hs4 : Same [R] w3 w4 := by rw [← hw4]; exact Same.setCell _ _ _ _ (by simp)
              have hz4 : w4.heap.size = nb := by rw [← hw4, ← hnb]; simp [World.setCell]
              rw [hw4]
              obtain ⟨w5, hw5⟩ : ∃ w5, w4.alloc (.cells (C34 0 (fun _ => 0) (.slice none 0 0)) 128) = w5 := ⟨_, rfl⟩
              have hN5 : w5.heap[nb]? = some (.cells (C34 0 (fun _ => 0) (.slice none 0 0)) 128 (0, 0)) := by rw [← hw5, ← hz4]; exact heap_alloc_new w4 _
              have hs5 : Same [] w4 w5 := by rw [← hw5]; exact Same.alloc _ _ _
              have hR5 := (hs5.block R (Array.getElem?_eq_some_iff.1 hR4).1 (by simp)).trans hR4
              rw [hw5]
              have hE5 := (hE3.same hs4 (by simp; omega) (by simp; omega)).same hs5 (by simp) (by simp)
              have hH5 := (hH3.same hs4 (fun t ht => apart_one hR3 (by omega))).same hs5 (fun t ht _ _ _ => by simp)
              have r5 := (r3.same hs4 (by simp; omega) (apart_one hR3 (by omega))).same hs5 (by simp)
              have hsm5 : Same [I, R] W w5 := (hsm3.trans (hs4.more (by simp))).trans (hs5.more (by simp))
              have hI3l := r3.lt
              have hT3l := hE3.row.lt
              have h03l := World.block_lt_of_cell? w3 _ hE3.g0
              have hno := not_any F I nb T N cap f ee _ w5 (by rw [hsm5.tape]; exact hF) hE5 r5 hN5 hIT hI0 (by omega) (by omega) (by have : (0 : Nat) < w3.heap.size := h03l; omega)
              obtain ⟨d0', d1', d2', df'⟩ := rcells97 hR5
              have hr5' := r5
              obtain ⟨rv5, ev5, hI5, _⟩ := hr5'
              have HN : Hid (w3.heap.size = nb ∧ R < w3.heap.size) := ⟨hnb, hRl3⟩
              have hnW : W.heap.size ≤ nb := by rw [← hnb]; exact hsm3.size
              clear hw4 hw5 hnb hz4 hs4 hs5 hR4 hR3 hE3 hH3 r3 hsm3 d0 d1 d2 df hRl3 hRn hc3 r5 hE5
              go_wp2_with (go_at_call 22; refine hno.mono ?_; rintro e w6 ⟨B6, rfl, hB6, ⟨xa, xc, hx1, hx2⟩, r6, hs6⟩)
              go_end0
              have hR6 := (hs6.block R (Array.getElem?_eq_some_iff.1 hR5).1 (by have := HN.out; simp; omega)).trans hR5
              refine fin w6 ⟨ga, gc, ps, ga0, gc0, qs, _, hR6, hH5.same hs6 (fun t ht => (apart_one hI5 (by omega)).app (apart_one hN5 (by omega))), nb, rfl, xa, xc, hx1, own_base hx2 (Nat.zero_le _)⟩ r6 (hsm5.shed hs6 (by simp; omega))
            · rw [if_neg (fun h => hf1 h.2)] at hnt
              simp only [if_neg hf1] at hps
              have hnv' : NotAt wr T (fun _ => 64) nv none := hnv
              by_cases hf0 : f s2.p = 0
              · rw [if_pos hf0] at hps
                rw [hnt, hps] at fin
                rw [hf0] at hcell
                clear hV hbs hcs hnt hps
                go_wp2_with (go_at_call 21; refine htk.mono ?_; rintro e w3 ⟨rfl, r3, hs3⟩; have hc3 : w3.cell? ⟨T, s2.p, none⟩ = some (.int .u8 0) := (World.cell?_of_block (w := wr) (hs3.block T hEr.row.lt (by simp; omega))).trans hcell)
                go_end0
                exact fin w3 ⟨ga, gc, ps, ga0, gc0, qs, nv, (hs3.block R (Array.getElem?_eq_some_iff.1 hRr).1 (by simp; omega)).trans hRr, hH.same hs3 (fun t ht => apart_one hIr (by omega)), hnv⟩ r3 (hsm.trans (hs3.more (by simp)))
              · rw [if_neg hf0] at hps
                rw [hnt, hps] at fin
                obtain ⟨x, ex⟩ : ∃ x, f s2.p = x := ⟨_, rfl⟩
                rw [ex] at hcell hf1 hf0 hf256
                have j1 : ((x : Int) == 1) = false := beq_eq_false_iff_ne.2 (by omega)
                have j2 : ((x : Int) == 0) = false := beq_eq_false_iff_ne.2 (by omega)
                have j3 : ((x : Int) != 0) = true := by rw [bne_iff_ne]; omega
                clear hV hbs hcs hnt hps ex
                go_wp2_with (go_at_call 21; refine htk.mono ?_; rintro e w3 ⟨rfl, r3, hs3⟩; have hc3 : w3.cell? ⟨T, s2.p, none⟩ = some (.int .u8 (x : Int)) := (World.cell?_of_block (w := wr) (hs3.block T hEr.row.lt (by simp; omega))).trans hcell)
                refine (errorf1 F _ (x : Int) w3.heap.size _ (by show F.answers w3.tape; rw [hs3.tape, hsm.tape]; exact hF) ?_ ?_).mono ?_
                · intro _; kernel_rfl
                · simp [go_sem]
                rintro e w4 ⟨a, rfl, ha, hb4, hc4⟩
                have hs4 : Same [] w3 w4 := (Same.alloc _ _ _).trans (Below.same hb4 _ (Nat.le_refl _))
                have hfl := fail_oth I T N cap ee a (tk N 1 s2) w4 (r3.same hs4 (by simp)) (fun e => by have := hEr.lt; have := hs3.size; have := congrArg Addr.block e; simp at ha; omega) hc4
                go_wp2_with (go_at_call 23; refine hfl.mono ?_; rintro e w5 ⟨rfl, r5, hs5⟩)
                go_end0
                have hs35 : Same [I] wr w5 := (hs3.trans (hs4.more (by simp))).trans hs5
                exact fin w5 ⟨ga, gc, ps, ga0, gc0, qs, nv, (hs35.block R (Array.getElem?_eq_some_iff.1 hRr).1 (by simp; omega)).trans hRr, hH.same hs35 (fun t ht => apart_one hIr (by omega)), hnv⟩ r5 (hsm.trans (hs35.more (by simp)))
          · have hV : tkV T N 1 1 s2 = .slice none 0 0 := by unfold tkV; rw [if_neg hok]
            rw [hV] at htk
            rw [if_neg (fun h => hok h.1)] at hnt
            rw [if_neg hok] at hps
            rw [hnt, hps] at fin
            clear hV hok hbs hcs hnt hps
            go_wp2_with (go_at_call 21; refine htk.mono ?_; rintro e w3 ⟨rfl, r3, hs3⟩)
            go_end0
            exact fin w3 ⟨ga, gc, ps, ga0, gc0, qs, nv, (hs3.block R (Array.getElem?_eq_some_iff.1 hRr).1 (by simp; omega)).trans hRr, hH.same hs3 (fun t ht => apart_one hIr (by omega)), hnv⟩ r3 (hsm.trans (hs3.more (by simp)))
end Go.Proofs.YbulkdlruFmt
