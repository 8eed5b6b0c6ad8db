/-
  (*bufio.Reader).Read of seven bytes, whole.
-/
import Derived.Test.YbulkdlswDoorH
namespace Go.Proofs.YbulkdlswDoor
open Go.RowKit Go.Shelf

/-- The reader with something in its buffer, the caller's seven bytes as they were. -/
def LiveB (R S U V bl n tc nc cc : Nat) (ta ca : Option Addr) (fail : Bool) (fe : Addr) (ft fV : Nat → Nat) (at' : Nat) (W wr : World) : Prop :=
  ∃ (r w pos k : Nat) (fU : Nat → Nat) (lb lr : Int), r < w ∧ w ≤ bl ∧ pos ≤ n ∧ k ≤ pos ∧ at' + (w - r) = pos ∧ wr.heap[R]? = some (.cells (RB U bl (.iface 27 (.pointer (some ⟨S, 0, none⟩))) r w .nilIface lb lr) 47 (0, 0)) ∧
    wr.heap[S]? = some (.cells (SB ta n tc pos ca nc cc k fail fe) 29 (0, 0)) ∧ Row wr U bl fU ∧ (∀ i, r ≤ i → i < w → fU i = ft (at' + (i - r))) ∧ Row wr V 7 fV ∧ Same [R, S, U, V] W wr

/-- What Read comes to. -/
def ReadSaid (R S U V bl n tc nc cc : Nat) (ta ca : Option Addr) (fail : Bool) (fe va : Addr) (ft fV : Nat → Nat) (at' : Nat) (W : World) (e : Ending) (w' : World) : Prop :=
  Same [R, S, U, V] W w' ∧ ((∃ c : Nat, e = .returned (.tuple #[.int .i64 (c : Int), .nilIface]) ∧ 1 ≤ c ∧ c ≤ 7 ∧ at' + c ≤ n ∧ Live R S U bl n tc nc cc ta ca fail fe ft (at' + c) w' ∧ Row w' V 7 (fun i => if i < c then ft (at' + i) else fV i)) ∨
    (at' = n ∧ e = .returned (.tuple #[.int .i64 0, .iface 37 (.pointer (some va))]) ∧ Row w' V 7 fV))

/-- The source's Read over the whole buffer. -/
theorem src_some (S n tc pos nc cc k U bl : Nat) (ta ca : Option Addr) (fail : Bool) (fe : Addr) (ft fU fc : Nat → Nat) (W : World) (h : W.heap[S]? = some (.cells (SB ta n tc pos ca nc cc k fail fe) 29 (0, 0)))
    (hpos : pos < n) (hn : n ≤ 3000000) (hk : k ≤ 4000000) (hb16 : 16 ≤ bl) (hbl : (bl : Int) ≤ 70000) (hnt : n ≤ tc) (hT : TextAt W ta n ft [S, U]) (hU : Row W U bl fU) (hc : Bytes W ca nc fc) (hfc : ∀ i, fc i < 256) (hnc : nc ≤ 4000000) (hcS : ∀ p, ca = some p → p.block ≠ S ∧ p.block ≠ U) (hSU : S ≠ U) :
    Calls Ybad.prog 32 #[.pointer (some ⟨S, 0, none⟩), .slice (some ⟨U, 0, none⟩) bl bl] W fun e w' => ∃ c k' : Nat, e = .returned (.tuple #[.int .i64 (c : Int), .nilIface]) ∧ 1 ≤ c ∧ c ≤ bl ∧ pos + c ≤ n ∧ k' ≤ k + 1 ∧ w'.heap[S]? = some (.cells (SB ta n tc (pos + c : Nat) ca nc cc k' fail fe) 29 (0, 0)) ∧
      Row w' U bl (fun i => if 0 ≤ i ∧ i < 0 + c then ft (pos + (i - 0)) else fU i) ∧ Same [S, U] W w' := by
  rcases hT with hT | ⟨T, rfl, hT, hx⟩
  · omega
  · simp only [List.mem_cons, List.not_mem_nil, or_false, not_or] at hx
    exact (sread_some S n tc pos nc cc k T U 0 bl bl bl ca fail fe ft fU fc W h hpos (by omega) hk (by omega) (by omega) (by omega) (by omega) hnt hT hU hc hfc hnc hcS (by omega) hSU (by omega)).mono (fun _ _ h => h)

set_option maxRecDepth 1000000 in
set_option maxHeartbeats 4000000 in
theorem read_any (R S U V bl n tc nc cc at' : Nat) (ta ca : Option Addr) (fail : Bool) (fe ea va : Addr) (ft fV fc : Nat → Nat) (W : World) (hL : Live R S U bl n tc nc cc ta ca fail fe ft at' W)
    (hva : (if fail = true then fe else ea) = va) (hg : W.cell? ⟨0, 0, none⟩ = some (.iface 37 (.pointer (some ea)))) (hb16 : 16 ≤ bl) (hbl : (bl : Int) ≤ 70000) (hn : n ≤ 3000000) (hnt : n ≤ tc) (hT : TextAt W ta n ft [R, S, U, V]) (hV : Row W V 7 fV) (hc : Bytes W ca nc fc) (hfc : ∀ i, fc i < 256) (hnc : nc ≤ 4000000)
    (hcS : ∀ p, ca = some p → p.block ≠ S ∧ p.block ≠ U) (hcR : ∀ p, ca = some p → p.block ≠ R) (hSU : S ≠ U) (hRS : R ≠ S) (hRU : R ≠ U) (hRV : R ≠ V) (hSV : S ≠ V) (hUV : U ≠ V) :
    Calls Ybad.prog 8 #[.pointer (some ⟨R, 0, none⟩), .slice (some ⟨V, 0, none⟩) 7 7] W (ReadSaid R S U V bl n tc nc cc ta ca fail fe va ft fV at' W) := by
  obtain ⟨r, w, pos, k, fU, lb, lr, hrw, hwb, hpn, hkp, hat, hR, hS, hU, hfU⟩ := hL
  obtain ⟨c0, c1, c2, c3, c4, c5, c6, cf⟩ := rcells hR
  have hb7 : ¬ (bl : Int) ≤ 7 := by omega
  have hb7' : decide ((bl : Int) ≤ 7) = false := decide_eq_false hb7
  have hme := readIs
  go_enter Ybad.func8, Ybad.ntmps8
  go_upto_if 23 with fail
  go_quiet (fail)
  obtain ⟨q0, hq0⟩ : ∃ q, nq = q := ⟨_, rfl⟩
  rw [hq0]
  clear hq0
  go_upto_if 23 with fail
  go_cut [4] (fun v wx => LiveB R S U V bl n tc nc cc ta ca fail fe ft fV at' W wx)
  case first =>
    by_cases hrw1 : r < w
    · have i1 : ((r : Int) == (w : Int)) = false := beq_eq_false_iff_ne.2 (by omega)
      have i2 : ¬ (r : Int) = (w : Int) := by omega
      have i3 : ¬ r = w := by omega
      have hl : LiveB R S U V bl n tc nc cc ta ca fail fe ft fV at' W (W.drewN q0) := ⟨r, w, pos, k, fU, lb, lr, hrw1, hwb, hpn, hkp, hat, hR, hS, hU, hfU, hV, Same.drewN _ _ _⟩
      clear hn hnc hfc hcS hc hR hS hU hfU hV hT
      go_wp2
      go_meet
      exact hl
    · have hrw2 : w = r := by omega
      subst hrw2
      have hat2 : at' = pos := by omega
      subst hat2
      clear hrw hrw1 hat hfU
      -- behind the two stores
      obtain ⟨W2, hW2⟩ : ∃ W2, ((W.drewN q0).setCell ⟨R, 2, none⟩ (.int .i64 0)).setCell ⟨R, 3, none⟩ (.int .i64 0) = W2 := ⟨_, rfl⟩
      have hR2 : W2.heap[R]? = some (.cells (RB U bl (.iface 27 (.pointer (some ⟨S, 0, none⟩))) 0 0 .nilIface lb lr) 47 (0, 0)) := by rw [← hW2]; exact rb_set (rb_set (W := W.drewN q0) hR 2 _) 3 _
      have hs2 : Same [R] W W2 := by rw [← hW2]; exact ((Same.drewN _ _ _).trans (Same.setCell _ _ _ _ (by simp))).trans (Same.setCell _ _ _ _ (by simp))
      have hS2 := (hs2.block S (World.block_lt_of_cell? W _ (scells hS).1) (by simp; omega)).trans hS
      have hU2 := hU.same hs2 (by simp; omega)
      have hV2 := hV.same hs2 (by simp; omega)
      have HC : Hid (w ≤ bl ∧ at' ≤ n ∧ k ≤ at') := ⟨hwb, hpn, hkp⟩
      by_cases hend : at' = n
      · have hg2 : ∀ q, (W2.drewN q).cell? ⟨0, 0, none⟩ = some (.iface 37 (.pointer (some ea))) := fun q => by
          by_cases h0 : 0 = R
          · subst h0
            have hg' : W.cell? ⟨0, 0, none⟩ = some (.slice (some ⟨U, 0, none⟩) bl bl) := c0
            rw [hg] at hg'
            injection hg' with hg'
            injection hg'
          · exact (World.cell?_of_block (w := W) (hs2.block 0 (World.block_lt_of_cell? W _ hg) (by simp; omega))).trans hg
        have hrd := fun q => sread_end S n tc nc cc k bl bl ta ca (some ⟨U, 0, none⟩) fail fe ea (W2.drewN q) (by rw [hend] at hS2; exact hS2) (hg2 q)
        rw [hva] at hrd
        have hre := fun q => readErr_any R (.iface 37 (.pointer (some va))) ((W2.drewN q).setCell ⟨R, 4, none⟩ (.iface 37 (.pointer (some va)))) (rcells (rb_set (W := W2.drewN q) hR2 4 (.iface 37 (.pointer (some va))))).2.2.2.2.1 ((rcells (rb_set (W := W2.drewN q) hR2 4 (.iface 37 (.pointer (some va))))).2.2.2.2.2.2.2 4)
        have HEND : Hid (at' = n) := hend
        clear hn hnc hfc hcS hc hT hg2 hva hg hend hwb hpn hkp hU hV hS hS2 hU2 hR
        have hW2' := hW2
        go_upto_region 19 with fail
        (try rw [hW2])
        clear c0 c1 c2 c3 c4 c5 c6 cf hW2 hW2'
        obtain ⟨c0, c1, c2, c3, c4, c5, c6, cf⟩ := rcells hR2
        go_region_with (go_at_call 32; refine (hrd _).mono ?_; rintro e w1 ⟨rfl, q, rfl⟩)
        all_goals
          go_wp2_with fail
          refine (hre _).mono ?_
          rintro e w1 ⟨rfl, hw1⟩
          have hs9 : Same [R, S, U, V] W w1 := by
            rw [hw1]
            exact (((hs2.more (by simp)).trans (Same.drewN _ _ _)).trans (Same.setCell _ _ _ _ (by simp))).trans (Same.setCell _ _ _ _ (by simp))
          have hV9 : Row w1 V 7 fV := by
            rw [hw1]
            exact (hV2.block (Below.heap_setCell (W2.drewN _) _ _ _ (by show V ≠ R; omega))).block (Below.heap_setCell _ _ _ _ (by show V ≠ R; omega))
          clear hw1 hre hrd hs2 hV2 hR2
          go_wp2
          go_ret2
          exact ⟨hs9, .inr ⟨HEND.out, rfl, hV9⟩⟩
      · have hT2 : TextAt W2 ta n ft [S, U] := by
          rcases hT with hT | ⟨T, h1, h2, h3⟩
          · exact .inl hT
          · simp only [List.mem_cons, List.not_mem_nil, or_false, not_or] at h3
            exact .inr ⟨T, h1, h2.same hs2 (by simp; omega), by simp; omega⟩
        have hc2 : Bytes W2 ca nc fc := hc.same hs2 (fun p hp => by simp; exact hcR p hp)
        have hrd := fun q => src_some S n tc at' nc cc k U bl ta ca fail fe ft fU fc (W2.drewN q) hS2 (by omega) hn (by omega) hb16 hbl hnt hT2 hU2 hc2 hfc hnc hcS hSU
        clear hT2 hc2
        clear hn hnc hfc hcS hc hT hva hg hend hwb hpn hkp hU hV hS hU2 hR
        have hW2' := hW2
        go_upto_region 19 with fail
        (try rw [hW2])
        clear c0 c1 c2 c3 c4 c5 c6 cf hW2 hW2'
        obtain ⟨c0, c1, c2, c3, c4, c5, c6, cf⟩ := rcells hR2
        go_region_with (go_at_call 32; refine (hrd _).mono ?_; rintro e w1 ⟨c, k', rfl, h1, h2, h3, h4, hS1, hU1, hsm⟩; have hR1 := (hsm.block R (World.block_lt_of_cell? W2 _ c0) (by simp; omega)).trans hR2; have hV1 := (show Row (W2.drewN _) V 7 fV from hV2).same hsm (by simp; omega); obtain ⟨d0, d1, d2, d3, d4, d5, d6, df⟩ := rcells hR1; have j1 : (1 : Int) ≤ (c : Int) := (by omega); have j2 : (c : Int) ≤ (bl : Int) := (by omega))
        all_goals
          go_wp2
          go_meet
          have hk := HC.out
          have hne : ∀ X : Nat, X ≠ R → ((w1.setCell ⟨R, 4, none⟩ .nilIface).setCell ⟨R, 3, none⟩ (.int .i64 (c : Int))).heap[X]? = w1.heap[X]? := fun X hX => (Below.heap_setCell _ _ _ _ (by show X ≠ R; exact hX)).trans (Below.heap_setCell _ _ _ _ (by show X ≠ R; exact hX))
          refine ⟨0, c, at' + c, k', _, lb, lr, by omega, h2, h3, by omega, by omega, rb_set (rb_set hR1 4 .nilIface) 3 (.int .i64 (c : Int)), (hne S (by omega)).trans hS1, hU1.block (hne U (by omega)), fun i hi1 hi2 => ?_, hV1.block (hne V (by omega)), ?_⟩
          · show (if 0 ≤ i ∧ i < 0 + c then ft (at' + (i - 0)) else fU i) = _
            rw [if_pos (by omega)]
          · exact (((hs2.more (by simp)).trans (Same.drewN _ _ _)).trans (hsm.more (by simp))).trans ((Same.setCell _ _ _ _ (by simp)).trans (Same.setCell _ _ _ _ (by simp)))
  case rest =>
    obtain ⟨r, w, pos, k, fU, lb, lr, hrw, hwb, hpn, hkp, hat, hR, hS, hU, hfU, hV, hsm⟩ := hcut
    rename_i K hK
    refine hK _ _ ?_
    refine buf25 R U V bl r w _ lb lr fU fV wc _ hR hrw hwb hbl hU hV hRU hRV hUV ?_ _ _ _ _ _ _ _ _ _ _ _ _ _ _ _ _ _ _ _ _ _ _ _ _ _ _ _ _ _ _ _ _ _ _ _ _ _ _ _ _ _ _ _ _ _ _ _ _ _ _ _ _ _ _ _ _ _ _ _ _ _ _ _ _ _ _ _ _ _ _ _ _ _ _ _ _ _ _ _ _ _ _ _ _ _ _ _ _ _ _ _ _ _ _ _ _ _ _ _ _ _ _ _ _ _ _ _ _ _ _ _ _ _ _ _ _ _ _ _ _ _ _ _ _ _ _ _ _ _ _ _ _ _ _ _ _ _ _ _ _ _ _ _ _ _ _ _ _ _
    rintro e w' ⟨c, lb', rfl, h1, h2, h3, hR', hV', hs'⟩
    refine ⟨hsm.trans (hs'.more (by simp)), .inl ⟨c, rfl, h1, h2, by omega, ?_, ?_⟩⟩
    · exact ⟨r + c, w, pos, k, fU, lb', -1, by omega, hwb, hpn, hkp, by omega, hR', (hs'.block S (World.block_lt_of_cell? wc _ (scells hS).1) (by simp; omega)).trans hS, hU.same hs' (by simp; omega), fun i h1 h2 => by rw [hfU i (by omega) h2]; congr 1; omega⟩
    · refine hV'.congr (fun i hi => ?_)
      by_cases hic : i < c
      · rw [if_pos hic, if_pos (show 0 ≤ i ∧ i < 0 + c by omega), hfU (r + (i - 0)) (by omega) (by omega)]
        congr 1
        omega
      · rw [if_neg hic, if_neg (show ¬ (0 ≤ i ∧ i < 0 + c) by omega)]
end Go.Proofs.YbulkdlswDoor
