/-
  (*bufio.Reader).Peek, of a fresh reader, for three bytes.
-/
import Derived.Test.YbulkdlswDoorD
namespace Go.Proofs.YbulkdlswDoor
open Go.RowKit Go.Shelf

/-- The text lies in a row of its own, none of these blocks; or it is empty. -/
def TextAt (W : World) (ta : Option Addr) (n : Nat) (ft : Nat → Nat) (ex : List Nat) : Prop := n = 0 ∨ ∃ T, ta = some ⟨T, 0, none⟩ ∧ Row W T n ft ∧ T ∉ ex
theorem TextAt.same {W W' : World} {ta : Option Addr} {n : Nat} {ft : Nat → Nat} {ex ex' : List Nat} (h : TextAt W ta n ft ex) (hs : Same ex' W W') (hx : ∀ k ∈ ex', k ∈ ex) : TextAt W' ta n ft ex := by
  rcases h with h | ⟨T, h1, h2, h3⟩
  · exact .inl h
  · exact .inr ⟨T, h1, h2.same hs (fun hm => h3 (hx _ hm)), h3⟩

/-- The reader's state while Peek fills: w bytes of the text are in the buffer; er: nothing yet, or the source's end. -/
def Fresh (R S U bl n tc nc cc : Nat) (ta ca : Option Addr) (fail : Bool) (fe va : Addr) (lb lr : Int) (ft : Nat → Nat) (W : World) (w : Nat) (er : Value) (wr : World) : Prop :=
  ∃ (k : Nat) (fU : Nat → Nat), w ≤ n ∧ w ≤ bl ∧ k ≤ w ∧ (er = .nilIface ∨ (er = .iface 37 (.pointer (some va)) ∧ w = n ∧ n < 3)) ∧ wr.heap[R]? = some (.cells (RB U bl (.iface 27 (.pointer (some ⟨S, 0, none⟩))) 0 w er lb lr) 47 (0, 0)) ∧
    wr.heap[S]? = some (.cells (SB ta n tc w ca nc cc k fail fe) 29 (0, 0)) ∧ Row wr U bl fU ∧ (∀ i, i < w → fU i = ft i) ∧ Same [R, S, U] W wr

/-- A measure on the world: how much may still be wanted. -/
def peekM (R : Nat) (wr : World) : Nat :=
  match wr.cell? ⟨R, 3, none⟩, wr.cell? ⟨R, 4, none⟩ with
  | some (.int _ x), some .nilIface => 6 - x.toNat
  | _, _ => 0

/-- What Peek hands back. -/
def PeekSaid (R S U bl n tc nc cc : Nat) (ta ca : Option Addr) (fail : Bool) (fe va : Addr) (ft : Nat → Nat) (W : World) (e : Ending) (w' : World) : Prop :=
  ∃ (w m : Nat) (ev : Value), e = .returned (.tuple #[.slice (some ⟨U, 0, none⟩) m bl, ev]) ∧ ((3 ≤ w ∧ m = 3) ∨ (w = n ∧ n < 3 ∧ m = n)) ∧ Fresh R S U bl n tc nc cc ta ca fail fe va (-1) (-1) ft W w .nilIface w'

set_option maxRecDepth 100000 in
set_option maxHeartbeats 2000000 in
theorem peek_any (R S U bl n tc nc cc : Nat) (ta ca : Option Addr) (fail : Bool) (fe ea va : Addr) (lb lr : Int) (ft fU fc : Nat → Nat) (W : World) (hR : W.heap[R]? = some (.cells (RB U bl (.iface 27 (.pointer (some ⟨S, 0, none⟩))) 0 0 .nilIface lb lr) 47 (0, 0)))
    (hS : W.heap[S]? = some (.cells (SB ta n tc 0 ca nc cc 0 fail fe) 29 (0, 0))) (hva : (if fail = true then fe else ea) = va) (hg : W.cell? ⟨0, 0, none⟩ = some (.iface 37 (.pointer (some ea)))) (h0 : 0 ≠ R ∧ 0 ≠ S ∧ 0 ≠ U) (hb16 : 16 ≤ bl) (hbl : (bl : Int) ≤ 70000) (hn : n ≤ 3000000) (hnt : n ≤ tc) (hT : TextAt W ta n ft [R, S, U]) (hU : Row W U bl fU) (hc : Bytes W ca nc fc) (hfc : ∀ i, fc i < 256) (hnc : nc ≤ 4000000)
    (hcS : ∀ p, ca = some p → p.block ≠ S ∧ p.block ≠ U ∧ p.block ≠ R) (hSU : S ≠ U) (hRS : R ≠ S) (hRU : R ≠ U) :
    Calls Ybad.prog 11 #[.pointer (some ⟨R, 0, none⟩), .int .i64 3] W (PeekSaid R S U bl n tc nc cc ta ca fail fe va ft W) := by
  obtain ⟨c0, c1, c2, c3, c4, c5, c6, cf⟩ := rcells hR
  have hR1 := rb_set hR 5 (.int .i64 (-1))
  have hR2 : ((W.setCell ⟨R, 5, none⟩ (.int .i64 (-1))).setCell ⟨R, 6, none⟩ (.int .i64 (-1))).heap[R]? = some (.cells (RB U bl (.iface 27 (.pointer (some ⟨S, 0, none⟩))) 0 (0 : Nat) .nilIface (-1) (-1)) 47 (0, 0)) := rb_set hR1 6 (.int .i64 (-1))
  have hS0 : Same [R, S, U] W ((W.setCell ⟨R, 5, none⟩ (.int .i64 (-1))).setCell ⟨R, 6, none⟩ (.int .i64 (-1))) := (Same.setCell _ _ _ _ (by simp)).trans (Same.setCell _ _ _ _ (by simp))
  have hfresh : Fresh R S U bl n tc nc cc ta ca fail fe va (-1) (-1) ft W 0 .nilIface ((W.setCell ⟨R, 5, none⟩ (.int .i64 (-1))).setCell ⟨R, 6, none⟩ (.int .i64 (-1))) :=
    ⟨0, fU, Nat.zero_le _, Nat.zero_le _, Nat.le_refl _, .inl rfl, hR2, ((Below.heap_setCell _ _ _ _ (by show S ≠ R; omega)).trans (Below.heap_setCell _ _ _ _ (by show S ≠ R; omega))).trans hS, (hU.block (Below.heap_setCell _ _ _ _ (by show U ≠ R; omega))).block (Below.heap_setCell _ _ _ _ (by show U ≠ R; omega)), (fun i hi => by omega), hS0⟩
  go_enter Ybad.func11, Ybad.ntmps11
  go_wp2
  clear hR1 hR2 hS0 c0 c1 c2 c3 c4 c5 c6 cf hS hR
  go_loopw [] (fun wr => ∃ (w : Nat) (er : Value), Fresh R S U bl n tc nc cc ta ca fail fe va (-1) (-1) ft W w er wr) (fun wr => peekM R wr)
  case atStart => exact ⟨0, .nilIface, hfresh⟩
  case round =>
    obtain ⟨w, er, k', fU', hwn, hwb, hkw, her, hR, hS, hU', hfU, hsm⟩ := hrel
    have hcr := hc.same hsm (fun p hp => by have := hcS p hp; simp; omega)
    have hgr : wr.cell? ⟨0, 0, none⟩ = some (.iface 37 (.pointer (some ea))) := (World.cell?_of_block (w := W) (hsm.block 0 (World.block_lt_of_cell? W _ hg) (by simp; omega))).trans hg
    obtain ⟨c0, c1, c2, c3, c4, c5, c6, cf⟩ := rcells hR
    have hbI : (3 : Int) ≤ (bl : Int) := by omega
    have hb0 : ¬ bl = 0 := by omega
    have hwI : (w : Int) ≤ 3000000 := by omega
    rcases her with rfl | ⟨rfl, hwn2, hn3⟩
    · by_cases hw3 : w < 3
      · have i1 : (w : Int) < 3 := by omega
        have i2 : (w : Int) < (bl : Int) := by omega
        have hm0 : peekM R wr = 6 - w := by unfold peekM; rw [c3, c4]; simp
        by_cases hend : w = n
        · have hfe := fun q => fill_end R S U bl n tc nc cc k' w ta ca fail fe ea (-1) (-1) (wr.drewN q) hR (by rw [hend] at hS; exact hS) hgr (by omega) hbl
          rw [hva] at hfe
          have HEND : Hid (w = n) := hend
          clear hfc hnc hcS hc hn hend
          go_wp2
          go_quiet (fail)
          go_wp2_with fail
          refine (hfe _).mono ?_
          rintro e w1 ⟨rfl, hR1, hs1⟩
          go_wp2
          go_roundw
          case rel =>
            have hr : Fresh R S U bl n tc nc cc ta ca fail fe va (-1) (-1) ft W w (.iface 37 (.pointer (some va))) w1 := ⟨k', fU', hwn, hwb, hkw, .inr ⟨rfl, HEND.out, by have := HEND.out; omega⟩, hR1, (hs1.block S (World.block_lt_of_cell? wr _ (scells hS).1) (by simp; omega)).trans hS, (show Row (wr.drewN _) U bl fU' from hU').same hs1 (by simp; omega), hfU, (hsm.trans (Same.drewN _ _ _)).trans (hs1.more (by simp))⟩
            first | exact ⟨w, _, hr⟩ | ((repeat apply Exists.intro); exact ⟨⟨w, _, hr⟩, rfl⟩)
          case measure =>
            rw [hm0]
            obtain ⟨e0, e1, e2, e3, e4, e5, e6, ef⟩ := rcells hR1
            unfold peekM
            rw [e3, e4]
            simp
            omega
        · rcases hT with hT0 | ⟨T, rfl, hT, hTx⟩
          · omega
          have hTr := hT.same hsm hTx
          simp only [List.mem_cons, List.not_mem_nil, or_false, not_or] at hTx
          have hfe := fun q => fill_some R S U bl n tc w nc cc k' w T ca fail fe (-1) (-1) ft fU' fc (wr.drewN q) hR hS (by omega) hbl (by omega) (by omega) (by omega) hnt hTr hU' hcr hfc hnc (fun p hp => ⟨(hcS p hp).1, (hcS p hp).2.1⟩) (by omega) hSU (by omega) hRS hRU
          clear hfc hnc hcS hc hn
          go_wp2
          go_quiet (fail)
          go_wp2_with fail
          refine (hfe _).mono ?_
          rintro e w1 ⟨c, k2, rfl, h1, h2, h3, h4, hR1, hS1, hU1, hs1⟩
          go_wp2
          go_roundw
          case rel =>
            have hr : Fresh R S U bl n tc nc cc (some ⟨T, 0, none⟩) ca fail fe va (-1) (-1) ft W (w + c) .nilIface w1 := ⟨k2, _, h3, h2, by omega, .inl rfl, hR1, hS1, hU1, (fun i hi => by
              show (if w ≤ i ∧ i < w + c then ft (w + (i - w)) else fU' i) = ft i
              by_cases hwi : w ≤ i
              · rw [if_pos ⟨hwi, hi⟩, show w + (i - w) = i by omega]
              · rw [if_neg (by omega)]; exact hfU i (by omega)), (hsm.trans (Same.drewN _ _ _)).trans hs1⟩
            first | exact ⟨w + c, _, hr⟩ | ((repeat apply Exists.intro); exact ⟨⟨w + c, _, hr⟩, rfl⟩)
          case measure =>
            rw [hm0]
            obtain ⟨e0, e1, e2, e3, e4, e5, e6, ef⟩ := rcells hR1
            unfold peekM
            rw [e3, e4]
            simp
            omega
      · have i1 : decide ((w : Int) < 3) = false := decide_eq_false (by omega)
        have i2 : ¬ (w : Int) < 3 := by omega
        have hfr : ∀ q, Fresh R S U bl n tc nc cc ta ca fail fe va (-1) (-1) ft W w .nilIface (wr.drewN q) := fun q => ⟨k', fU', hwn, hwb, hkw, .inl rfl, hR, hS, hU', hfU, hsm.trans (Same.drewN _ _ _)⟩
        have HW : Hid (3 ≤ w) := by show 3 ≤ w; omega
        clear hfc hnc hcS hc hn hR hS hU' hfU hsm hcr hgr hT hU hfresh
        go_wp2
        go_quiet (fail)
        obtain ⟨q1, hq1⟩ : ∃ q, nq = q := ⟨_, rfl⟩
        rw [hq1]
        clear hq1
        go_wp2
        go_quiet (fail)
        rw [World.drewN_drewN]
        obtain ⟨q2, hq2⟩ : ∃ q, q1 + nq = q := ⟨_, rfl⟩
        rw [hq2]
        clear hq2
        go_wp2
        go_quiet (fail)
        go_wp2
        go_ret2
        refine ⟨w, 3, .nilIface, rfl, .inl ⟨HW.out, rfl⟩, ?_⟩
        first | exact hfr _ | (rw [World.drewN_drewN]; exact hfr _)
    · have i1 : (w : Int) < 3 := by omega
      have i2 : (w : Int) < (bl : Int) := by omega
      have i3 : (w : Int) ≤ (bl : Int) := by omega
      have i4 : (0 : Int) ≤ (w : Int) := by omega
      have hfr : ∀ q q', Fresh R S U bl n tc nc cc ta ca fail fe va (-1) (-1) ft W w .nilIface (((wr.drewN q).setCell ⟨R, 4, none⟩ .nilIface).drewN q') := fun q q' =>
        ⟨k', fU', hwn, hwb, hkw, .inl rfl, rb_set (W := wr.drewN q) hR 4 .nilIface, (Below.heap_setCell (wr.drewN q) _ _ _ (by show S ≠ R; omega)).trans hS, hU'.block (Below.heap_setCell (wr.drewN q) _ _ _ (by show U ≠ R; omega)), hfU, ((hsm.trans (Same.drewN _ _ q)).trans (Same.setCell _ _ _ _ (by simp))).trans (Same.drewN _ _ _)⟩
      have HW : Hid (w = n ∧ n < 3) := ⟨hwn2, hn3⟩
      have hre := fun q => readErr_any R (.iface 37 (.pointer (some va))) (wr.drewN q) c4 (cf 4)
      clear hfc hnc hcS hc hn hR hS hU' hfU hsm hcr hgr hT hU hfresh hwn2 hn3
      go_wp2
      go_quiet (fail)
      obtain ⟨q1, hq1⟩ : ∃ q, nq = q := ⟨_, rfl⟩
      rw [hq1]
      clear hq1
      go_wp2
      go_quiet (fail)
      rw [World.drewN_drewN]
      obtain ⟨q2, hq2⟩ : ∃ q, q1 + nq = q := ⟨_, rfl⟩
      rw [hq2]
      clear hq2
      go_wp2_with fail
      refine (hre _).mono ?_
      rintro e w1 ⟨rfl, rfl⟩
      go_wp2
      go_quiet (fail)
      go_wp2
      go_ret2
      refine ⟨w, w, _, rfl, .inr ⟨HW.out.1, HW.out.2, HW.out.1⟩, ?_⟩
      exact hfr _ _
end Go.Proofs.YbulkdlswDoor
