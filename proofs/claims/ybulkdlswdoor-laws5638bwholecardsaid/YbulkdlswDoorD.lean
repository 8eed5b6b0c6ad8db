/-
  (*bufio.Reader).fill.
-/
import Derived.Test.YbulkdlswDoorC
namespace Go.Proofs.YbulkdlswDoor
open Go.RowKit Go.Shelf

theorem rb_set {W : World} {R : Nat} {a0 a1 a2 a3 a4 a5 a6 : Value} (h : W.heap[R]? = some (.cells #[a0, a1, a2, a3, a4, a5, a6] 47 (0, 0))) (k : Nat) (v : Value) :
    (W.setCell ⟨R, k, none⟩ v).heap[R]? = some (.cells (#[a0, a1, a2, a3, a4, a5, a6].setIfInBounds k v) 47 (0, 0)) := by
  rw [heap_setCell_same W R k _ 47 _ h]

theorem readIs (v : Value) (w : World) : (Go.method 174 27 v "Read").run Ybad.prog w = .ok (32, v) w := by kernel_rfl

set_option maxRecDepth 100000 in
set_option maxHeartbeats 2000000 in
theorem fill_end (R S U bl n tc nc cc k w : Nat) (ta ca : Option Addr) (fail : Bool) (fe ea : Addr) (lb lr : Int) (W : World) (hR : W.heap[R]? = some (.cells (RB U bl (.iface 27 (.pointer (some ⟨S, 0, none⟩))) 0 w .nilIface lb lr) 47 (0, 0)))
    (hS : W.heap[S]? = some (.cells (SB ta n tc n ca nc cc k fail fe) 29 (0, 0))) (hg : W.cell? ⟨0, 0, none⟩ = some (.iface 37 (.pointer (some ea)))) (hw : w < bl) (hbl : (bl : Int) ≤ 70000) :
    Calls Ybad.prog 16 #[.pointer (some ⟨R, 0, none⟩)] W fun e w' => e = .returned (.tuple #[]) ∧ w'.heap[R]? = some (.cells (RB U bl (.iface 27 (.pointer (some ⟨S, 0, none⟩))) 0 w (.iface 37 (.pointer (some (if fail then fe else ea)))) lb lr) 47 (0, 0)) ∧ Same [R] W w' := by
  obtain ⟨c0, c1, c2, c3, c4, c5, c6, cf⟩ := rcells hR
  have i1 : ¬ (bl : Int) ≤ (w : Int) := by omega
  have i1' : decide ((bl : Int) ≤ (w : Int)) = false := decide_eq_false i1
  have i2 : (w : Int) ≤ (bl : Int) := by omega
  have hrd := fun X (pa : Option Addr) m pc hX hgX => sread_end S n tc nc cc k m pc ta ca pa fail fe ea X hX hgX
  clear hw
  obtain ⟨va, hva⟩ : ∃ va, (if fail = true then fe else ea) = va := ⟨_, rfl⟩
  rw [hva] at hrd ⊢
  clear hva
  have hme := readIs
  go_enter Ybad.func16, Ybad.ntmps16
  go_wp2
  go_quiet (fail)
  go_wp2
  refine wp_loop_rounds 1 ?_; rw [rounds_succ]
  go_wp2
  go_region_with (go_at_call 32; refine (hrd _ _ _ _ ?_ ?_).mono ?_; (exact hS); (exact hg); rintro e w1 ⟨rfl, q, rfl⟩)
  all_goals
    go_wp2
    refine bodyPost_ret (results_none rfl _ _ _) rfl ⟨rfl, ?_, ?_⟩
    · exact rb_set (rb_set (W := W) hR 3 (.int .i64 (w : Int))) 4 (.iface 37 (.pointer (some va)))
    · exact ((Same.drewN [R] W _).trans (Same.setCell _ _ _ _ (by simp))).trans (Same.setCell _ _ _ _ (by simp))

/-- What fill comes to where there is text. -/
def FillSaid (R S U bl n tc pos nc cc k w T : Nat) (ca : Option Addr) (fail : Bool) (fe : Addr) (lb lr : Int) (ft fU : Nat → Nat) (W : World) (e : Ending) (w' : World) : Prop :=
  ∃ c k' : Nat, e = .returned (.tuple #[]) ∧ 1 ≤ c ∧ w + c ≤ bl ∧ pos + c ≤ n ∧ k' ≤ k + 1 ∧ w'.heap[R]? = some (.cells (RB U bl (.iface 27 (.pointer (some ⟨S, 0, none⟩))) 0 (w + c : Nat) .nilIface lb lr) 47 (0, 0)) ∧
    w'.heap[S]? = some (.cells (SB (some ⟨T, 0, none⟩) n tc (pos + c : Nat) ca nc cc k' fail fe) 29 (0, 0)) ∧ Row w' U bl (fun i => if w ≤ i ∧ i < w + c then ft (pos + (i - w)) else fU i) ∧ Same [R, S, U] W w'

set_option maxRecDepth 100000 in
set_option maxHeartbeats 2000000 in
theorem fill_some (R S U bl n tc pos nc cc k w T : Nat) (ca : Option Addr) (fail : Bool) (fe : Addr) (lb lr : Int) (ft fU fc : Nat → Nat) (W : World) (hR : W.heap[R]? = some (.cells (RB U bl (.iface 27 (.pointer (some ⟨S, 0, none⟩))) 0 w .nilIface lb lr) 47 (0, 0)))
    (hS : W.heap[S]? = some (.cells (SB (some ⟨T, 0, none⟩) n tc pos ca nc cc k fail fe) 29 (0, 0))) (hw : w < bl) (hbl : (bl : Int) ≤ 70000) (hpos : pos < n) (hn : n ≤ 4000000) (hk : k ≤ 4000000) (hnt : n ≤ tc) (hT : Row W T n ft) (hU : Row W U bl fU) (hc : Bytes W ca nc fc) (hfc : ∀ i, fc i < 256) (hnc : nc ≤ 4000000)
    (hcS : ∀ p, ca = some p → p.block ≠ S ∧ p.block ≠ U) (hST : S ≠ T) (hSU : S ≠ U) (hTU : T ≠ U) (hRS : R ≠ S) (hRU : R ≠ U) :
    Calls Ybad.prog 16 #[.pointer (some ⟨R, 0, none⟩)] W (FillSaid R S U bl n tc pos nc cc k w T ca fail fe lb lr ft fU W) := by
  obtain ⟨c0, c1, c2, c3, c4, c5, c6, cf⟩ := rcells hR
  have i1 : ¬ (bl : Int) ≤ (w : Int) := by omega
  have i1' : decide ((bl : Int) ≤ (w : Int)) = false := decide_eq_false i1
  have i2 : (w : Int) ≤ (bl : Int) := by omega
  have i3 : ¬ bl = w := by omega
  have hrd := fun (X : World) hX hTX hUX hcX => sread_some S n tc pos nc cc k T U w (bl - w) (bl - w) bl ca fail fe ft fU fc X hX hpos hn hk (by omega) (by omega) (by omega) (by omega) hnt hTX hUX hcX hfc hnc hcS hST hSU hTU
  clear hn hk hnc hfc hcS
  have hme := readIs
  go_enter Ybad.func16, Ybad.ntmps16
  go_wp2
  go_quiet (fail)
  go_wp2
  refine wp_loop_rounds 1 ?_; rw [rounds_succ]
  go_wp2
  go_region_with (go_at_call 32; refine (hrd _ ?_ ?_ ?_ ?_).mono ?_; (exact hS); (exact hT); (exact hU); (exact hc); rintro e w1 ⟨c, k', rfl, h1, h2, h3, h4, hS1, hU1, hsm⟩; have hR1 := (hsm.block R (World.block_lt_of_cell? W _ c0) (by simp; omega)).trans hR; obtain ⟨d0, d1, d2, d3, d4, d5, d6, df⟩ := rcells hR1; have j1 : (1 : Int) ≤ (c : Int) := (by omega); have j2 : (w : Int) + (c : Int) ≤ (bl : Int) := (by omega))
  all_goals
    go_wp2
    refine bodyPost_ret (results_none rfl _ _ _) rfl ?_
    refine ⟨c, k', rfl, h1, by omega, h3, h4, ?_, ?_, ?_, ?_⟩
    · have := rb_set (W := w1) hR1 3 (.int .i64 ((w + c : Nat) : Int))
      exact this
    · exact (Below.heap_setCell _ _ _ _ (by show S ≠ R; omega)).trans hS1
    · exact hU1.block (Below.heap_setCell _ _ _ _ (by show U ≠ R; omega))
    · exact ((Same.drewN [R, S, U] W _).trans (hsm.more (by simp))).trans (Same.setCell _ _ _ _ (by simp))
end Go.Proofs.YbulkdlswDoor
