/-
  THE WALKS, SECOND PART: slices.Clone, slices.Equal at []byte.
-/
import Derived.Test.YbulkdlqeDoorW1
namespace Go.Proofs.YbulkdlqeDoor
open Go.RowKit

theorem Ybad.info5 : (Ybad.prog.info? 5).map (fun i => (i.zero, i.size, i.bytes)) = some (some (.int .u8 0), 1, 1) := by kernel_rfl

set_option maxHeartbeats 400000 in
theorem clone_nil (w : World) :
    Calls Ybad.prog 5 #[.slice none 0 0] w fun e w' => e = .returned (.slice none 0 0) ∧ w' = w := by
  have hn := fun (a : Option Addr) (n c : Nat) (w : World) => Lib.run_eql_slice_nil (P := Ybad.prog) w 23 5 a n c 0 0 Ybad.underlying23
  go_enter Ybad.func5, Ybad.ntmps5
  go_wp2
  go_ret
  exact ⟨rfl, rfl⟩

/-- The first 'len' numbers, as values. -/
def vals (f : Nat → Int) (len : Nat) : List Value := (List.range len).map fun i => .int .u8 (f i)
theorem length_vals (f : Nat → Int) (len : Nat) : (vals f len).length = len := by simp [vals]
theorem vals_at (f : Nat → Int) (len j : Nat) (h : j < len) : (vals f len)[j]? = some (.int .u8 (f j)) := by simp [vals, h]
theorem vals_one (f : Nat → Int) (len : Nat) : ∀ u ∈ vals f len, u.oneCell' = true := by
  intro u hu
  simp only [vals, List.mem_map, List.mem_range] at hu
  obtain ⟨i, _, rfl⟩ := hu
  rfl

/-- An owned row of bytes reads so. -/
theorem bytes_of_owns {w : World} {base : Nat} {v : Value} {n : Nat} {f : Nat → Int} (h : w.ownsRow base 5 1 v n (vals f n)) (hv : v ≠ .slice none 0 0) :
    ∃ g c, v = .slice (some ⟨g, 0, none⟩) n c ∧ base ≤ g ∧ g < w.heap.size ∧ Bytes w (some ⟨g, 0, none⟩) n f := by
  rcases h.2 with ⟨rfl, _⟩ | ⟨g, cap, cur, rfl, hb, hg, hnc, hcm, hsz, htk⟩
  · exact absurd rfl hv
  · refine ⟨g, cap, rfl, hb, (Array.getElem?_eq_some_iff.1 hg).1, .inr ⟨g, 0, rfl, fun i hi => ?_⟩⟩
    have e := vals_at f n i hi
    rw [← htk] at e
    simp only [Nat.mul_one] at e
    rw [List.getElem?_take_of_lt hi] at e
    rw [Nat.zero_add, cell_of_row w g i cur 5 (0, 0) hg]
    simpa using e

set_option maxHeartbeats 400000 in
theorem clone_some (a : Addr) (len cap : Nat) (f : Nat → Int) (w : World) (hlen : len ≤ 4000000) (hb : Bytes w (some a) len f) :
    Calls Ybad.prog 5 #[.slice (some a) len cap] w fun e w' => ∃ g c, e = .returned (.slice (some ⟨g, 0, none⟩) len c) ∧ w.heap.size ≤ g ∧ g < w'.heap.size ∧ Bytes w' (some ⟨g, 0, none⟩) len f ∧ Below w.heap.size w w' := by
  have hn := fun (a : Option Addr) (n c : Nat) (w : World) => Lib.run_eql_slice_nil (P := Ybad.prog) w 23 5 a n c 0 0 Ybad.underlying23
  obtain ⟨i0, hi, hz0, hz1, hz2⟩ := info_parts Ybad.info5
  have hown0 : (w.alloc (.cells #[] 5)).ownsRow w.heap.size 5 1 (.slice (some ⟨w.heap.size, 0, none⟩) 0 0) 0 [] := World.ownsRow_made w #[] 0 (Nat.le_refl _) (by simp [maxLen]) rfl
  have hnews : ∀ j u, (vals f len)[j]? = some u → (w.alloc (.cells #[] 5)).cell? (a.add j) = some u := by
    intro j u hj
    have hjl : j < len := by
      have := (List.getElem?_eq_some_iff.1 hj).1
      rwa [length_vals] at this
    rw [vals_at f len j hjl] at hj
    rcases hb with h0 | ⟨b, off, ha, hc⟩
    · omega
    · cases ha
      have h1 := hc j hjl
      have hlt : b < w.heap.size := World.block_lt_of_cell? w _ h1
      rw [show (⟨b, off, none⟩ : Addr).add j = ⟨b, off + j, none⟩ by unfold Addr.add; split <;> simp_all]
      rw [World.cell?_alloc_past _ _ _ hlt]
      exact h1.trans hj
  go_enter Ybad.func5, Ybad.ntmps5
  go_wp2_with (at_builtin; refine wpList_append_own _ rfl _ _ 23 rfl w.heap.size 5 i0 (.int .u8 0) 1 1 Ybad.underlying23 hi hz0 hz1 hz2 rfl (by decide) _ _ _ rfl hown0 a len cap (vals f len) rfl (by simp [length_vals]) hnews (vals_one f len) (by simp [maxLen]; omega) (by omega) (by simp) ?_)
  intro v' w1 hown hgrow hnil
  obtain ⟨g, c, rfl, hg, hglt, hby⟩ := bytes_of_owns hown hnil
  have hbel : Below w.heap.size w w1 := ((Below.refl _ _).alloc (Nat.le_refl _) _).grown hgrow (by simp) (fun k hk => by simp [Value.ownBlock] at hk; omega)
  clear hown hgrow hnil hnews hown0
  go_wp2
  go_ret
  exact ⟨g, c, rfl, hg, hglt, hby, hbel⟩

/-- Clone, whatever the slice: the same numbers, in new memory; nothing old has turned. -/
theorem clone_any (a : Option Addr) (len cap : Nat) (f : Nat → Int) (w : World) (hlen : len ≤ 4000000) (hn : a = none → len = 0 ∧ cap = 0) (hb : Bytes w a len f) :
    Calls Ybad.prog 5 #[.slice a len cap] w fun e w' => ∃ a' c, e = .returned (.slice a' len c) ∧ Bytes w' a' len f ∧ Below w.heap.size w w' := by
  cases a with
  | none =>
    obtain ⟨rfl, rfl⟩ := hn rfl
    refine (clone_nil w).mono ?_
    rintro e w' ⟨rfl, rfl⟩
    exact ⟨none, 0, rfl, .inl rfl, Below.refl _ _⟩
  | some a =>
    refine (clone_some a len cap f w hlen hb).mono ?_
    rintro e w' ⟨g, c, rfl, _, _, hby, hbel⟩
    exact ⟨_, c, rfl, hby, hbel⟩
end Go.Proofs.YbulkdlqeDoor
