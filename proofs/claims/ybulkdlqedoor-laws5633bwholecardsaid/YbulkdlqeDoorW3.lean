/-
  THE WALKS, THIRD PART: slices.Equal at []byte.
-/
import Derived.Test.YbulkdlqeDoorW2
import Derived.Deep.QuietTactic
import Derived.BigQuiet
namespace Go.Proofs.YbulkdlqeDoor
open Go.RowKit

theorem Bytes.drewN {w : World} {a : Option Addr} {len : Nat} {f : Nat → Int} (h : Bytes w a len f) (n : Nat) : Bytes (w.drewN n) a len f := h

set_option maxHeartbeats 400000 in
theorem equal_zero (a a' : Option Addr) (c c' : Nat) (w : World) :
    Calls Ybad.prog 7 #[.slice a 0 c, .slice a' 0 c'] w fun e w' => e = .returned (.bool true) ∧ ∃ n, w' = w.drewN n := by
  go_enter Ybad.func7, Ybad.ntmps7
  go_wp2
  refine wp_loop_rounds 1 ?_; rw [rounds_succ]
  go_wp2
  go_ret
  exact ⟨rfl, 0, rfl⟩

set_option maxHeartbeats 800000 in
theorem equal_some (b off b' off' len c c' : Nat) (f : Nat → Int) (w : World) (hlen : len ≤ 4000000)
    (h1 : ∀ i, i < len → w.cell? ⟨b, off + i, none⟩ = some (.int .u8 (f i))) (h2 : ∀ i, i < len → w.cell? ⟨b', off' + i, none⟩ = some (.int .u8 (f i))) :
    Calls Ybad.prog 7 #[.slice (some ⟨b, off, none⟩) len c, .slice (some ⟨b', off', none⟩) len c'] w fun e w' => e = .returned (.bool true) ∧ ∃ n, w' = w.drewN n := by
  go_enter Ybad.func7, Ybad.ntmps7
  go_wp2
  go_loopw [13] (fun i wr => ∃ k : Nat, k ≤ len ∧ i = .int .i64 k ∧ ∃ n, wr = w.drewN n) (fun i _ => len - (intOf i).toNat)
  case atStart => exact ⟨0, Nat.zero_le _, rfl, 0, rfl⟩
  case round =>
    obtain ⟨k, hk, rfl, n, rfl⟩ := hrel
    by_cases hlt : k < len
    · have g1 : w.cell? ⟨b, off + k, none⟩ = some (.int .u8 (f k)) := h1 k hlt
      have g2 : w.cell? ⟨b', off' + k, none⟩ = some (.int .u8 (f k)) := h2 k hlt
      have i1 : (0 : Int) ≤ (k : Int) := by omega
      have i2 : (k : Int) < (len : Int) := by omega
      clear h1 h2
      go_wp2
      go_quiet (fail)
      go_wp2
      go_roundw
      case rel => exact ⟨k + 1, by omega, by go_num, _, rfl⟩
      case measure => simp [intOf]; omega
    · clear h1 h2
      go_wp2
      go_ret
      exact ⟨rfl, n, rfl⟩

theorem equal_any (a a' : Option Addr) (len c c' : Nat) (f : Nat → Int) (w : World) (hlen : len ≤ 4000000) (h1 : Bytes w a len f) (h2 : Bytes w a' len f) :
    Calls Ybad.prog 7 #[.slice a len c, .slice a' len c'] w fun e w' => e = .returned (.bool true) ∧ ∃ n, w' = w.drewN n := by
  by_cases h0 : len = 0
  · subst h0
    exact equal_zero a a' c c' w
  · rcases h1 with h | ⟨b, off, rfl, hc⟩
    · exact absurd h h0
    · rcases h2 with h | ⟨b', off', rfl, hc'⟩
      · exact absurd h h0
      · exact equal_some b off b' off' len c c' f w hlen hc hc'
end Go.Proofs.YbulkdlqeDoor
