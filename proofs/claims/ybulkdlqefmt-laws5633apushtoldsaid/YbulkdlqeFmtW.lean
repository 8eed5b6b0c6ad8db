/-
  zzs5633aeq, to the bit.
-/
import Derived.Test.YbulkdlqeFmtX
namespace Go.Proofs.YbulkdlqeFmt
open Go.RowKit Go.Shelf

/-- The first n bytes are the same. -/
def eqB (n : Nat) (f f' : Nat → Nat) : Bool := (List.range n).all fun i => f i == f' i
theorem eqB_true {n : Nat} {f f' : Nat → Nat} (h : ∀ i, i < n → f i = f' i) : eqB n f f' = true := by
  simp only [eqB, List.all_eq_true, List.mem_range, beq_iff_eq]
  exact h
theorem eqB_false {n k : Nat} {f f' : Nat → Nat} (hk : k < n) (h : f k ≠ f' k) : eqB n f f' = false := by
  rw [Bool.eq_false_iff]
  intro ht
  simp only [eqB, List.all_eq_true, List.mem_range, beq_iff_eq] at ht
  exact h (ht k hk)

set_option maxHeartbeats 800000 in
theorem eq_some_exact (b off b' off' len c c' : Nat) (f f' : Nat → Nat) (w : World) (_hlen : len ≤ 4000000)
    (h1 : ∀ i, i < len → w.cell? ⟨b, off + i, none⟩ = some (.int .u8 (f i : Int))) (h2 : ∀ i, i < len → w.cell? ⟨b', off' + i, none⟩ = some (.int .u8 (f' i : Int))) :
    Calls Ybaf.prog 9 #[.slice (some ⟨b, off, none⟩) len c, .slice (some ⟨b', off', none⟩) len c'] w fun e w' => e = .returned (.bool (eqB len f f')) ∧ ∃ m, w' = w.drewN m := by
  go_enter Ybaf.func9, Ybaf.ntmps9
  go_wp2
  go_loopw [5] (fun i wr => ∃ k : Nat, k ≤ len ∧ i = .int .i64 k ∧ Hid (∀ j, j < k → f j = f' j) ∧ ∃ n, wr = w.drewN n) (fun i _ => len - (intOf i).toNat)
  case atStart => exact ⟨0, Nat.zero_le _, rfl, (fun j hj => by omega), 0, rfl⟩
  case round =>
    obtain ⟨k, hk, rfl, hall, n, rfl⟩ := hrel
    by_cases hlt : k < len
    · have g1 : w.cell? ⟨b, off + k, none⟩ = some (.int .u8 (f k : Int)) := h1 k hlt
      have g2 : w.cell? ⟨b', off' + k, none⟩ = some (.int .u8 (f' k : Int)) := h2 k hlt
      have i1 : (0 : Int) ≤ (k : Int) := by omega
      have i2 : (k : Int) < (len : Int) := by omega
      clear h1 h2
      by_cases he : f k = f' k
      · have hd : ((f k : Int) != (f' k : Int)) = false := by simp [he]
        have HE : Hid (∀ j, j < k + 1 → f j = f' j) := fun j hj => by
          rcases (show j < k ∨ j = k by omega) with h | rfl
          · exact hall.out j h
          · exact he
        clear he
        go_wp2
        go_quiet (fail)
        go_wp2
        go_roundw
        case rel => exact ⟨k + 1, by omega, by go_num, HE, _, rfl⟩
        case measure => simp [intOf]; omega
      · have hd : ((f k : Int) != (f' k : Int)) = true := by rw [bne_iff_ne]; omega
        go_wp2
        go_quiet (fail)
        go_wp2
        go_ret
        exact ⟨ret_bool (eqB_false hlt he).symm, n + nq, World.drewN_drewN _ _ _⟩
    · clear h1 h2
      go_wp2
      go_ret
      exact ⟨ret_bool (eqB_true (fun i hi => hall.out i (by omega))).symm, n, rfl⟩

theorem eq_exact (a a' : Option Addr) (n c c' : Nat) (f f' : Nat → Nat) (w : World) (hlen : n ≤ 4000000) (h1 : Bytes w a n f) (h2 : Bytes w a' n f') :
    Calls Ybaf.prog 9 #[.slice a n c, .slice a' n c'] w fun e w' => e = .returned (.bool (eqB n f f')) ∧ ∃ m, w' = w.drewN m := by
  by_cases h0 : n = 0
  · subst h0
    refine (eq_zero a a' c c' w).mono ?_
    rintro e w' ⟨rfl, hw⟩
    exact ⟨rfl, 0, hw⟩
  · rcases h1 with h | ⟨b, off, rfl, hc⟩
    · exact absurd h h0
    · rcases h2 with h | ⟨b', off', rfl, hc'⟩
      · exact absurd h h0
      · exact eq_some_exact b off b' off' n c c' f f' w hlen hc hc'

/-- Bytes of b[lo:..]: the head that the cut leaves. -/
theorem bytes_cut {w : World} {g n cap lo m : Nat} {f : Nat → Nat} (h : Row w g n f) (hc : n ≤ cap) (hm : lo + m ≤ n) : Bytes w (if cap = lo then some ⟨g, 0, none⟩ else some ⟨g, lo, none⟩) m (fun i => f (lo + i)) := by
  by_cases hcl : cap = lo
  · exact .inl (by omega)
  · rw [if_neg hcl]
    exact .inr ⟨g, lo, rfl, fun i hi => h.cell (by omega)⟩
end Go.Proofs.YbulkdlqeFmt
