/-
  PLAIN: the scan of the written elements; the header. No Go in sight.
-/
import Derived.Test.YbulkdlqeFmtF
namespace Go.Proofs.YbulkdlqeFmt

/-- The scan of the elements from pos on: the error's code; 9: none. -/
def scanF (snap : Bool) (n0 : Nat) (f : Nat → Nat) (L : Nat) : Nat → Nat → Nat
  | 0, _ => 9
  | fuel + 1, pos => if pos < L then (if (wl snap n0 (f (pos + n0)) (L - pos)).2 = 9 then scanF snap n0 f L fuel (pos + (wl snap n0 (f (pos + n0)) (L - pos)).1) else (wl snap n0 (f (pos + n0)) (L - pos)).2) else 9
def scan (snap : Bool) (n0 : Nat) (f : Nat → Nat) (L pos : Nat) : Nat := scanF snap n0 f L (L - pos + 1) pos

theorem wl_ok {snap : Bool} {n0 x len : Nat} (h : (wl snap n0 x len).2 = 9) : 0 < (wl snap n0 x len).1 ∧ (wl snap n0 x len).1 ≤ len := by
  unfold wl at h ⊢
  cases snap with
  | true =>
    simp only [if_true] at h ⊢
    split at h
    · simp at h
    · split at h
      · simp at h
      · rename_i h1 h2
        rw [if_neg h1, if_neg h2]
        simp
        omega
  | false =>
    simp only [Bool.false_eq_true, if_false] at h ⊢
    split at h
    · simp at h
    · rename_i h1
      rw [if_neg h1]
      simp
      omega
theorem wl_code (snap : Bool) (n0 x len : Nat) : (wl snap n0 x len).2 = 9 ∨ (wl snap n0 x len).2 = 3 ∨ (wl snap n0 x len).2 = 4 := by
  unfold wl
  cases snap with
  | true =>
    simp only [if_true]
    split
    · simp
    · split <;> simp
  | false =>
    simp only [Bool.false_eq_true, if_false]
    split <;> simp

theorem scanF_fuel (snap : Bool) (n0 : Nat) (f : Nat → Nat) (L : Nat) : ∀ (a b pos : Nat), L - pos + 1 ≤ a → L - pos + 1 ≤ b → scanF snap n0 f L a pos = scanF snap n0 f L b pos := by
  intro a
  induction a with
  | zero => intro b pos h; omega
  | succ a ih =>
    intro b pos ha hb
    obtain ⟨b, rfl⟩ : ∃ b', b = b' + 1 := ⟨b - 1, by omega⟩
    simp only [scanF]
    by_cases hp : pos < L
    · rw [if_pos hp, if_pos hp]
      by_cases h9 : (wl snap n0 (f (pos + n0)) (L - pos)).2 = 9
      · rw [if_pos h9, if_pos h9]
        have := wl_ok h9
        exact ih b _ (by omega) (by omega)
      · rw [if_neg h9, if_neg h9]
    · rw [if_neg hp, if_neg hp]

theorem scan_end (snap : Bool) (n0 : Nat) (f : Nat → Nat) (L pos : Nat) (h : ¬ pos < L) : scan snap n0 f L pos = 9 := by
  simp [scan, scanF, h]
theorem scan_err (snap : Bool) (n0 : Nat) (f : Nat → Nat) (L pos : Nat) (h : pos < L) (h9 : (wl snap n0 (f (pos + n0)) (L - pos)).2 ≠ 9) : scan snap n0 f L pos = (wl snap n0 (f (pos + n0)) (L - pos)).2 := by
  simp [scan, scanF, h, h9]
theorem scan_go (snap : Bool) (n0 : Nat) (f : Nat → Nat) (L pos : Nat) (h : pos < L) (h9 : (wl snap n0 (f (pos + n0)) (L - pos)).2 = 9) : scan snap n0 f L pos = scan snap n0 f L (pos + (wl snap n0 (f (pos + n0)) (L - pos)).1) := by
  have e : scan snap n0 f L pos = scanF snap n0 f L (L - pos) (pos + (wl snap n0 (f (pos + n0)) (L - pos)).1) := by
    unfold scan
    rw [show L - pos + 1 = (L - pos) + 1 from rfl]
    simp only [scanF]
    rw [if_pos h, if_pos h9]
  have := wl_ok h9
  rw [e]
  unfold scan
  exact scanF_fuel _ _ _ _ _ _ _ (by omega) (by omega)

/-- The header's fields. -/
def hNl (f : Nat → Nat) : Nat := f 2 / 8
def hFl (f : Nat → Nat) : Nat := f 2 % 8 * 2 + f 3 / 128
def hRm (f : Nat → Nat) : Nat := f 3 % 128
def hTt (f : Nat → Nat) : Nat := f 4 * 65536 + f 5 * 256 + f 6
/-- Where the written elements begin. -/
def hStart (ty : Nat) (f : Nat → Nat) : Nat := if ty = 0 then 8 + hRm f * 4 else 8
/-- The error that reading the trace comes to (a body of 8 bytes or more); 9: none. -/
def tcode (ty len : Nat) (f : Nat → Nat) : Nat :=
  if hNl f ≠ asz (hTt f) / 4 then 1 else if len < hStart ty f then 2 else scan (bt (hTt f) 22) (hNl f * 4) f len (hStart ty f)
theorem scan_code (snap : Bool) (n0 : Nat) (f : Nat → Nat) (L : Nat) : ∀ fuel pos, scanF snap n0 f L fuel pos = 9 ∨ scanF snap n0 f L fuel pos = 3 ∨ scanF snap n0 f L fuel pos = 4 := by
  intro fuel
  induction fuel with
  | zero => intro pos; simp [scanF]
  | succ fuel ih =>
    intro pos
    simp only [scanF]
    split
    · split
      · exact ih _
      · exact wl_code _ _ _ _
    · simp
end Go.Proofs.YbulkdlqeFmt
