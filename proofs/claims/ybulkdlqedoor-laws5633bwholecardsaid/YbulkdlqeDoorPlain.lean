/-
  PLAIN FACTS ON BITS: no Go in sight.
-/
import Derived.Laws.BitsAllLaws
import Derived.Laws.Entries
namespace Go.Proofs.YbulkdlqeDoor

/-- Bit 22 of 24, asked for in two ways. -/
theorem asks_eq (v : Nat) (hv : v < 4294967296) : (bits .and .u32 ((v : Int) / 2) 1 != 0) = (bits .and .u32 (v : Int) 2 != 0) := by
  have e1 : bits .and .u32 ((v : Int) / 2) 1 = ((v / 2 % 2 : Nat) : Int) := by
    have := u32_and_nat (v / 2) 1 (by omega) (by omega)
    rw [nat_mask1] at this
    simpa using this
  have e2 : bits .and .u32 (v : Int) 2 = ((v / 2 % 2 * 2 : Nat) : Int) := by
    have := u32_and_nat v 2 hv (by omega)
    rw [show (2 : Nat) = 2 ^ 1 from rfl, nat_bit] at this
    simpa using this
  rw [e1, e2, Bool.eq_iff_iff]
  simp only [bne_iff_ne]
  omega

/-- The schema's three low bytes, joined. -/
theorem schema_eq (s : Nat) (hs : s < 4294967296) :
    bits .or .u32 (bits .or .u32 (((s / 65536 % 256 : Nat) : Int) * 65536) (((s / 256 % 256 : Nat) : Int) * 256)) ((s % 256 : Nat) : Int) = bits .and .u32 (s : Int) 16777215 := by
  have e1 := u32_or_nat (s / 65536 % 256 * 65536) (s / 256 % 256 * 256) (by omega) (by omega)
  rw [nat_join 16 _ _ (by omega) (by omega)] at e1
  have e2 := u32_or_nat (s / 65536 % 256 * 65536 + s / 256 % 256 * 256) (s % 256) (by omega) (by omega)
  rw [nat_join 8 _ _ (by omega) (by omega)] at e2
  have e3 := u32_and_nat s 16777215 hs (by omega)
  rw [show (16777215 : Nat) = 2 ^ 24 - 1 from rfl, Nat.and_two_pow_sub_one_eq_mod] at e3
  simp only [Int.natCast_mul] at e1
  have e4 : (((2 : Nat) ^ 24 - 1 : Nat) : Int) = 16777215 := rfl
  rw [e4] at e3
  rw [e3]
  have e5 : ((65536 : Nat) : Int) = 65536 := rfl
  have e6 : ((256 : Nat) : Int) = 256 := rfl
  rw [e5, e6] at e1
  rw [e1, e2]
  congr 1
  omega
end Go.Proofs.YbulkdlqeDoor
