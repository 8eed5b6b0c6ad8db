/-
  THE WALKS, FIRST PART: the byte that the law lays; (layout).has, (Trace).has.
-/
import Derived.Test.YbulkdlqeDoorProg
import Derived.WalkKit
import Derived.WalkSpells
import Derived.WalkLawsBesides
namespace Go.Proofs.YbulkdlqeDoor
open Go.RowKit

/-- What can be read of a slice of bytes: its first 'len' numbers are f 0, f 1, ... -/
def Bytes (w : World) (a : Option Addr) (len : Nat) (f : Nat → Int) : Prop :=
  len = 0 ∨ ∃ b off, a = some ⟨b, off, none⟩ ∧ ∀ i, i < len → w.cell? ⟨b, off + i, none⟩ = some (.int .u8 (f i))

/-- The byte at offset k. -/
def bb (f : Nat → Int) (len k : Nat) : Int := if len = 0 then ((k * 31 + 7) % 256 : Nat) else f (k % len)

theorem ret_int {k : IntKind} {a b : Int} (h : a = b) : Ending.returned (.int k a) = .returned (.int k b) := by rw [h]

set_option maxHeartbeats 400000 in
theorem byte_zero (a : Option Addr) (cap k : Nat) (w : World) (_hk : k ≤ 1000000) :
    Calls Ybad.prog 4 #[.slice a 0 cap, .int .i64 k] w fun e w' => e = .returned (.int .u8 (((k * 31 + 7) % 256 : Nat) : Int)) ∧ w' = w := by
  go_enter Ybad.func4, Ybad.ntmps4
  go_wp2
  go_ret
  exact ⟨ret_int (by omega), rfl⟩

set_option maxHeartbeats 400000 in
theorem byte_some (b off len cap k : Nat) (x : Int) (w : World) (_hk : k ≤ 1000000) (hl : 0 < len) (_hlen : len ≤ 1048576)
   (hc : w.cell? ⟨b, off + k % len, none⟩ = some (.int .u8 x)) :
    Calls Ybad.prog 4 #[.slice (some ⟨b, off, none⟩) len cap, .int .i64 k] w fun e w' => e = .returned (.int .u8 x) ∧ w' = w := by
  have h0 : ((len : Int) == 0) = false := beq_eq_false_iff_ne.2 (by omega)
  have h1 : (0 : Int) ≤ (k : Int) % (len : Int) := by omega
  have h2 : (k : Int) % (len : Int) < (len : Int) := Int.emod_lt_of_pos _ (by omega)
  go_enter Ybad.func4, Ybad.ntmps4
  go_wp2
  go_ret
  exact ⟨rfl, rfl⟩

theorem byte_any (a : Option Addr) (len cap k : Nat) (f : Nat → Int) (w : World) (hk : k ≤ 1000000) (hlen : len ≤ 1048576) (hb : Bytes w a len f) :
    Calls Ybad.prog 4 #[.slice a len cap, .int .i64 k] w fun e w' => e = .returned (.int .u8 (bb f len k)) ∧ w' = w := by
  by_cases h0 : len = 0
  · subst h0
    exact byte_zero a cap k w hk
  · rcases hb with h | ⟨b, off, rfl, hc⟩
    · exact absurd h h0
    · have e : bb f len k = f (k % len) := by simp [bb, h0]
      rw [e]
      exact byte_some b off len cap k _ w hk (by omega) hlen (hc _ (Nat.mod_lt _ (by omega)))

set_option maxHeartbeats 400000 in
theorem lhas (v : Int) (f : Value) (w : World) (_hv : 0 ≤ v) :
    Calls Ybad.prog 9 #[.agg #[.int .u64 24, f], .int .u32 v, .int .u64 22] w fun e w' => e = .returned (.bool (bits .and .u32 (v / 2) 1 != 0)) ∧ Below w.heap.size w w' := by
  go_enter Ybad.func9, Ybad.ntmps9
  go_wp2
  go_ret
  exact ⟨rfl, (Below.refl _ _).alloc (Nat.le_refl _) _⟩

set_option maxHeartbeats 400000 in
theorem thas (a0 a1 a2 v : Int) (f wr : Value) (w : World) (hv : 0 ≤ v) (h0 : w.cell? ⟨0, 0, none⟩ = some (.int .u64 24)) (h1 : w.cell? ⟨0, 1, none⟩ = some f) :
    Calls Ybad.prog 8 #[.agg #[.int .u8 a0, .int .u8 a1, .int .u8 a2, .int .u32 v, wr], .int .u64 22] w fun e w' => e = .returned (.bool (bits .and .u32 (v / 2) 1 != 0)) ∧ Below w.heap.size w w' := by
  have hlt : 0 < w.heap.size := World.block_lt_of_cell? w _ h0
  have g0 : ∀ o, (w.alloc o).cell? ⟨0, 0, none⟩ = some (.int .u64 24) := fun o => (World.cell?_alloc_past _ _ _ hlt).trans h0
  have g1 : ∀ o, (w.alloc o).cell? ⟨0, 1, none⟩ = some f := fun o => (World.cell?_alloc_past _ _ _ hlt).trans h1
  go_enter Ybad.func8, Ybad.ntmps8
  go_wp2_with fail
  refine (lhas v f _ hv).mono ?_
  rintro e w' ⟨rfl, hb⟩
  go_wp2
  go_ret
  refine ⟨rfl, ?_⟩
  exact ((Below.refl _ _).alloc (Nat.le_refl _) _).trans (hb.mono (by simp))
end Go.Proofs.YbulkdlqeDoor
