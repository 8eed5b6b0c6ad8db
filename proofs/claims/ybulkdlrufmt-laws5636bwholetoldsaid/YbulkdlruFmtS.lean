/-
  The shelf's readers of bytes, greatest byte first.
-/
import Derived.Shelf.Lay
import Derived.Ground.MnProg
import Derived.Shelf.Bin.BEUint16
import Derived.Shelf.Bin.BEUint32
import Derived.Shelf.Bin.BEUint64
import Derived.Test.YbulkdlruFmtProg
import Derived.Test.YbulkdlruFmtA
namespace Go.Proofs
open Go.Shelf
shelf_lay LaysBin.n36 Mn 36 at Ybaf as Ybaf.laysBin36
shelf_lay LaysBin.n39 Mn 39 at Ybaf as Ybaf.laysBin39
shelf_lay LaysBin.n42 Mn 42 at Ybaf as Ybaf.laysBin42
namespace YbulkdlruFmt
open Go.RowKit Go.Shelf

/-- The number that k bytes spell, greatest byte first. -/
def be (f : Nat → Nat) (o : Nat) : Nat → Nat
  | 0 => 0
  | k + 1 => be f o k * 256 + f (o + k)
theorem be_lt (f : Nat → Nat) (o : Nat) (hf : ∀ i, f i < 256) : ∀ k, be f o k < 256 ^ k
  | 0 => by simp [be]
  | k + 1 => by
    have h1 := be_lt f o hf k
    have h2 := hf (o + k)
    simp only [be, Nat.pow_succ]
    omega
theorem toU8 {x : Nat} (h : x < 256) : (UInt8.ofNat x).toNat = x := by simp [Nat.mod_eq_of_lt h]

theorem be16 (T o c N : Nat) (f : Nat → Nat) (w : World) (hT : Row w T N f) (hf : ∀ i, f i < 256) (ho : o + 2 ≤ N) :
    Calls Ybaf.prog 49 #[.agg #[], .slice (some ⟨T, o, none⟩) 2 c] w fun e w' => e = .returned (.int .u16 (be f o 2 : Nat)) ∧ Below w.heap.size w w' := by
  have c0 := hT.cell (i := o) (by omega)
  have c1 := hT.cell (i := o + 1) (by omega)
  refine (Any.binary_BE_Uint16 Ybaf.laysBin36 T o 2 c (UInt8.ofNat (f o)) (UInt8.ofNat (f (o + 1))) w (by omega) (by rw [toU8 (hf _)]; exact c0) (by rw [toU8 (hf _)]; exact c1)).mono ?_
  rintro e w' ⟨rfl, hb⟩
  refine ⟨?_, hb⟩
  simp only [Lib.beNat, Lib.beFrom, toU8 (hf _), be, Nat.add_zero]

theorem be32 (T o c N : Nat) (f : Nat → Nat) (w : World) (hT : Row w T N f) (hf : ∀ i, f i < 256) (ho : o + 4 ≤ N) :
    Calls Ybaf.prog 50 #[.agg #[], .slice (some ⟨T, o, none⟩) 4 c] w fun e w' => e = .returned (.int .u32 (be f o 4 : Nat)) ∧ Below w.heap.size w w' := by
  have cc : ∀ k, k < 4 → w.cell? ⟨T, o + k, none⟩ = some (.int .u8 (UInt8.ofNat (f (o + k))).toNat) := fun k hk => by rw [toU8 (hf _)]; exact hT.cell (by omega)
  refine (Any.binary_BE_Uint32 Ybaf.laysBin39 T o 4 c (UInt8.ofNat (f (o + 0))) (UInt8.ofNat (f (o + 1))) (UInt8.ofNat (f (o + 2))) (UInt8.ofNat (f (o + 3))) w (by omega) (cc 0 (by omega)) (cc 1 (by omega)) (cc 2 (by omega)) (cc 3 (by omega))).mono ?_
  rintro e w' ⟨rfl, hb⟩
  refine ⟨?_, hb⟩
  simp only [Lib.beNat, Lib.beFrom, toU8 (hf _), be]

theorem be64 (T o c N : Nat) (f : Nat → Nat) (w : World) (hT : Row w T N f) (hf : ∀ i, f i < 256) (ho : o + 8 ≤ N) :
    Calls Ybaf.prog 16 #[.agg #[], .slice (some ⟨T, o, none⟩) 8 c] w fun e w' => e = .returned (.int .u64 (be f o 8 : Nat)) ∧ Below w.heap.size w w' := by
  have cc : ∀ k, k < 8 → w.cell? ⟨T, o + k, none⟩ = some (.int .u8 (UInt8.ofNat (f (o + k))).toNat) := fun k hk => by rw [toU8 (hf _)]; exact hT.cell (by omega)
  refine (Any.binary_BE_Uint64 Ybaf.laysBin42 T o 8 c (UInt8.ofNat (f (o + 0))) (UInt8.ofNat (f (o + 1))) (UInt8.ofNat (f (o + 2))) (UInt8.ofNat (f (o + 3))) (UInt8.ofNat (f (o + 4))) (UInt8.ofNat (f (o + 5))) (UInt8.ofNat (f (o + 6))) (UInt8.ofNat (f (o + 7))) w (by omega) (cc 0 (by omega)) (cc 1 (by omega)) (cc 2 (by omega)) (cc 3 (by omega)) (cc 4 (by omega)) (cc 5 (by omega)) (cc 6 (by omega)) (cc 7 (by omega))).mono ?_
  rintro e w' ⟨rfl, hb⟩
  refine ⟨?_, hb⟩
  simp only [Lib.beNat, Lib.beFrom, toU8 (hf _), be]
end YbulkdlruFmt
end Go.Proofs
