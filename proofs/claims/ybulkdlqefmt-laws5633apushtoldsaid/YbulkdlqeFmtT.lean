/-
  LawS5633APart: the walk to Fill.
-/
import Derived.Test.YbulkdlqeFmtS
namespace Go.Proofs.YbulkdlqeFmt
open Go.RowKit Go.Shelf Go.Extern.Stop Go.Stop Go.Extern

/-- The law's argument, cell by cell. -/
theorem icells {w : World} {B : Nat} {a0 a1 a2 a3 a4 a5 a6 a7 a8 a9 a10 a11 a12 a13 a14 : Value} (h : w.heap[B]? = some (.cells #[a0, a1, a2, a3, a4, a5, a6, a7, a8, a9, a10, a11, a12, a13, a14] 27 (0, 0))) :
    w.cell? ⟨B, 0, none⟩ = some a0 ∧ w.cell? ⟨B, 1, none⟩ = some a1 ∧ w.cell? ⟨B, 2, none⟩ = some a2 ∧ w.cell? ⟨B, 3, none⟩ = some a3 ∧ w.cell? ⟨B, 4, none⟩ = some a4 ∧ w.cell? ⟨B, 5, none⟩ = some a5 ∧ w.cell? ⟨B, 6, none⟩ = some a6 ∧ w.cell? ⟨B, 7, none⟩ = some a7 ∧ w.cell? ⟨B, 8, none⟩ = some a8 ∧ w.cell? ⟨B, 9, none⟩ = some a9 ∧ w.cell? ⟨B, 10, none⟩ = some a10 ∧ w.cell? ⟨B, 11, none⟩ = some a11 ∧ w.cell? ⟨B, 12, none⟩ = some a12 ∧ w.cell? ⟨B, 13, none⟩ = some a13 ∧ w.cell? ⟨B, 14, none⟩ = some a14 := by
  refine ⟨?_, ?_, ?_, ?_, ?_, ?_, ?_, ?_, ?_, ?_, ?_, ?_, ?_, ?_, ?_⟩ <;> rw [cell_of_row w B _ _ 27 (0, 0) h] <;> rfl

/-- The body, before it is filled. -/
def BodyAt (B : Nat) (w0 : World) (v : Value) (wx : World) : Prop :=
  ∃ (a : Option Addr) (n cap : Nat) (f : Nat → Nat), v = .slice a n cap ∧ (a = none → n = 0 ∧ cap = 0) ∧ (∀ p, a = some p → ∃ g, p = ⟨g, 0, none⟩ ∧ B ≤ g ∧ Row wx g n f) ∧ (∀ i, f i < 256) ∧ n ≤ cap ∧ cap ≤ 9223372036854775807 ∧ n ≤ 65536 ∧ Below B w0 wx

set_option maxRecDepth 100000 in
set_option maxHeartbeats 2000000 in
theorem apart_big (ot ns tt rm fl b7 el nr cr nf cf sch nd cd nk ck nv cv : Nat) (ar af as_ ak av : Option Addr) (raw us : Bool) (w : World) (h : 65536 < nr ∨ 65536 < nk ∨ 65536 < nd) :
    Calls Ybaf.prog 3 #[.agg #[.int .u8 ot, .bool raw, .slice ar nr cr, .int .u16 ns, .int .u32 tt, .int .u8 rm, .int .u8 fl, .int .u8 b7, .int .u8 el, .slice af nf cf, .bool us, .int .u32 sch, .slice as_ nd cd, .slice ak nk ck, .slice av nv cv]] w fun e w' => e = .returned (.bool true) ∧ Below w.heap.size w w' := by
  by_cases h1 : 65536 < nr
  · have i1 : (65536 : Int) < (nr : Int) := by omega
    clear h h1
    go_enter Ybaf.func3, Ybaf.ntmps3
    go_wp2
    go_ret
    exact ⟨rfl, (Below.refl _ _).alloc (Nat.le_refl _) _⟩
  · have i1 : (nr : Int) ≤ 65536 := by omega
    by_cases h2 : 65536 < nk
    · have i2 : (65536 : Int) < (nk : Int) := by omega
      clear h h1 h2
      go_enter Ybaf.func3, Ybaf.ntmps3
      go_wp2
      go_ret
      exact ⟨rfl, (Below.refl _ _).alloc (Nat.le_refl _) _⟩
    · have i2 : (nk : Int) ≤ 65536 := by omega
      have i3 : (65536 : Int) < (nd : Int) := by omega
      clear h h1 h2
      go_enter Ybaf.func3, Ybaf.ntmps3
      go_wp2
      go_ret
      exact ⟨rfl, (Below.refl _ _).alloc (Nat.le_refl _) _⟩
end Go.Proofs.YbulkdlqeFmt
