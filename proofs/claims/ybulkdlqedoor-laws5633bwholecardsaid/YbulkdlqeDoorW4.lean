/-
  THE WALKS, FOURTH PART: (Trace).Snapshot.
-/
import Derived.Test.YbulkdlqeDoorW3
import Derived.BigRegion
namespace Go.Proofs.YbulkdlqeDoor
open Go.RowKit

theorem bcell {W w1 : World} (hb : Below W.heap.size W w1) : (∀ b o, b < W.heap.size → w1.cell? ⟨b, o, none⟩ = W.cell? ⟨b, o, none⟩) ∧ (∀ b o, b < W.heap.size → w1.frozen? ⟨b, o, none⟩ = W.frozen? ⟨b, o, none⟩) :=
  ⟨fun b o h => hb.cell (p := ⟨b, o, none⟩) h, fun b o h => hb.frozen (p := ⟨b, o, none⟩) h⟩

set_option maxHeartbeats 400000 in
theorem snap_no (a0 a1 a2 v : Int) (f wr : Value) (w : World) (a : Option Addr) (len cap : Nat) (hv : 0 ≤ v) (h0 : w.cell? ⟨0, 0, none⟩ = some (.int .u64 24)) (h1 : w.cell? ⟨0, 1, none⟩ = some f)
    (hno : (bits .and .u32 (v / 2) 1 != 0) = false) :
    Calls Ybad.prog 6 #[.agg #[.int .u8 a0, .int .u8 a1, .int .u8 a2, .int .u32 v, wr], .slice a len cap] w fun e w' => e = .returned (.tuple #[.agg #[.int .u32 0, .slice none 0 0], .bool false]) ∧ Below w.heap.size w w' := by
  have hlt : 0 < w.heap.size := World.block_lt_of_cell? w _ h0
  go_enter Ybad.func6, Ybad.ntmps6
  go_wp2_with fail
  refine (thas a0 a1 a2 v f wr _ hv ?_ ?_).mono ?_
  · simp [go_sem, hlt, h0]
  · simp [go_sem, hlt, h1]
  rintro e w' ⟨rfl, hb⟩
  obtain ⟨hc, hf⟩ := bcell hb
  have hz : w.heap.size + 1 < w'.heap.size := by have := hb.size; simp at this; omega
  go_wp2
  refine bodyPost_ret (v := .tuple #[.agg #[.int .u32 0, .slice none 0 0], .bool false]) (by simp [results, Ybad.results6, go_sem, hc]) rfl ⟨rfl, ?_⟩
  exact (((((Below.refl _ _).alloc (Nat.le_refl _) _).alloc (by simp) _).trans (hb.mono (by simp; omega))).setCell (by simp) _).setCell (by simp) _

/-- What Snapshot hands back where the Trace-Type asks for one. -/
def SnapYes (g nl lo : Nat) (x : Int) (w : World) (e : Ending) (w' : World) : Prop :=
  ∃ ad cp, e = .returned (.tuple #[.agg #[.int .u32 x, .slice ad (lo * 4) cp], .bool true]) ∧ (0 < lo → ad = some ⟨g, nl * 4 + 4, none⟩) ∧ Below w.heap.size w w'

set_option maxHeartbeats 400000 in
theorem snap_yes (nl lo s1 s2 s3 : Nat) (a1 a2 v : Int) (f wr : Value) (w : World) (g N c : Nat) (hv : 0 ≤ v) (h0 : w.cell? ⟨0, 0, none⟩ = some (.int .u64 24)) (h1 : w.cell? ⟨0, 1, none⟩ = some f)
    (hyes : (bits .and .u32 (v / 2) 1 != 0) = true) (hnl : nl < 256) (hlo : lo < 256) (hs1 : s1 < 256) (hs2 : s2 < 256) (hs3 : s3 < 256) (hN : nl * 4 + 4 + lo * 4 ≤ N) (hNc : N ≤ c) (_hcm : c ≤ 4000000)
    (c0 : w.cell? ⟨g, nl * 4, none⟩ = some (.int .u8 lo)) (c1 : w.cell? ⟨g, nl * 4 + 1, none⟩ = some (.int .u8 s1)) (c2 : w.cell? ⟨g, nl * 4 + 2, none⟩ = some (.int .u8 s2)) (c3 : w.cell? ⟨g, nl * 4 + 3, none⟩ = some (.int .u8 s3)) :
    Calls Ybad.prog 6 #[.agg #[.int .u8 nl, .int .u8 a1, .int .u8 a2, .int .u32 v, wr], .slice (some ⟨g, 0, none⟩) N c] w (SnapYes g nl lo (bits .or .u32 (bits .or .u32 (s1 * 65536) (s2 * 256)) s3) w) := by
  have hlt : 0 < w.heap.size := World.block_lt_of_cell? w _ h0
  have hgl : g < w.heap.size := World.block_lt_of_cell? w _ c0
  go_enter Ybad.func6, Ybad.ntmps6
  go_wp2_with fail
  refine (thas nl a1 a2 v f wr _ hv ?_ ?_).mono ?_
  · simp [go_sem, hlt, h0]
  · simp [go_sem, hlt, h1]
  rintro e w' ⟨rfl, hb⟩
  obtain ⟨hc, hf⟩ := bcell hb
  have hz : w.heap.size + 1 < w'.heap.size := by have := hb.size; simp at this; omega
  have d0 : w'.cell? ⟨g, nl * 4, none⟩ = some (.int .u8 lo) := (hc g _ (by simp; omega)).trans (by simp [go_sem, hgl, c0])
  have d1 : w'.cell? ⟨g, nl * 4 + 1, none⟩ = some (.int .u8 s1) := (hc g _ (by simp; omega)).trans (by simp [go_sem, hgl, c1])
  have d2 : w'.cell? ⟨g, nl * 4 + 2, none⟩ = some (.int .u8 s2) := (hc g _ (by simp; omega)).trans (by simp [go_sem, hgl, c2])
  have d3 : w'.cell? ⟨g, nl * 4 + 3, none⟩ = some (.int .u8 s3) := (hc g _ (by simp; omega)).trans (by simp [go_sem, hgl, c3])
  go_wp2
  go_region
  all_goals go_wp2
  · refine bodyPost_ret (v := .tuple #[.agg #[.int .u32 (bits .or .u32 (bits .or .u32 (s1 * 65536) (s2 * 256)) s3), .slice (some ⟨g, nl * 4, none⟩) (lo * 4) 0], .bool true]) (by simp [results, Ybad.results6, go_sem, hc]) rfl ⟨_, _, rfl, fun h => by omega, ?_⟩
    exact ((((((Below.refl _ _).alloc (Nat.le_refl _) _).alloc (by simp) _).trans (hb.mono (by simp; omega))).setCell (by simp) _).setCell (by simp) _).drew
  · refine bodyPost_ret (v := .tuple #[.agg #[.int .u32 (bits .or .u32 (bits .or .u32 (s1 * 65536) (s2 * 256)) s3), .slice (some ⟨g, nl * 4 + 4, none⟩) (lo * 4) (c - nl * 4 - 4)], .bool true]) (by simp [results, Ybad.results6, go_sem, hc]) rfl ⟨_, _, rfl, fun _ => rfl, ?_⟩
    exact ((((((Below.refl _ _).alloc (Nat.le_refl _) _).alloc (by simp) _).trans (hb.mono (by simp; omega))).setCell (by simp) _).setCell (by simp) _).drew
end Go.Proofs.YbulkdlqeDoor
