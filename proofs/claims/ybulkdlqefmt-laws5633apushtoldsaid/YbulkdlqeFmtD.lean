/-
  (layout).size: a range over the iterator.
-/
import Derived.Test.YbulkdlqeFmtC
namespace Go.Proofs.YbulkdlqeFmt
open Go.RowKit Go.Shelf
attribute [local go_sem] Oper.semAt_some

/-- The sizes of the fields that have come. -/
def ssum {tt : Nat} (pre : List (FX tt)) : Nat := (pre.map fun x => fsize x.1).sum
theorem ssum_snoc {tt : Nat} (pre : List (FX tt)) (x : FX tt) : ssum (pre ++ [x]) = ssum pre + fsize x.1 := by simp [ssum]
theorem ssum_le {tt : Nat} (pre : List (FX tt)) : ssum pre ≤ 8 * pre.length := by
  induction pre with
  | nil => simp [ssum]
  | cons x xs ih =>
    have := fsize_le x.1
    simp only [ssum, List.map_cons, List.sum_cons, List.length_cons] at ih ⊢
    omega

/-- A struct's block. -/
def FBox (W : World) (B k : Nat) : Prop := W.heap[B]? = some (.cells #[.string (fname k), .int .u64 (fbit k : Int), .int .i64 (fsize k : Int)] 85 (0, 0))
theorem FBox.kept {W W' : World} {row : Option Nat} {B k : Nat} (h : FBox W B k) (hg : W.grownBy W' row) (hr : ∀ r, row = some r → ∃ o : Obj, W.heap[r]? = some o ∧ o.isCells = false) : FBox W' B k := by
  refine (hg.block B (Array.getElem?_eq_some_iff.1 h).1 (fun e => ?_)).trans h
  obtain ⟨o, ho, hc⟩ := hr B e.symm
  rw [show W.heap[B]? = _ from h] at ho
  cases ho
  cases hc
theorem FBox.new (W : World) (k : Nat) : FBox (W.alloc (.cells #[.string (fname k), .int .u64 (fbit k : Int), .int .i64 (fsize k : Int)] 85)) W.heap.size k := World.alloc_heap_new W _
theorem FBox.lt {W : World} {B k : Nat} (h : FBox W B k) : B < W.heap.size := (Array.getElem?_eq_some_iff.1 h).1
theorem FBox.c0 {W : World} {B k : Nat} (h : FBox W B k) : W.cell? ⟨B, 0, none⟩ = some (.string (fname k)) := by simp [World.cell?, show W.heap[B]? = _ from h]
theorem FBox.c1 {W : World} {B k : Nat} (h : FBox W B k) : W.cell? ⟨B, 1, none⟩ = some (.int .u64 (fbit k : Int)) := by simp [World.cell?, show W.heap[B]? = _ from h]
theorem FBox.c2 {W : World} {B k : Nat} (h : FBox W B k) : W.cell? ⟨B, 2, none⟩ = some (.int .i64 (fsize k : Int)) := by simp [World.cell?, show W.heap[B]? = _ from h]

set_option maxRecDepth 100000 in
set_option maxHeartbeats 400000 in
theorem size_in (tt F fo c : Nat) (htt : tt < 4294967296) (w : World) (ht : Tab w F fo) (hF : F < w.heap.size) :
    CallsIn Fence.wide 6 Ybaf.prog 30 #[.agg #[.int .u64 24, .slice (some ⟨F, fo, none⟩) 26 c], .int .u32 tt] w fun e W' => e = .returned (.int .i64 (ssum (flds tt) : Int)) ∧ Below w.heap.size w W' := by
  refine callsIn_of_wp_marks Ybaf.func30 rfl trivial ?_ rfl
  simp only [Ybaf.ntmps30, List.size_toArray, List.length_cons, List.length_nil, Nat.reduceAdd, Nat.reduceSub, Array.replicate_succ, Array.replicate_zero, List.push_toArray, List.append_toArray, List.nil_append, List.cons_append]
  gi_wp2_with fail
  refine ⟨trivial, (callsIn_wide.2 (lay_any F fo c tt _)).mono ?_⟩
  rintro e w' ⟨rfl, rfl⟩
  gi_wp2_with fail
  have bS := ((Boxed.new (w.alloc (Obj.cells #[.int .u64 24, .slice (some ⟨F, fo, none⟩) 26 c] 76)) 3 (.int .i64 0)).alloc (Obj.cells #[.int .u64 24, .slice (some ⟨F, fo, none⟩) 26 c] 76)).alloc (Obj.cells #[.int .u32 (tt : Int)] 24)
  have hB0 : Below w.heap.size w ((((w.alloc (Obj.cells #[.int .u64 24, .slice (some ⟨F, fo, none⟩) 26 c] 76)).alloc (Obj.cells #[.int .i64 0] 3)).alloc (Obj.cells #[.int .u64 24, .slice (some ⟨F, fo, none⟩) 26 c] 76)).alloc (Obj.cells #[.int .u32 (tt : Int)] 24)) :=
    ((((Below.refl _ w).alloc (Nat.le_refl _) _).alloc (by simp) _).alloc (by simp; omega) _).alloc (by simp; omega) _
  have hsz : ((((w.alloc (Obj.cells #[.int .u64 24, .slice (some ⟨F, fo, none⟩) 26 c] 76)).alloc (Obj.cells #[.int .i64 0] 3)).alloc (Obj.cells #[.int .u64 24, .slice (some ⟨F, fo, none⟩) 26 c] 76)).alloc (Obj.cells #[.int .u32 (tt : Int)] 24)).heap.size = w.heap.size + 4 := by simp
  have cl0 : ((((w.alloc (Obj.cells #[.int .u64 24, .slice (some ⟨F, fo, none⟩) 26 c] 76)).alloc (Obj.cells #[.int .i64 0] 3)).alloc (Obj.cells #[.int .u64 24, .slice (some ⟨F, fo, none⟩) 26 c] 76)).alloc (Obj.cells #[.int .u32 (tt : Int)] 24)).cell? ⟨w.heap.size + 1 + 1, 0, none⟩ = some (.int .u64 24) := by simp [go_sem]
  have cl1 : ((((w.alloc (Obj.cells #[.int .u64 24, .slice (some ⟨F, fo, none⟩) 26 c] 76)).alloc (Obj.cells #[.int .i64 0] 3)).alloc (Obj.cells #[.int .u64 24, .slice (some ⟨F, fo, none⟩) 26 c] 76)).alloc (Obj.cells #[.int .u32 (tt : Int)] 24)).cell? ⟨w.heap.size + 1 + 1, 1, none⟩ = some (.slice (some ⟨F, fo, none⟩) 26 c) := by simp [go_sem]
  have cv : ((((w.alloc (Obj.cells #[.int .u64 24, .slice (some ⟨F, fo, none⟩) 26 c] 76)).alloc (Obj.cells #[.int .i64 0] 3)).alloc (Obj.cells #[.int .u64 24, .slice (some ⟨F, fo, none⟩) 26 c] 76)).alloc (Obj.cells #[.int .u32 (tt : Int)] 24)).cell? ⟨w.heap.size + 1 + 1 + 1, 0, none⟩ = some (.int .u32 (tt : Int)) := by simp [go_sem]
  have ht0 := ht.block (hB0.block F hF)
  simp only [World.size_alloc] at bS
  obtain ⟨W0, hW0⟩ : ∃ W0, (((w.alloc (Obj.cells #[.int .u64 24, .slice (some ⟨F, fo, none⟩) 26 c] 76)).alloc (Obj.cells #[.int .i64 0] 3)).alloc (Obj.cells #[.int .u64 24, .slice (some ⟨F, fo, none⟩) 26 c] 76)).alloc (Obj.cells #[.int .u32 (tt : Int)] 24) = W0 := ⟨_, rfl⟩
  rw [hW0] at bS hB0 hsz cl0 cl1 cv ht0 ⊢
  clear hW0
  refine wpIn_rangeFunc_ownH rfl (by omega) (gf := 36) (lb := #[.pointer (some ⟨w.heap.size + 1 + 1, 0, none⟩), .pointer (some ⟨w.heap.size + 1 + 1 + 1, 0, none⟩)]) rfl trivial (enters_of Ybaf.func36 (by kernel_rfl) rfl)
    (lay_stops 5 (by omega) (w.heap.size + 1 + 1) (w.heap.size + 1 + 1 + 1) (w.heap.size + 1) tt F fo c htt W0 (by omega) (by omega) (by omega) (by omega) cl0 cl1 cv ht0) KeepC.trans (fun W l o o' _ hl ho _ => KeepC.putObj _ W l o o' hl ho) (Below.refl _ _) (fun _ => rfl)
    (fun pre W => Boxed W (w.heap.size + 1) 3 (.int .i64 (ssum pre : Int)) ∧ Below w.heap.size w W)
    (fun _ _ _ => False)
    (OwnFrom.and (Own.from (boxed_own _ _ _) _) (ownFrom_below (Nat.le_refl _) (by omega)))
    (fun _ _ _ _ _ hs _ _ => hs)
    ⟨bS, hB0⟩
    (fun x a' W => ∃ Bx, w.heap.size + 1 < Bx ∧ FBox W Bx x.1 ∧ a' = { tmps := #[.agg #[.int .u64 24, .slice (some ⟨F, fo, none⟩) 26 c], .int .u32 tt, .pointer (some ⟨w.heap.size, 0, none⟩), undef, .int .i64 0, .pointer (some ⟨w.heap.size + 1, 0, none⟩), .pointer (some ⟨Bx, 0, none⟩), .agg #[.int .u64 24, .slice (some ⟨F, fo, none⟩) 26 c], .int .u32 tt, .func (.func 36) #[] #[.pointer (some ⟨w.heap.size + 1 + 1, 0, none⟩), .pointer (some ⟨w.heap.size + 1 + 1 + 1, 0, none⟩)], fval x.1, .int .i64 (foff tt x.1 : Int), undef, undef, undef, undef, undef], defers := [] })
    (fun x a' _ X Y row hs hg hr => by obtain ⟨Bx, h1, h2, h3⟩ := hs; exact ⟨Bx, h1, h2.kept hg (fun r e => (hr r e).2), h3⟩)
    ?assign ?body ?done ?stop
  case assign =>
    rintro l pre x W K ⟨bS1, hB1⟩ hK
    dsimp only [fenc, fval]
    gi_wp2
    exact hK _ _ ((KeepsOthers.alloc _ _).from _) (KeepC.of_below ((Below.refl _ W).alloc (Nat.le_refl _) _) _) ⟨bS1.alloc _, hB1.alloc hB1.size _⟩ ⟨W.heap.size, bS1.lt, FBox.new W x.1, rfl⟩
  case body =>
    rintro l pre x a' W hl _ ⟨bS1, hB1⟩ ⟨Bx, hBx, bX, rfl⟩ hlt
    have cS := bS1.cell
    have fS := bS1.frozen
    have c2 := bX.c2
    have hs1 := ssum_le pre
    have hs2 := fsize_le x.1
    gi_wp2
    exact ⟨(KeepsOthers.setCell _ _ _).from _, KeepC.of_but (But.setCell _ _ _ _ _), by rw [ssum_snoc, Int.natCast_add]; exact bS1.set _, hB1.setCell (p := ⟨w.heap.size + 1, 0, none⟩) (by simp) _⟩
  case done =>
    intro D zs W hD hz hI hK
    obtain ⟨bS1, hB1⟩ := hI
    rw [hz] at bS1
    clear hz
    have cS := bS1.cell
    gi_wp2
    refine ⟨by simp, .inl ⟨_, _, rfl, run_takeDeferred hK, ?_⟩⟩
    exact ⟨_, results_tmp rfl _ _ _, rfl, hB1.trans (belowK_b (w := w) (Nat.le_refl _) W D _ _ (by omega) hK rfl rfl)⟩
  case stop =>
    rintro D c pre W _ _ h _
    exact h.elim
end Go.Proofs.YbulkdlqeFmt
