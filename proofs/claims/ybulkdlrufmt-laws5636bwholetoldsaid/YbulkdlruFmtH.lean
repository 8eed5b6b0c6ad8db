/-
  The closures that add to a certificate.
-/
import Derived.Test.YbulkdlruFmtG
namespace Go.Proofs.YbulkdlruFmt
open Go.RowKit Go.Shelf
set_option linter.unusedVariables false
set_option linter.unusedSimpArgs false

set_option maxRecDepth 100000 in
set_option maxHeartbeats 4000000 in
theorem add42 (C b B T : Nat) (cf : Nat → Nat) (v : Nat) (h : Nat → Nat) (l : List (Nat × Option Nat)) (e : Nat × Option Nat) (W : World) (hC : W.heap[C]? = some (.cells #[.pointer (some ⟨b, 0, none⟩)] 123 (0, 0))) (hA : CertAt W 141 147 B T cf b v h l) (hl : l.length ≤ 1000) (hB : B ≤ W.heap.size) (hb : b < B) (hCB : C < B) (hCb : C ≠ b) :
    Calls Ybaf.prog 42 #[.int .i64 (e.1 : Int), sigV T cf e.2, .pointer (some ⟨C, 0, none⟩)] W fun en w' => en = .returned (.tuple #[]) ∧ CertAt w' 141 147 B T cf b v h (l ++ [e]) ∧ Kp B [b] W w' ∧ Errs W w' := by
  obtain ⟨ga, gc, hb1, hown⟩ := hA
  obtain ⟨c0, cc, c33, cfz⟩ := c34_cells hb1
  obtain ⟨sa, sm, sk, hsv⟩ := sigV_slice T cf e.2
  obtain ⟨i0, hi, hz0⟩ := Option.map_eq_some_iff.1 info147
  simp only [Prod.mk.injEq] at hz0
  obtain ⟨hz1, hz2, hz3⟩ := hz0
  obtain ⟨z0, hz4, hz5⟩ := Option.map_eq_some_iff.1 hz1
  have cC : W.cell? ⟨C, 0, none⟩ = some (.pointer (some ⟨b, 0, none⟩)) := by rw [cell_of_row W C _ _ 123 (0, 0) hC]; rfl
  have hone := E35_one v h e.1 T cf e.2
  have hrg := range_of cc
  rw [hsv] at hone ⊢
  go_enter Ybaf.func42, Ybaf.ntmps42
  go_wp2
  refine wp_region_held (S := fun w' => w'.cell? ⟨C, 0, none⟩ = some (.pointer (some ⟨b, 0, none⟩)) ∧ w'.cell? ⟨b, 0, none⟩ = some (.int .u64 (v : Int)) ∧ w'.rangeAt b 1 (vals h 32)) (by kernel_rfl) ?_
  change wpAnyH _ _ _ _ _ 21 _ ⟨#[.int .i64 (e.1 : Int), .slice sa sm sk, .pointer (some ⟨C, 0, none⟩), undef, undef, undef, undef, undef, undef, undef, undef, undef, undef, undef, undef, undef, undef, undef, undef, undef, undef, undef, undef, undef, undef], []⟩ (World.drew W)
  have hS : W.drew.cell? ⟨C, 0, none⟩ = some (.pointer (some ⟨b, 0, none⟩)) ∧ W.drew.cell? ⟨b, 0, none⟩ = some (.int .u64 (v : Int)) ∧ W.drew.rangeAt b 1 (vals h 32) := ⟨cC, c0, hrg⟩
  refine take_op 0 (.pointer (some ⟨b, 0, none⟩)) rfl rfl (by kernel_rfl) (by kernel_rfl) (by kernel_rfl) (fun _ _ _ h => h) (fun w hw => exec_load1 (fun _ => by kernel_rfl) (.tmp 2) rfl ⟨C, 0, none⟩ rfl hw.1) hS ?_
  change wpAnyH _ _ _ _ _ _ _ ⟨#[.int .i64 (e.1 : Int), .slice sa sm sk, .pointer (some ⟨C, 0, none⟩), undef, undef, .pointer (some ⟨b, 0, none⟩), undef, undef, undef, undef, undef, undef, undef, undef, undef, undef, undef, undef, undef, undef, undef, undef, undef, undef, undef], []⟩ _
  refine take_op 1 (.pointer (some ⟨b, 0, none⟩)) rfl rfl (by kernel_rfl) (by kernel_rfl) (by kernel_rfl) (fun _ _ _ h => h) (fun w hw => exec_load1 (fun _ => by kernel_rfl) (.tmp 2) rfl ⟨C, 0, none⟩ rfl hw.1) hS ?_
  change wpAnyH _ _ _ _ _ _ _ ⟨#[.int .i64 (e.1 : Int), .slice sa sm sk, .pointer (some ⟨C, 0, none⟩), undef, undef, .pointer (some ⟨b, 0, none⟩), .pointer (some ⟨b, 0, none⟩), undef, undef, undef, undef, undef, undef, undef, undef, undef, undef, undef, undef, undef, undef, undef, undef, undef, undef], []⟩ _
  refine take_op 2 (.pointer (some ⟨b, 0, none⟩)) rfl rfl (by kernel_rfl) (by kernel_rfl) (by kernel_rfl) (fun _ _ _ h => h) (fun w hw => by kernel_rfl) hS ?_
  change wpAnyH _ _ _ _ _ _ _ ⟨#[.int .i64 (e.1 : Int), .slice sa sm sk, .pointer (some ⟨C, 0, none⟩), undef, undef, .pointer (some ⟨b, 0, none⟩), .pointer (some ⟨b, 0, none⟩), .pointer (some ⟨b, 0, none⟩), undef, undef, undef, undef, undef, undef, undef, undef, undef, undef, undef, undef, undef, undef, undef, undef, undef], []⟩ _
  refine take_op 3 (.pointer (some ⟨b, 33, none⟩)) rfl rfl (by kernel_rfl) (by kernel_rfl) (by kernel_rfl) (fun _ _ _ h => h) (fun w hw => by kernel_rfl) hS ?_
  change wpAnyH _ _ _ _ _ _ _ ⟨#[.int .i64 (e.1 : Int), .slice sa sm sk, .pointer (some ⟨C, 0, none⟩), undef, undef, .pointer (some ⟨b, 0, none⟩), .pointer (some ⟨b, 0, none⟩), .pointer (some ⟨b, 0, none⟩), .pointer (some ⟨b, 33, none⟩), undef, undef, undef, undef, undef, undef, undef, undef, undef, undef, undef, undef, undef, undef, undef, undef], []⟩ _
  refine take_op 5 (.pointer (some ⟨b, 0, none⟩)) rfl rfl (by kernel_rfl) (by kernel_rfl) (by kernel_rfl) (fun _ _ _ h => h) (fun w hw => exec_load1 (fun _ => by kernel_rfl) (.tmp 2) rfl ⟨C, 0, none⟩ rfl hw.1) hS ?_
  change wpAnyH _ _ _ _ _ _ _ ⟨#[.int .i64 (e.1 : Int), .slice sa sm sk, .pointer (some ⟨C, 0, none⟩), undef, undef, .pointer (some ⟨b, 0, none⟩), .pointer (some ⟨b, 0, none⟩), .pointer (some ⟨b, 0, none⟩), .pointer (some ⟨b, 33, none⟩), undef, .pointer (some ⟨b, 0, none⟩), undef, undef, undef, undef, undef, undef, undef, undef, undef, undef, undef, undef, undef, undef], []⟩ _
  refine take_op 6 (.pointer (some ⟨b, 0, none⟩)) rfl rfl (by kernel_rfl) (by kernel_rfl) (by kernel_rfl) (fun _ _ _ h => h) (fun w hw => by kernel_rfl) hS ?_
  change wpAnyH _ _ _ _ _ _ _ ⟨#[.int .i64 (e.1 : Int), .slice sa sm sk, .pointer (some ⟨C, 0, none⟩), undef, undef, .pointer (some ⟨b, 0, none⟩), .pointer (some ⟨b, 0, none⟩), .pointer (some ⟨b, 0, none⟩), .pointer (some ⟨b, 33, none⟩), undef, .pointer (some ⟨b, 0, none⟩), .pointer (some ⟨b, 0, none⟩), undef, undef, undef, undef, undef, undef, undef, undef, undef, undef, undef, undef, undef], []⟩ _
  refine take_op 7 (.pointer (some ⟨b, 0, none⟩)) rfl rfl (by kernel_rfl) (by kernel_rfl) (by kernel_rfl) (fun _ _ _ h => h) (fun w hw => by kernel_rfl) hS ?_
  change wpAnyH _ _ _ _ _ _ _ ⟨#[.int .i64 (e.1 : Int), .slice sa sm sk, .pointer (some ⟨C, 0, none⟩), undef, undef, .pointer (some ⟨b, 0, none⟩), .pointer (some ⟨b, 0, none⟩), .pointer (some ⟨b, 0, none⟩), .pointer (some ⟨b, 33, none⟩), undef, .pointer (some ⟨b, 0, none⟩), .pointer (some ⟨b, 0, none⟩), .pointer (some ⟨b, 0, none⟩), undef, undef, undef, undef, undef, undef, undef, undef, undef, undef, undef, undef], []⟩ _
  refine take_op 8 (.int .u64 (v : Int)) rfl rfl (by kernel_rfl) (by kernel_rfl) (by kernel_rfl) (fun _ _ _ h => h) (fun w hw => exec_load1 (fun _ => by kernel_rfl) (.tmp 12) rfl ⟨b, 0, none⟩ rfl hw.2.1) hS ?_
  change wpAnyH _ _ _ _ _ _ _ ⟨#[.int .i64 (e.1 : Int), .slice sa sm sk, .pointer (some ⟨C, 0, none⟩), undef, undef, .pointer (some ⟨b, 0, none⟩), .pointer (some ⟨b, 0, none⟩), .pointer (some ⟨b, 0, none⟩), .pointer (some ⟨b, 33, none⟩), undef, .pointer (some ⟨b, 0, none⟩), .pointer (some ⟨b, 0, none⟩), .pointer (some ⟨b, 0, none⟩), .int .u64 (v : Int), undef, undef, undef, undef, undef, undef, undef, undef, undef, undef, undef], []⟩ _
  refine take_op 9 (.pointer (some ⟨b, 0, none⟩)) rfl rfl (by kernel_rfl) (by kernel_rfl) (by kernel_rfl) (fun _ _ _ h => h) (fun w hw => exec_load1 (fun _ => by kernel_rfl) (.tmp 2) rfl ⟨C, 0, none⟩ rfl hw.1) hS ?_
  change wpAnyH _ _ _ _ _ _ _ ⟨#[.int .i64 (e.1 : Int), .slice sa sm sk, .pointer (some ⟨C, 0, none⟩), undef, undef, .pointer (some ⟨b, 0, none⟩), .pointer (some ⟨b, 0, none⟩), .pointer (some ⟨b, 0, none⟩), .pointer (some ⟨b, 33, none⟩), undef, .pointer (some ⟨b, 0, none⟩), .pointer (some ⟨b, 0, none⟩), .pointer (some ⟨b, 0, none⟩), .int .u64 (v : Int), .pointer (some ⟨b, 0, none⟩), undef, undef, undef, undef, undef, undef, undef, undef, undef, undef], []⟩ _
  refine take_op 10 (.pointer (some ⟨b, 0, none⟩)) rfl rfl (by kernel_rfl) (by kernel_rfl) (by kernel_rfl) (fun _ _ _ h => h) (fun w hw => by kernel_rfl) hS ?_
  change wpAnyH _ _ _ _ _ _ _ ⟨#[.int .i64 (e.1 : Int), .slice sa sm sk, .pointer (some ⟨C, 0, none⟩), undef, undef, .pointer (some ⟨b, 0, none⟩), .pointer (some ⟨b, 0, none⟩), .pointer (some ⟨b, 0, none⟩), .pointer (some ⟨b, 33, none⟩), undef, .pointer (some ⟨b, 0, none⟩), .pointer (some ⟨b, 0, none⟩), .pointer (some ⟨b, 0, none⟩), .int .u64 (v : Int), .pointer (some ⟨b, 0, none⟩), .pointer (some ⟨b, 0, none⟩), undef, undef, undef, undef, undef, undef, undef, undef, undef], []⟩ _
  refine take_op 11 (.pointer (some ⟨b, 1, none⟩)) rfl rfl (by kernel_rfl) (by kernel_rfl) (by kernel_rfl) (fun _ _ _ h => h) (fun w hw => by kernel_rfl) hS ?_
  change wpAnyH _ _ _ _ _ _ _ ⟨#[.int .i64 (e.1 : Int), .slice sa sm sk, .pointer (some ⟨C, 0, none⟩), undef, undef, .pointer (some ⟨b, 0, none⟩), .pointer (some ⟨b, 0, none⟩), .pointer (some ⟨b, 0, none⟩), .pointer (some ⟨b, 33, none⟩), undef, .pointer (some ⟨b, 0, none⟩), .pointer (some ⟨b, 0, none⟩), .pointer (some ⟨b, 0, none⟩), .int .u64 (v : Int), .pointer (some ⟨b, 0, none⟩), .pointer (some ⟨b, 0, none⟩), .pointer (some ⟨b, 1, none⟩), undef, undef, undef, undef, undef, undef, undef, undef], []⟩ _
  refine take_op 12 (.agg (vals h 32).toArray) rfl rfl (by kernel_rfl) (by kernel_rfl) (by kernel_rfl) (fun _ _ _ h => h) (fun w hw => exec_loadW wide60 (.tmp 16) rfl b 1 rfl (vals h 32) (length_vals _ _) hw.2.2) hS ?_
  change wpAnyH _ _ _ _ _ _ _ ⟨#[.int .i64 (e.1 : Int), .slice sa sm sk, .pointer (some ⟨C, 0, none⟩), undef, undef, .pointer (some ⟨b, 0, none⟩), .pointer (some ⟨b, 0, none⟩), .pointer (some ⟨b, 0, none⟩), .pointer (some ⟨b, 33, none⟩), undef, .pointer (some ⟨b, 0, none⟩), .pointer (some ⟨b, 0, none⟩), .pointer (some ⟨b, 0, none⟩), .int .u64 (v : Int), .pointer (some ⟨b, 0, none⟩), .pointer (some ⟨b, 0, none⟩), .pointer (some ⟨b, 1, none⟩), .agg (vals h 32).toArray, undef, undef, undef, undef, undef, undef, undef], []⟩ _
  refine take_op 13 (.int .i64 (e.1 : Int)) rfl rfl (by kernel_rfl) (by kernel_rfl) (by kernel_rfl) (fun _ _ _ h => h) (fun w hw => by kernel_rfl) hS ?_
  change wpAnyH _ _ _ _ _ _ _ ⟨#[.int .i64 (e.1 : Int), .slice sa sm sk, .pointer (some ⟨C, 0, none⟩), undef, undef, .pointer (some ⟨b, 0, none⟩), .pointer (some ⟨b, 0, none⟩), .pointer (some ⟨b, 0, none⟩), .pointer (some ⟨b, 33, none⟩), undef, .pointer (some ⟨b, 0, none⟩), .pointer (some ⟨b, 0, none⟩), .pointer (some ⟨b, 0, none⟩), .int .u64 (v : Int), .pointer (some ⟨b, 0, none⟩), .pointer (some ⟨b, 0, none⟩), .pointer (some ⟨b, 1, none⟩), .agg (vals h 32).toArray, .int .i64 (e.1 : Int), undef, undef, undef, undef, undef, undef], []⟩ _
  refine take_op 14 (.slice sa sm sk) rfl rfl (by kernel_rfl) (by kernel_rfl) (by kernel_rfl) (fun _ _ _ h => h) (fun w hw => by kernel_rfl) hS ?_
  change wpAnyH _ _ _ _ _ _ _ ⟨#[.int .i64 (e.1 : Int), .slice sa sm sk, .pointer (some ⟨C, 0, none⟩), undef, undef, .pointer (some ⟨b, 0, none⟩), .pointer (some ⟨b, 0, none⟩), .pointer (some ⟨b, 0, none⟩), .pointer (some ⟨b, 33, none⟩), undef, .pointer (some ⟨b, 0, none⟩), .pointer (some ⟨b, 0, none⟩), .pointer (some ⟨b, 0, none⟩), .int .u64 (v : Int), .pointer (some ⟨b, 0, none⟩), .pointer (some ⟨b, 0, none⟩), .pointer (some ⟨b, 1, none⟩), .agg (vals h 32).toArray, .int .i64 (e.1 : Int), .slice sa sm sk, undef, undef, undef, undef, undef], []⟩ _
  refine take_op 15 (.agg (E35 v h e.1 (.slice sa sm sk)).toArray) rfl rfl (by kernel_rfl) (by kernel_rfl) (by kernel_rfl) (fun _ _ _ h => h) (fun w hw => exec_build147 (.tmp 13) (.tmp 17) (.tmp 18) (.tmp 19) rfl v h e.1 sa sm sk rfl rfl rfl rfl) hS ?_
  change wpAnyH _ _ _ _ _ _ _ ⟨#[.int .i64 (e.1 : Int), .slice sa sm sk, .pointer (some ⟨C, 0, none⟩), undef, undef, .pointer (some ⟨b, 0, none⟩), .pointer (some ⟨b, 0, none⟩), .pointer (some ⟨b, 0, none⟩), .pointer (some ⟨b, 33, none⟩), undef, .pointer (some ⟨b, 0, none⟩), .pointer (some ⟨b, 0, none⟩), .pointer (some ⟨b, 0, none⟩), .int .u64 (v : Int), .pointer (some ⟨b, 0, none⟩), .pointer (some ⟨b, 0, none⟩), .pointer (some ⟨b, 1, none⟩), .agg (vals h 32).toArray, .int .i64 (e.1 : Int), .slice sa sm sk, .agg (E35 v h e.1 (.slice sa sm sk)).toArray, undef, undef, undef, undef], []⟩ _
  have hbl : b < W.heap.size := by omega
  have hCl : C < W.heap.size := by omega
  have hk1 : Kp B [] W (W.drew.alloc (.cells (E35 v h e.1 (.slice sa sm sk)).toArray 147)) := ((Same.drew [] W).kp hB).trans ((Same.alloc [] W.drew _).kp hB)
  have he1 : Errs W (W.drew.alloc (.cells (E35 v h e.1 (.slice sa sm sk)).toArray 147)) := (Same.drew [] W).errs.trans (Same.alloc [] W.drew _).errs
  obtain ⟨p0, pr, p33, pf⟩ := c34_cells ((hk1.block b hb (by simp)).trans hb1)
  have hS1 : (W.drew.alloc (.cells (E35 v h e.1 (.slice sa sm sk)).toArray 147)).cell? ⟨C, 0, none⟩ = some (.pointer (some ⟨b, 0, none⟩)) ∧ (W.drew.alloc (.cells (E35 v h e.1 (.slice sa sm sk)).toArray 147)).cell? ⟨b, 0, none⟩ = some (.int .u64 (v : Int)) ∧ (W.drew.alloc (.cells (E35 v h e.1 (.slice sa sm sk)).toArray 147)).rangeAt b 1 (vals h 32) := ⟨(World.cell?_of_block (w := W) (hk1.block C hCB (by simp))).trans cC, p0, range_of pr⟩
  have fin : ∀ w' ga' gc', w'.ownsRow B 147 35 (.slice ga' (l.length + 1) gc') (l.length + 1) (ecs T cf v h l ++ E35 v h e.1 (.slice sa sm sk)) → Kp B [] W w' → Errs W w' → CertAt (w'.setCell ⟨b, 33, none⟩ (.slice ga' (l.length + 1) gc')) 141 147 B T cf b v h (l ++ [e]) ∧ Kp B [b] W (w'.setCell ⟨b, 33, none⟩ (.slice ga' (l.length + 1) gc')) ∧ Errs W (w'.setCell ⟨b, 33, none⟩ (.slice ga' (l.length + 1) gc')) := by
    intro w' ga' gc' h1 h2 h3
    have hb' := (h2.block b hb (by simp)).trans hb1
    refine ⟨⟨ga', gc', ?_, ?_⟩, (h2.more (by simp)).trans ((Same.setCell [b] _ _ _ (by simp)).kp (Nat.le_trans hB h2.size)), h3.trans ((Same.setCell [b] _ _ _ (by simp)).errs (apart_one hb' (by omega)))⟩
    · simpa using c34_set (sl' := .slice ga' (l.length + 1) gc') hb'
    · rw [ecs_snoc, hsv]
      simpa using ownsRow_setCell_below h1 (a := ⟨b, 33, none⟩) hb _
  refine two_ops 4 16 (by kernel_rfl) rfl rfl rfl rfl ?_ ?_
  · refine wp_value (exec_load1 (fun _ => by kernel_rfl) (.tmp 8) rfl ⟨b, 33, none⟩ rfl c33) ⟨hS, ?_⟩
    change wpAnyH _ _ _ _ _ _ _ ⟨#[.int .i64 (e.1 : Int), .slice sa sm sk, .pointer (some ⟨C, 0, none⟩), undef, undef, .pointer (some ⟨b, 0, none⟩), .pointer (some ⟨b, 0, none⟩), .pointer (some ⟨b, 0, none⟩), .pointer (some ⟨b, 33, none⟩), .slice ga l.length gc, .pointer (some ⟨b, 0, none⟩), .pointer (some ⟨b, 0, none⟩), .pointer (some ⟨b, 0, none⟩), .int .u64 (v : Int), .pointer (some ⟨b, 0, none⟩), .pointer (some ⟨b, 0, none⟩), .pointer (some ⟨b, 1, none⟩), .agg (vals h 32).toArray, .int .i64 (e.1 : Int), .slice sa sm sk, .agg (E35 v h e.1 (.slice sa sm sk)).toArray, undef, undef, undef, undef], []⟩ _
    refine one_op 16 (by kernel_rfl) rfl rfl ?_
    refine wp_bslice147 (.tmp 20) rfl v h e.1 sa sm sk rfl ⟨hS1, ?_⟩
    change wpAnyH _ _ _ _ _ _ _ ⟨#[.int .i64 (e.1 : Int), .slice sa sm sk, .pointer (some ⟨C, 0, none⟩), undef, undef, .pointer (some ⟨b, 0, none⟩), .pointer (some ⟨b, 0, none⟩), .pointer (some ⟨b, 0, none⟩), .pointer (some ⟨b, 33, none⟩), .slice ga l.length gc, .pointer (some ⟨b, 0, none⟩), .pointer (some ⟨b, 0, none⟩), .pointer (some ⟨b, 0, none⟩), .int .u64 (v : Int), .pointer (some ⟨b, 0, none⟩), .pointer (some ⟨b, 0, none⟩), .pointer (some ⟨b, 1, none⟩), .agg (vals h 32).toArray, .int .i64 (e.1 : Int), .slice sa sm sk, .agg (E35 v h e.1 (.slice sa sm sk)).toArray, .slice (some ⟨W.heap.size, 0, none⟩) 1 1, undef, undef, undef], []⟩ _
    refine one_op 17 (by kernel_rfl) rfl rfl ?_
    refine wp_append_own (.tmp 9) (.tmp 21) 139 rfl B 147 i0 z0 35 72 Ybaf.underlying139 hi hz4 hz2 hz3 hz5 (by omega) _ l.length (ecs T cf v h l) rfl (hown.alloc _) ⟨W.heap.size, 0, none⟩ 1 1 (E35 v h e.1 (.slice sa sm sk)) rfl (by rw [E35_length]) (new_cells W.drew (E35 v h e.1 (.slice sa sm sk)) 147) hone (by unfold maxLen; omega) (by omega) (by simp; omega) ?_
    intro v' w2 hown' hgrow hnil
    obtain ⟨ga2, gc2, hv'⟩ := own_slice hown'
    subst hv'
    have hkp : Kp B [] W w2 := hk1.trans (grown_kp hown hgrow (by simp; omega))
    have hke : Errs W w2 := he1.trans (grown_errs (hown.alloc _) (by omega) hgrow)
    obtain ⟨q0, qr, q33, qf⟩ := c34_cells ((hkp.block b hb (by simp)).trans hb1)
    have hS2 : w2.cell? ⟨C, 0, none⟩ = some (.pointer (some ⟨b, 0, none⟩)) ∧ w2.cell? ⟨b, 0, none⟩ = some (.int .u64 (v : Int)) ∧ w2.rangeAt b 1 (vals h 32) := ⟨(World.cell?_of_block (w := W) (hkp.block C hCB (by simp))).trans cC, q0, range_of qr⟩
    refine ⟨hS2, ?_⟩
    change wpAnyH _ _ _ _ _ _ _ ⟨#[.int .i64 (e.1 : Int), .slice sa sm sk, .pointer (some ⟨C, 0, none⟩), undef, undef, .pointer (some ⟨b, 0, none⟩), .pointer (some ⟨b, 0, none⟩), .pointer (some ⟨b, 0, none⟩), .pointer (some ⟨b, 33, none⟩), .slice ga l.length gc, .pointer (some ⟨b, 0, none⟩), .pointer (some ⟨b, 0, none⟩), .pointer (some ⟨b, 0, none⟩), .int .u64 (v : Int), .pointer (some ⟨b, 0, none⟩), .pointer (some ⟨b, 0, none⟩), .pointer (some ⟨b, 1, none⟩), .agg (vals h 32).toArray, .int .i64 (e.1 : Int), .slice sa sm sk, .agg (E35 v h e.1 (.slice sa sm sk)).toArray, .slice (some ⟨W.heap.size, 0, none⟩) 1 1, .slice ga2 (l.length + 1) gc2, undef, undef], []⟩ _
    refine take_op 18 (.pointer (some ⟨b, 0, none⟩)) rfl rfl (by kernel_rfl) (by kernel_rfl) (by kernel_rfl) (fun _ _ _ h => h) (fun w hw => by kernel_rfl) hS2 ?_
    change wpAnyH _ _ _ _ _ _ _ ⟨#[.int .i64 (e.1 : Int), .slice sa sm sk, .pointer (some ⟨C, 0, none⟩), undef, undef, .pointer (some ⟨b, 0, none⟩), .pointer (some ⟨b, 0, none⟩), .pointer (some ⟨b, 0, none⟩), .pointer (some ⟨b, 33, none⟩), .slice ga l.length gc, .pointer (some ⟨b, 0, none⟩), .pointer (some ⟨b, 0, none⟩), .pointer (some ⟨b, 0, none⟩), .int .u64 (v : Int), .pointer (some ⟨b, 0, none⟩), .pointer (some ⟨b, 0, none⟩), .pointer (some ⟨b, 1, none⟩), .agg (vals h 32).toArray, .int .i64 (e.1 : Int), .slice sa sm sk, .agg (E35 v h e.1 (.slice sa sm sk)).toArray, .slice (some ⟨W.heap.size, 0, none⟩) 1 1, .slice ga2 (l.length + 1) gc2, .pointer (some ⟨b, 0, none⟩), undef], []⟩ _
    refine take_op 19 (.pointer (some ⟨b, 33, none⟩)) rfl rfl (by kernel_rfl) (by kernel_rfl) (by kernel_rfl) (fun _ _ _ h => h) (fun w hw => by kernel_rfl) hS2 ?_
    change wpAnyH _ _ _ _ _ _ _ ⟨#[.int .i64 (e.1 : Int), .slice sa sm sk, .pointer (some ⟨C, 0, none⟩), undef, undef, .pointer (some ⟨b, 0, none⟩), .pointer (some ⟨b, 0, none⟩), .pointer (some ⟨b, 0, none⟩), .pointer (some ⟨b, 33, none⟩), .slice ga l.length gc, .pointer (some ⟨b, 0, none⟩), .pointer (some ⟨b, 0, none⟩), .pointer (some ⟨b, 0, none⟩), .int .u64 (v : Int), .pointer (some ⟨b, 0, none⟩), .pointer (some ⟨b, 0, none⟩), .pointer (some ⟨b, 1, none⟩), .agg (vals h 32).toArray, .int .i64 (e.1 : Int), .slice sa sm sk, .agg (E35 v h e.1 (.slice sa sm sk)).toArray, .slice (some ⟨W.heap.size, 0, none⟩) 1 1, .slice ga2 (l.length + 1) gc2, .pointer (some ⟨b, 0, none⟩), .pointer (some ⟨b, 33, none⟩)], []⟩ _
    refine one_op 20 (by kernel_rfl) rfl rfl ?_
    obtain ⟨k1, k2⟩ := fin w2 ga2 gc2 hown' hkp hke
    obtain ⟨ga3, gc3, hb3, _⟩ := k1
    obtain ⟨r0, rr, r33, rf⟩ := c34_cells hb3
    refine wp_skip (exec_store1 (.tmp 24) (.tmp 22) rfl b 33 rfl ga2 (l.length + 1) gc2 rfl (fun _ => by kernel_rfl) q33 (qf 33)) ⟨⟨(World.cell?_of_block (w := w2) (Below.heap_setCell _ _ _ _ (by show C ≠ b; exact hCb))).trans hS2.1, r0, range_of rr⟩, ?_⟩
    refine wpAnyH_done (by kernel_rfl) ?_ _
    go_wp2
    go_end0
    exact ⟨rfl, fin w2 ga2 gc2 hown' hkp hke⟩
  · refine wp_bslice147 (.tmp 20) rfl v h e.1 sa sm sk rfl ⟨hS1, ?_⟩
    change wpAnyH _ _ _ _ _ _ _ ⟨#[.int .i64 (e.1 : Int), .slice sa sm sk, .pointer (some ⟨C, 0, none⟩), undef, undef, .pointer (some ⟨b, 0, none⟩), .pointer (some ⟨b, 0, none⟩), .pointer (some ⟨b, 0, none⟩), .pointer (some ⟨b, 33, none⟩), undef, .pointer (some ⟨b, 0, none⟩), .pointer (some ⟨b, 0, none⟩), .pointer (some ⟨b, 0, none⟩), .int .u64 (v : Int), .pointer (some ⟨b, 0, none⟩), .pointer (some ⟨b, 0, none⟩), .pointer (some ⟨b, 1, none⟩), .agg (vals h 32).toArray, .int .i64 (e.1 : Int), .slice sa sm sk, .agg (E35 v h e.1 (.slice sa sm sk)).toArray, .slice (some ⟨W.heap.size, 0, none⟩) 1 1, undef, undef, undef], []⟩ _
    refine one_op 4 (by kernel_rfl) rfl rfl ?_
    refine wp_value (exec_load1 (fun _ => by kernel_rfl) (.tmp 8) rfl ⟨b, 33, none⟩ rfl p33) ⟨hS1, ?_⟩
    change wpAnyH _ _ _ _ _ _ _ ⟨#[.int .i64 (e.1 : Int), .slice sa sm sk, .pointer (some ⟨C, 0, none⟩), undef, undef, .pointer (some ⟨b, 0, none⟩), .pointer (some ⟨b, 0, none⟩), .pointer (some ⟨b, 0, none⟩), .pointer (some ⟨b, 33, none⟩), .slice ga l.length gc, .pointer (some ⟨b, 0, none⟩), .pointer (some ⟨b, 0, none⟩), .pointer (some ⟨b, 0, none⟩), .int .u64 (v : Int), .pointer (some ⟨b, 0, none⟩), .pointer (some ⟨b, 0, none⟩), .pointer (some ⟨b, 1, none⟩), .agg (vals h 32).toArray, .int .i64 (e.1 : Int), .slice sa sm sk, .agg (E35 v h e.1 (.slice sa sm sk)).toArray, .slice (some ⟨W.heap.size, 0, none⟩) 1 1, undef, undef, undef], []⟩ _
    refine one_op 17 (by kernel_rfl) rfl rfl ?_
    refine wp_append_own (.tmp 9) (.tmp 21) 139 rfl B 147 i0 z0 35 72 Ybaf.underlying139 hi hz4 hz2 hz3 hz5 (by omega) _ l.length (ecs T cf v h l) rfl (hown.alloc _) ⟨W.heap.size, 0, none⟩ 1 1 (E35 v h e.1 (.slice sa sm sk)) rfl (by rw [E35_length]) (new_cells W.drew (E35 v h e.1 (.slice sa sm sk)) 147) hone (by unfold maxLen; omega) (by omega) (by simp; omega) ?_
    intro v' w2 hown' hgrow hnil
    obtain ⟨ga2, gc2, hv'⟩ := own_slice hown'
    subst hv'
    have hkp : Kp B [] W w2 := hk1.trans (grown_kp hown hgrow (by simp; omega))
    have hke : Errs W w2 := he1.trans (grown_errs (hown.alloc _) (by omega) hgrow)
    obtain ⟨q0, qr, q33, qf⟩ := c34_cells ((hkp.block b hb (by simp)).trans hb1)
    have hS2 : w2.cell? ⟨C, 0, none⟩ = some (.pointer (some ⟨b, 0, none⟩)) ∧ w2.cell? ⟨b, 0, none⟩ = some (.int .u64 (v : Int)) ∧ w2.rangeAt b 1 (vals h 32) := ⟨(World.cell?_of_block (w := W) (hkp.block C hCB (by simp))).trans cC, q0, range_of qr⟩
    refine ⟨hS2, ?_⟩
    change wpAnyH _ _ _ _ _ _ _ ⟨#[.int .i64 (e.1 : Int), .slice sa sm sk, .pointer (some ⟨C, 0, none⟩), undef, undef, .pointer (some ⟨b, 0, none⟩), .pointer (some ⟨b, 0, none⟩), .pointer (some ⟨b, 0, none⟩), .pointer (some ⟨b, 33, none⟩), .slice ga l.length gc, .pointer (some ⟨b, 0, none⟩), .pointer (some ⟨b, 0, none⟩), .pointer (some ⟨b, 0, none⟩), .int .u64 (v : Int), .pointer (some ⟨b, 0, none⟩), .pointer (some ⟨b, 0, none⟩), .pointer (some ⟨b, 1, none⟩), .agg (vals h 32).toArray, .int .i64 (e.1 : Int), .slice sa sm sk, .agg (E35 v h e.1 (.slice sa sm sk)).toArray, .slice (some ⟨W.heap.size, 0, none⟩) 1 1, .slice ga2 (l.length + 1) gc2, undef, undef], []⟩ _
    refine take_op 18 (.pointer (some ⟨b, 0, none⟩)) rfl rfl (by kernel_rfl) (by kernel_rfl) (by kernel_rfl) (fun _ _ _ h => h) (fun w hw => by kernel_rfl) hS2 ?_
    change wpAnyH _ _ _ _ _ _ _ ⟨#[.int .i64 (e.1 : Int), .slice sa sm sk, .pointer (some ⟨C, 0, none⟩), undef, undef, .pointer (some ⟨b, 0, none⟩), .pointer (some ⟨b, 0, none⟩), .pointer (some ⟨b, 0, none⟩), .pointer (some ⟨b, 33, none⟩), .slice ga l.length gc, .pointer (some ⟨b, 0, none⟩), .pointer (some ⟨b, 0, none⟩), .pointer (some ⟨b, 0, none⟩), .int .u64 (v : Int), .pointer (some ⟨b, 0, none⟩), .pointer (some ⟨b, 0, none⟩), .pointer (some ⟨b, 1, none⟩), .agg (vals h 32).toArray, .int .i64 (e.1 : Int), .slice sa sm sk, .agg (E35 v h e.1 (.slice sa sm sk)).toArray, .slice (some ⟨W.heap.size, 0, none⟩) 1 1, .slice ga2 (l.length + 1) gc2, .pointer (some ⟨b, 0, none⟩), undef], []⟩ _
    refine take_op 19 (.pointer (some ⟨b, 33, none⟩)) rfl rfl (by kernel_rfl) (by kernel_rfl) (by kernel_rfl) (fun _ _ _ h => h) (fun w hw => by kernel_rfl) hS2 ?_
    change wpAnyH _ _ _ _ _ _ _ ⟨#[.int .i64 (e.1 : Int), .slice sa sm sk, .pointer (some ⟨C, 0, none⟩), undef, undef, .pointer (some ⟨b, 0, none⟩), .pointer (some ⟨b, 0, none⟩), .pointer (some ⟨b, 0, none⟩), .pointer (some ⟨b, 33, none⟩), .slice ga l.length gc, .pointer (some ⟨b, 0, none⟩), .pointer (some ⟨b, 0, none⟩), .pointer (some ⟨b, 0, none⟩), .int .u64 (v : Int), .pointer (some ⟨b, 0, none⟩), .pointer (some ⟨b, 0, none⟩), .pointer (some ⟨b, 1, none⟩), .agg (vals h 32).toArray, .int .i64 (e.1 : Int), .slice sa sm sk, .agg (E35 v h e.1 (.slice sa sm sk)).toArray, .slice (some ⟨W.heap.size, 0, none⟩) 1 1, .slice ga2 (l.length + 1) gc2, .pointer (some ⟨b, 0, none⟩), .pointer (some ⟨b, 33, none⟩)], []⟩ _
    refine one_op 20 (by kernel_rfl) rfl rfl ?_
    obtain ⟨k1, k2⟩ := fin w2 ga2 gc2 hown' hkp hke
    obtain ⟨ga3, gc3, hb3, _⟩ := k1
    obtain ⟨r0, rr, r33, rf⟩ := c34_cells hb3
    refine wp_skip (exec_store1 (.tmp 24) (.tmp 22) rfl b 33 rfl ga2 (l.length + 1) gc2 rfl (fun _ => by kernel_rfl) q33 (qf 33)) ⟨⟨(World.cell?_of_block (w := w2) (Below.heap_setCell _ _ _ _ (by show C ≠ b; exact hCb))).trans hS2.1, r0, range_of rr⟩, ?_⟩
    refine wpAnyH_done (by kernel_rfl) ?_ _
    go_wp2
    go_end0
    exact ⟨rfl, fin w2 ga2 gc2 hown' hkp hke⟩

set_option maxRecDepth 100000 in
set_option maxHeartbeats 4000000 in
theorem add43 (C b B T : Nat) (cf : Nat → Nat) (v : Nat) (h : Nat → Nat) (l : List (Nat × Option Nat)) (e : Nat × Option Nat) (W : World) (hC : W.heap[C]? = some (.cells #[.pointer (some ⟨b, 0, none⟩)] 95 (0, 0))) (hA : CertAt W 128 148 B T cf b v h l) (hl : l.length ≤ 1000) (hB : B ≤ W.heap.size) (hb : b < B) (hCB : C < B) (hCb : C ≠ b) :
    Calls Ybaf.prog 43 #[.int .i64 (e.1 : Int), sigV T cf e.2, .pointer (some ⟨C, 0, none⟩)] W fun en w' => en = .returned (.tuple #[]) ∧ CertAt w' 128 148 B T cf b v h (l ++ [e]) ∧ Kp B [b] W w' ∧ Errs W w' := by
  obtain ⟨ga, gc, hb1, hown⟩ := hA
  obtain ⟨c0, cc, c33, cfz⟩ := c34_cells hb1
  obtain ⟨sa, sm, sk, hsv⟩ := sigV_slice T cf e.2
  obtain ⟨i0, hi, hz0⟩ := Option.map_eq_some_iff.1 info148
  simp only [Prod.mk.injEq] at hz0
  obtain ⟨hz1, hz2, hz3⟩ := hz0
  obtain ⟨z0, hz4, hz5⟩ := Option.map_eq_some_iff.1 hz1
  have cC : W.cell? ⟨C, 0, none⟩ = some (.pointer (some ⟨b, 0, none⟩)) := by rw [cell_of_row W C _ _ 95 (0, 0) hC]; rfl
  have hone := E35_one v h e.1 T cf e.2
  have hrg := range_of cc
  rw [hsv] at hone ⊢
  go_enter Ybaf.func43, Ybaf.ntmps43
  go_wp2
  refine wp_region_held (S := fun w' => w'.cell? ⟨C, 0, none⟩ = some (.pointer (some ⟨b, 0, none⟩)) ∧ w'.cell? ⟨b, 0, none⟩ = some (.int .u64 (v : Int)) ∧ w'.rangeAt b 1 (vals h 32)) (by kernel_rfl) ?_
  change wpAnyH _ _ _ _ _ 21 _ ⟨#[.int .i64 (e.1 : Int), .slice sa sm sk, .pointer (some ⟨C, 0, none⟩), undef, undef, undef, undef, undef, undef, undef, undef, undef, undef, undef, undef, undef, undef, undef, undef, undef, undef, undef, undef, undef, undef], []⟩ (World.drew W)
  have hS : W.drew.cell? ⟨C, 0, none⟩ = some (.pointer (some ⟨b, 0, none⟩)) ∧ W.drew.cell? ⟨b, 0, none⟩ = some (.int .u64 (v : Int)) ∧ W.drew.rangeAt b 1 (vals h 32) := ⟨cC, c0, hrg⟩
  refine take_op 0 (.pointer (some ⟨b, 0, none⟩)) rfl rfl (by kernel_rfl) (by kernel_rfl) (by kernel_rfl) (fun _ _ _ h => h) (fun w hw => exec_load1 (fun _ => by kernel_rfl) (.tmp 2) rfl ⟨C, 0, none⟩ rfl hw.1) hS ?_
  change wpAnyH _ _ _ _ _ _ _ ⟨#[.int .i64 (e.1 : Int), .slice sa sm sk, .pointer (some ⟨C, 0, none⟩), undef, undef, .pointer (some ⟨b, 0, none⟩), undef, undef, undef, undef, undef, undef, undef, undef, undef, undef, undef, undef, undef, undef, undef, undef, undef, undef, undef], []⟩ _
  refine take_op 1 (.pointer (some ⟨b, 0, none⟩)) rfl rfl (by kernel_rfl) (by kernel_rfl) (by kernel_rfl) (fun _ _ _ h => h) (fun w hw => exec_load1 (fun _ => by kernel_rfl) (.tmp 2) rfl ⟨C, 0, none⟩ rfl hw.1) hS ?_
  change wpAnyH _ _ _ _ _ _ _ ⟨#[.int .i64 (e.1 : Int), .slice sa sm sk, .pointer (some ⟨C, 0, none⟩), undef, undef, .pointer (some ⟨b, 0, none⟩), .pointer (some ⟨b, 0, none⟩), undef, undef, undef, undef, undef, undef, undef, undef, undef, undef, undef, undef, undef, undef, undef, undef, undef, undef], []⟩ _
  refine take_op 2 (.pointer (some ⟨b, 0, none⟩)) rfl rfl (by kernel_rfl) (by kernel_rfl) (by kernel_rfl) (fun _ _ _ h => h) (fun w hw => by kernel_rfl) hS ?_
  change wpAnyH _ _ _ _ _ _ _ ⟨#[.int .i64 (e.1 : Int), .slice sa sm sk, .pointer (some ⟨C, 0, none⟩), undef, undef, .pointer (some ⟨b, 0, none⟩), .pointer (some ⟨b, 0, none⟩), .pointer (some ⟨b, 0, none⟩), undef, undef, undef, undef, undef, undef, undef, undef, undef, undef, undef, undef, undef, undef, undef, undef, undef], []⟩ _
  refine take_op 3 (.pointer (some ⟨b, 33, none⟩)) rfl rfl (by kernel_rfl) (by kernel_rfl) (by kernel_rfl) (fun _ _ _ h => h) (fun w hw => by kernel_rfl) hS ?_
  change wpAnyH _ _ _ _ _ _ _ ⟨#[.int .i64 (e.1 : Int), .slice sa sm sk, .pointer (some ⟨C, 0, none⟩), undef, undef, .pointer (some ⟨b, 0, none⟩), .pointer (some ⟨b, 0, none⟩), .pointer (some ⟨b, 0, none⟩), .pointer (some ⟨b, 33, none⟩), undef, undef, undef, undef, undef, undef, undef, undef, undef, undef, undef, undef, undef, undef, undef, undef], []⟩ _
  refine take_op 5 (.pointer (some ⟨b, 0, none⟩)) rfl rfl (by kernel_rfl) (by kernel_rfl) (by kernel_rfl) (fun _ _ _ h => h) (fun w hw => exec_load1 (fun _ => by kernel_rfl) (.tmp 2) rfl ⟨C, 0, none⟩ rfl hw.1) hS ?_
  change wpAnyH _ _ _ _ _ _ _ ⟨#[.int .i64 (e.1 : Int), .slice sa sm sk, .pointer (some ⟨C, 0, none⟩), undef, undef, .pointer (some ⟨b, 0, none⟩), .pointer (some ⟨b, 0, none⟩), .pointer (some ⟨b, 0, none⟩), .pointer (some ⟨b, 33, none⟩), undef, .pointer (some ⟨b, 0, none⟩), undef, undef, undef, undef, undef, undef, undef, undef, undef, undef, undef, undef, undef, undef], []⟩ _
  refine take_op 6 (.pointer (some ⟨b, 0, none⟩)) rfl rfl (by kernel_rfl) (by kernel_rfl) (by kernel_rfl) (fun _ _ _ h => h) (fun w hw => by kernel_rfl) hS ?_
  change wpAnyH _ _ _ _ _ _ _ ⟨#[.int .i64 (e.1 : Int), .slice sa sm sk, .pointer (some ⟨C, 0, none⟩), undef, undef, .pointer (some ⟨b, 0, none⟩), .pointer (some ⟨b, 0, none⟩), .pointer (some ⟨b, 0, none⟩), .pointer (some ⟨b, 33, none⟩), undef, .pointer (some ⟨b, 0, none⟩), .pointer (some ⟨b, 0, none⟩), undef, undef, undef, undef, undef, undef, undef, undef, undef, undef, undef, undef, undef], []⟩ _
  refine take_op 7 (.pointer (some ⟨b, 0, none⟩)) rfl rfl (by kernel_rfl) (by kernel_rfl) (by kernel_rfl) (fun _ _ _ h => h) (fun w hw => by kernel_rfl) hS ?_
  change wpAnyH _ _ _ _ _ _ _ ⟨#[.int .i64 (e.1 : Int), .slice sa sm sk, .pointer (some ⟨C, 0, none⟩), undef, undef, .pointer (some ⟨b, 0, none⟩), .pointer (some ⟨b, 0, none⟩), .pointer (some ⟨b, 0, none⟩), .pointer (some ⟨b, 33, none⟩), undef, .pointer (some ⟨b, 0, none⟩), .pointer (some ⟨b, 0, none⟩), .pointer (some ⟨b, 0, none⟩), undef, undef, undef, undef, undef, undef, undef, undef, undef, undef, undef, undef], []⟩ _
  refine take_op 8 (.int .u64 (v : Int)) rfl rfl (by kernel_rfl) (by kernel_rfl) (by kernel_rfl) (fun _ _ _ h => h) (fun w hw => exec_load1 (fun _ => by kernel_rfl) (.tmp 12) rfl ⟨b, 0, none⟩ rfl hw.2.1) hS ?_
  change wpAnyH _ _ _ _ _ _ _ ⟨#[.int .i64 (e.1 : Int), .slice sa sm sk, .pointer (some ⟨C, 0, none⟩), undef, undef, .pointer (some ⟨b, 0, none⟩), .pointer (some ⟨b, 0, none⟩), .pointer (some ⟨b, 0, none⟩), .pointer (some ⟨b, 33, none⟩), undef, .pointer (some ⟨b, 0, none⟩), .pointer (some ⟨b, 0, none⟩), .pointer (some ⟨b, 0, none⟩), .int .u64 (v : Int), undef, undef, undef, undef, undef, undef, undef, undef, undef, undef, undef], []⟩ _
  refine take_op 9 (.pointer (some ⟨b, 0, none⟩)) rfl rfl (by kernel_rfl) (by kernel_rfl) (by kernel_rfl) (fun _ _ _ h => h) (fun w hw => exec_load1 (fun _ => by kernel_rfl) (.tmp 2) rfl ⟨C, 0, none⟩ rfl hw.1) hS ?_
  change wpAnyH _ _ _ _ _ _ _ ⟨#[.int .i64 (e.1 : Int), .slice sa sm sk, .pointer (some ⟨C, 0, none⟩), undef, undef, .pointer (some ⟨b, 0, none⟩), .pointer (some ⟨b, 0, none⟩), .pointer (some ⟨b, 0, none⟩), .pointer (some ⟨b, 33, none⟩), undef, .pointer (some ⟨b, 0, none⟩), .pointer (some ⟨b, 0, none⟩), .pointer (some ⟨b, 0, none⟩), .int .u64 (v : Int), .pointer (some ⟨b, 0, none⟩), undef, undef, undef, undef, undef, undef, undef, undef, undef, undef], []⟩ _
  refine take_op 10 (.pointer (some ⟨b, 0, none⟩)) rfl rfl (by kernel_rfl) (by kernel_rfl) (by kernel_rfl) (fun _ _ _ h => h) (fun w hw => by kernel_rfl) hS ?_
  change wpAnyH _ _ _ _ _ _ _ ⟨#[.int .i64 (e.1 : Int), .slice sa sm sk, .pointer (some ⟨C, 0, none⟩), undef, undef, .pointer (some ⟨b, 0, none⟩), .pointer (some ⟨b, 0, none⟩), .pointer (some ⟨b, 0, none⟩), .pointer (some ⟨b, 33, none⟩), undef, .pointer (some ⟨b, 0, none⟩), .pointer (some ⟨b, 0, none⟩), .pointer (some ⟨b, 0, none⟩), .int .u64 (v : Int), .pointer (some ⟨b, 0, none⟩), .pointer (some ⟨b, 0, none⟩), undef, undef, undef, undef, undef, undef, undef, undef, undef], []⟩ _
  refine take_op 11 (.pointer (some ⟨b, 1, none⟩)) rfl rfl (by kernel_rfl) (by kernel_rfl) (by kernel_rfl) (fun _ _ _ h => h) (fun w hw => by kernel_rfl) hS ?_
  change wpAnyH _ _ _ _ _ _ _ ⟨#[.int .i64 (e.1 : Int), .slice sa sm sk, .pointer (some ⟨C, 0, none⟩), undef, undef, .pointer (some ⟨b, 0, none⟩), .pointer (some ⟨b, 0, none⟩), .pointer (some ⟨b, 0, none⟩), .pointer (some ⟨b, 33, none⟩), undef, .pointer (some ⟨b, 0, none⟩), .pointer (some ⟨b, 0, none⟩), .pointer (some ⟨b, 0, none⟩), .int .u64 (v : Int), .pointer (some ⟨b, 0, none⟩), .pointer (some ⟨b, 0, none⟩), .pointer (some ⟨b, 1, none⟩), undef, undef, undef, undef, undef, undef, undef, undef], []⟩ _
  refine take_op 12 (.agg (vals h 32).toArray) rfl rfl (by kernel_rfl) (by kernel_rfl) (by kernel_rfl) (fun _ _ _ h => h) (fun w hw => exec_loadW wide60 (.tmp 16) rfl b 1 rfl (vals h 32) (length_vals _ _) hw.2.2) hS ?_
  change wpAnyH _ _ _ _ _ _ _ ⟨#[.int .i64 (e.1 : Int), .slice sa sm sk, .pointer (some ⟨C, 0, none⟩), undef, undef, .pointer (some ⟨b, 0, none⟩), .pointer (some ⟨b, 0, none⟩), .pointer (some ⟨b, 0, none⟩), .pointer (some ⟨b, 33, none⟩), undef, .pointer (some ⟨b, 0, none⟩), .pointer (some ⟨b, 0, none⟩), .pointer (some ⟨b, 0, none⟩), .int .u64 (v : Int), .pointer (some ⟨b, 0, none⟩), .pointer (some ⟨b, 0, none⟩), .pointer (some ⟨b, 1, none⟩), .agg (vals h 32).toArray, undef, undef, undef, undef, undef, undef, undef], []⟩ _
  refine take_op 13 (.int .i64 (e.1 : Int)) rfl rfl (by kernel_rfl) (by kernel_rfl) (by kernel_rfl) (fun _ _ _ h => h) (fun w hw => by kernel_rfl) hS ?_
  change wpAnyH _ _ _ _ _ _ _ ⟨#[.int .i64 (e.1 : Int), .slice sa sm sk, .pointer (some ⟨C, 0, none⟩), undef, undef, .pointer (some ⟨b, 0, none⟩), .pointer (some ⟨b, 0, none⟩), .pointer (some ⟨b, 0, none⟩), .pointer (some ⟨b, 33, none⟩), undef, .pointer (some ⟨b, 0, none⟩), .pointer (some ⟨b, 0, none⟩), .pointer (some ⟨b, 0, none⟩), .int .u64 (v : Int), .pointer (some ⟨b, 0, none⟩), .pointer (some ⟨b, 0, none⟩), .pointer (some ⟨b, 1, none⟩), .agg (vals h 32).toArray, .int .i64 (e.1 : Int), undef, undef, undef, undef, undef, undef], []⟩ _
  refine take_op 14 (.slice sa sm sk) rfl rfl (by kernel_rfl) (by kernel_rfl) (by kernel_rfl) (fun _ _ _ h => h) (fun w hw => by kernel_rfl) hS ?_
  change wpAnyH _ _ _ _ _ _ _ ⟨#[.int .i64 (e.1 : Int), .slice sa sm sk, .pointer (some ⟨C, 0, none⟩), undef, undef, .pointer (some ⟨b, 0, none⟩), .pointer (some ⟨b, 0, none⟩), .pointer (some ⟨b, 0, none⟩), .pointer (some ⟨b, 33, none⟩), undef, .pointer (some ⟨b, 0, none⟩), .pointer (some ⟨b, 0, none⟩), .pointer (some ⟨b, 0, none⟩), .int .u64 (v : Int), .pointer (some ⟨b, 0, none⟩), .pointer (some ⟨b, 0, none⟩), .pointer (some ⟨b, 1, none⟩), .agg (vals h 32).toArray, .int .i64 (e.1 : Int), .slice sa sm sk, undef, undef, undef, undef, undef], []⟩ _
  refine take_op 15 (.agg (E35 v h e.1 (.slice sa sm sk)).toArray) rfl rfl (by kernel_rfl) (by kernel_rfl) (by kernel_rfl) (fun _ _ _ h => h) (fun w hw => exec_build148 (.tmp 13) (.tmp 17) (.tmp 18) (.tmp 19) rfl v h e.1 sa sm sk rfl rfl rfl rfl) hS ?_
  change wpAnyH _ _ _ _ _ _ _ ⟨#[.int .i64 (e.1 : Int), .slice sa sm sk, .pointer (some ⟨C, 0, none⟩), undef, undef, .pointer (some ⟨b, 0, none⟩), .pointer (some ⟨b, 0, none⟩), .pointer (some ⟨b, 0, none⟩), .pointer (some ⟨b, 33, none⟩), undef, .pointer (some ⟨b, 0, none⟩), .pointer (some ⟨b, 0, none⟩), .pointer (some ⟨b, 0, none⟩), .int .u64 (v : Int), .pointer (some ⟨b, 0, none⟩), .pointer (some ⟨b, 0, none⟩), .pointer (some ⟨b, 1, none⟩), .agg (vals h 32).toArray, .int .i64 (e.1 : Int), .slice sa sm sk, .agg (E35 v h e.1 (.slice sa sm sk)).toArray, undef, undef, undef, undef], []⟩ _
  have hbl : b < W.heap.size := by omega
  have hCl : C < W.heap.size := by omega
  have hk1 : Kp B [] W (W.drew.alloc (.cells (E35 v h e.1 (.slice sa sm sk)).toArray 148)) := ((Same.drew [] W).kp hB).trans ((Same.alloc [] W.drew _).kp hB)
  have he1 : Errs W (W.drew.alloc (.cells (E35 v h e.1 (.slice sa sm sk)).toArray 148)) := (Same.drew [] W).errs.trans (Same.alloc [] W.drew _).errs
  obtain ⟨p0, pr, p33, pf⟩ := c34_cells ((hk1.block b hb (by simp)).trans hb1)
  have hS1 : (W.drew.alloc (.cells (E35 v h e.1 (.slice sa sm sk)).toArray 148)).cell? ⟨C, 0, none⟩ = some (.pointer (some ⟨b, 0, none⟩)) ∧ (W.drew.alloc (.cells (E35 v h e.1 (.slice sa sm sk)).toArray 148)).cell? ⟨b, 0, none⟩ = some (.int .u64 (v : Int)) ∧ (W.drew.alloc (.cells (E35 v h e.1 (.slice sa sm sk)).toArray 148)).rangeAt b 1 (vals h 32) := ⟨(World.cell?_of_block (w := W) (hk1.block C hCB (by simp))).trans cC, p0, range_of pr⟩
  have fin : ∀ w' ga' gc', w'.ownsRow B 148 35 (.slice ga' (l.length + 1) gc') (l.length + 1) (ecs T cf v h l ++ E35 v h e.1 (.slice sa sm sk)) → Kp B [] W w' → Errs W w' → CertAt (w'.setCell ⟨b, 33, none⟩ (.slice ga' (l.length + 1) gc')) 128 148 B T cf b v h (l ++ [e]) ∧ Kp B [b] W (w'.setCell ⟨b, 33, none⟩ (.slice ga' (l.length + 1) gc')) ∧ Errs W (w'.setCell ⟨b, 33, none⟩ (.slice ga' (l.length + 1) gc')) := by
    intro w' ga' gc' h1 h2 h3
    have hb' := (h2.block b hb (by simp)).trans hb1
    refine ⟨⟨ga', gc', ?_, ?_⟩, (h2.more (by simp)).trans ((Same.setCell [b] _ _ _ (by simp)).kp (Nat.le_trans hB h2.size)), h3.trans ((Same.setCell [b] _ _ _ (by simp)).errs (apart_one hb' (by omega)))⟩
    · simpa using c34_set (sl' := .slice ga' (l.length + 1) gc') hb'
    · rw [ecs_snoc, hsv]
      simpa using ownsRow_setCell_below h1 (a := ⟨b, 33, none⟩) hb _
  refine two_ops 4 16 (by kernel_rfl) rfl rfl rfl rfl ?_ ?_
  · refine wp_value (exec_load1 (fun _ => by kernel_rfl) (.tmp 8) rfl ⟨b, 33, none⟩ rfl c33) ⟨hS, ?_⟩
    change wpAnyH _ _ _ _ _ _ _ ⟨#[.int .i64 (e.1 : Int), .slice sa sm sk, .pointer (some ⟨C, 0, none⟩), undef, undef, .pointer (some ⟨b, 0, none⟩), .pointer (some ⟨b, 0, none⟩), .pointer (some ⟨b, 0, none⟩), .pointer (some ⟨b, 33, none⟩), .slice ga l.length gc, .pointer (some ⟨b, 0, none⟩), .pointer (some ⟨b, 0, none⟩), .pointer (some ⟨b, 0, none⟩), .int .u64 (v : Int), .pointer (some ⟨b, 0, none⟩), .pointer (some ⟨b, 0, none⟩), .pointer (some ⟨b, 1, none⟩), .agg (vals h 32).toArray, .int .i64 (e.1 : Int), .slice sa sm sk, .agg (E35 v h e.1 (.slice sa sm sk)).toArray, undef, undef, undef, undef], []⟩ _
    refine one_op 16 (by kernel_rfl) rfl rfl ?_
    refine wp_bslice148 (.tmp 20) rfl v h e.1 sa sm sk rfl ⟨hS1, ?_⟩
    change wpAnyH _ _ _ _ _ _ _ ⟨#[.int .i64 (e.1 : Int), .slice sa sm sk, .pointer (some ⟨C, 0, none⟩), undef, undef, .pointer (some ⟨b, 0, none⟩), .pointer (some ⟨b, 0, none⟩), .pointer (some ⟨b, 0, none⟩), .pointer (some ⟨b, 33, none⟩), .slice ga l.length gc, .pointer (some ⟨b, 0, none⟩), .pointer (some ⟨b, 0, none⟩), .pointer (some ⟨b, 0, none⟩), .int .u64 (v : Int), .pointer (some ⟨b, 0, none⟩), .pointer (some ⟨b, 0, none⟩), .pointer (some ⟨b, 1, none⟩), .agg (vals h 32).toArray, .int .i64 (e.1 : Int), .slice sa sm sk, .agg (E35 v h e.1 (.slice sa sm sk)).toArray, .slice (some ⟨W.heap.size, 0, none⟩) 1 1, undef, undef, undef], []⟩ _
    refine one_op 17 (by kernel_rfl) rfl rfl ?_
    refine wp_append_own (.tmp 9) (.tmp 21) 126 rfl B 148 i0 z0 35 72 Ybaf.underlying126 hi hz4 hz2 hz3 hz5 (by omega) _ l.length (ecs T cf v h l) rfl (hown.alloc _) ⟨W.heap.size, 0, none⟩ 1 1 (E35 v h e.1 (.slice sa sm sk)) rfl (by rw [E35_length]) (new_cells W.drew (E35 v h e.1 (.slice sa sm sk)) 148) hone (by unfold maxLen; omega) (by omega) (by simp; omega) ?_
    intro v' w2 hown' hgrow hnil
    obtain ⟨ga2, gc2, hv'⟩ := own_slice hown'
    subst hv'
    have hkp : Kp B [] W w2 := hk1.trans (grown_kp hown hgrow (by simp; omega))
    have hke : Errs W w2 := he1.trans (grown_errs (hown.alloc _) (by omega) hgrow)
    obtain ⟨q0, qr, q33, qf⟩ := c34_cells ((hkp.block b hb (by simp)).trans hb1)
    have hS2 : w2.cell? ⟨C, 0, none⟩ = some (.pointer (some ⟨b, 0, none⟩)) ∧ w2.cell? ⟨b, 0, none⟩ = some (.int .u64 (v : Int)) ∧ w2.rangeAt b 1 (vals h 32) := ⟨(World.cell?_of_block (w := W) (hkp.block C hCB (by simp))).trans cC, q0, range_of qr⟩
    refine ⟨hS2, ?_⟩
    change wpAnyH _ _ _ _ _ _ _ ⟨#[.int .i64 (e.1 : Int), .slice sa sm sk, .pointer (some ⟨C, 0, none⟩), undef, undef, .pointer (some ⟨b, 0, none⟩), .pointer (some ⟨b, 0, none⟩), .pointer (some ⟨b, 0, none⟩), .pointer (some ⟨b, 33, none⟩), .slice ga l.length gc, .pointer (some ⟨b, 0, none⟩), .pointer (some ⟨b, 0, none⟩), .pointer (some ⟨b, 0, none⟩), .int .u64 (v : Int), .pointer (some ⟨b, 0, none⟩), .pointer (some ⟨b, 0, none⟩), .pointer (some ⟨b, 1, none⟩), .agg (vals h 32).toArray, .int .i64 (e.1 : Int), .slice sa sm sk, .agg (E35 v h e.1 (.slice sa sm sk)).toArray, .slice (some ⟨W.heap.size, 0, none⟩) 1 1, .slice ga2 (l.length + 1) gc2, undef, undef], []⟩ _
    refine take_op 18 (.pointer (some ⟨b, 0, none⟩)) rfl rfl (by kernel_rfl) (by kernel_rfl) (by kernel_rfl) (fun _ _ _ h => h) (fun w hw => by kernel_rfl) hS2 ?_
    change wpAnyH _ _ _ _ _ _ _ ⟨#[.int .i64 (e.1 : Int), .slice sa sm sk, .pointer (some ⟨C, 0, none⟩), undef, undef, .pointer (some ⟨b, 0, none⟩), .pointer (some ⟨b, 0, none⟩), .pointer (some ⟨b, 0, none⟩), .pointer (some ⟨b, 33, none⟩), .slice ga l.length gc, .pointer (some ⟨b, 0, none⟩), .pointer (some ⟨b, 0, none⟩), .pointer (some ⟨b, 0, none⟩), .int .u64 (v : Int), .pointer (some ⟨b, 0, none⟩), .pointer (some ⟨b, 0, none⟩), .pointer (some ⟨b, 1, none⟩), .agg (vals h 32).toArray, .int .i64 (e.1 : Int), .slice sa sm sk, .agg (E35 v h e.1 (.slice sa sm sk)).toArray, .slice (some ⟨W.heap.size, 0, none⟩) 1 1, .slice ga2 (l.length + 1) gc2, .pointer (some ⟨b, 0, none⟩), undef], []⟩ _
    refine take_op 19 (.pointer (some ⟨b, 33, none⟩)) rfl rfl (by kernel_rfl) (by kernel_rfl) (by kernel_rfl) (fun _ _ _ h => h) (fun w hw => by kernel_rfl) hS2 ?_
    change wpAnyH _ _ _ _ _ _ _ ⟨#[.int .i64 (e.1 : Int), .slice sa sm sk, .pointer (some ⟨C, 0, none⟩), undef, undef, .pointer (some ⟨b, 0, none⟩), .pointer (some ⟨b, 0, none⟩), .pointer (some ⟨b, 0, none⟩), .pointer (some ⟨b, 33, none⟩), .slice ga l.length gc, .pointer (some ⟨b, 0, none⟩), .pointer (some ⟨b, 0, none⟩), .pointer (some ⟨b, 0, none⟩), .int .u64 (v : Int), .pointer (some ⟨b, 0, none⟩), .pointer (some ⟨b, 0, none⟩), .pointer (some ⟨b, 1, none⟩), .agg (vals h 32).toArray, .int .i64 (e.1 : Int), .slice sa sm sk, .agg (E35 v h e.1 (.slice sa sm sk)).toArray, .slice (some ⟨W.heap.size, 0, none⟩) 1 1, .slice ga2 (l.length + 1) gc2, .pointer (some ⟨b, 0, none⟩), .pointer (some ⟨b, 33, none⟩)], []⟩ _
    refine one_op 20 (by kernel_rfl) rfl rfl ?_
    obtain ⟨k1, k2⟩ := fin w2 ga2 gc2 hown' hkp hke
    obtain ⟨ga3, gc3, hb3, _⟩ := k1
    obtain ⟨r0, rr, r33, rf⟩ := c34_cells hb3
    refine wp_skip (exec_store1 (.tmp 24) (.tmp 22) rfl b 33 rfl ga2 (l.length + 1) gc2 rfl (fun _ => by kernel_rfl) q33 (qf 33)) ⟨⟨(World.cell?_of_block (w := w2) (Below.heap_setCell _ _ _ _ (by show C ≠ b; exact hCb))).trans hS2.1, r0, range_of rr⟩, ?_⟩
    refine wpAnyH_done (by kernel_rfl) ?_ _
    go_wp2
    go_end0
    exact ⟨rfl, fin w2 ga2 gc2 hown' hkp hke⟩
  · refine wp_bslice148 (.tmp 20) rfl v h e.1 sa sm sk rfl ⟨hS1, ?_⟩
    change wpAnyH _ _ _ _ _ _ _ ⟨#[.int .i64 (e.1 : Int), .slice sa sm sk, .pointer (some ⟨C, 0, none⟩), undef, undef, .pointer (some ⟨b, 0, none⟩), .pointer (some ⟨b, 0, none⟩), .pointer (some ⟨b, 0, none⟩), .pointer (some ⟨b, 33, none⟩), undef, .pointer (some ⟨b, 0, none⟩), .pointer (some ⟨b, 0, none⟩), .pointer (some ⟨b, 0, none⟩), .int .u64 (v : Int), .pointer (some ⟨b, 0, none⟩), .pointer (some ⟨b, 0, none⟩), .pointer (some ⟨b, 1, none⟩), .agg (vals h 32).toArray, .int .i64 (e.1 : Int), .slice sa sm sk, .agg (E35 v h e.1 (.slice sa sm sk)).toArray, .slice (some ⟨W.heap.size, 0, none⟩) 1 1, undef, undef, undef], []⟩ _
    refine one_op 4 (by kernel_rfl) rfl rfl ?_
    refine wp_value (exec_load1 (fun _ => by kernel_rfl) (.tmp 8) rfl ⟨b, 33, none⟩ rfl p33) ⟨hS1, ?_⟩
    change wpAnyH _ _ _ _ _ _ _ ⟨#[.int .i64 (e.1 : Int), .slice sa sm sk, .pointer (some ⟨C, 0, none⟩), undef, undef, .pointer (some ⟨b, 0, none⟩), .pointer (some ⟨b, 0, none⟩), .pointer (some ⟨b, 0, none⟩), .pointer (some ⟨b, 33, none⟩), .slice ga l.length gc, .pointer (some ⟨b, 0, none⟩), .pointer (some ⟨b, 0, none⟩), .pointer (some ⟨b, 0, none⟩), .int .u64 (v : Int), .pointer (some ⟨b, 0, none⟩), .pointer (some ⟨b, 0, none⟩), .pointer (some ⟨b, 1, none⟩), .agg (vals h 32).toArray, .int .i64 (e.1 : Int), .slice sa sm sk, .agg (E35 v h e.1 (.slice sa sm sk)).toArray, .slice (some ⟨W.heap.size, 0, none⟩) 1 1, undef, undef, undef], []⟩ _
    refine one_op 17 (by kernel_rfl) rfl rfl ?_
    refine wp_append_own (.tmp 9) (.tmp 21) 126 rfl B 148 i0 z0 35 72 Ybaf.underlying126 hi hz4 hz2 hz3 hz5 (by omega) _ l.length (ecs T cf v h l) rfl (hown.alloc _) ⟨W.heap.size, 0, none⟩ 1 1 (E35 v h e.1 (.slice sa sm sk)) rfl (by rw [E35_length]) (new_cells W.drew (E35 v h e.1 (.slice sa sm sk)) 148) hone (by unfold maxLen; omega) (by omega) (by simp; omega) ?_
    intro v' w2 hown' hgrow hnil
    obtain ⟨ga2, gc2, hv'⟩ := own_slice hown'
    subst hv'
    have hkp : Kp B [] W w2 := hk1.trans (grown_kp hown hgrow (by simp; omega))
    have hke : Errs W w2 := he1.trans (grown_errs (hown.alloc _) (by omega) hgrow)
    obtain ⟨q0, qr, q33, qf⟩ := c34_cells ((hkp.block b hb (by simp)).trans hb1)
    have hS2 : w2.cell? ⟨C, 0, none⟩ = some (.pointer (some ⟨b, 0, none⟩)) ∧ w2.cell? ⟨b, 0, none⟩ = some (.int .u64 (v : Int)) ∧ w2.rangeAt b 1 (vals h 32) := ⟨(World.cell?_of_block (w := W) (hkp.block C hCB (by simp))).trans cC, q0, range_of qr⟩
    refine ⟨hS2, ?_⟩
    change wpAnyH _ _ _ _ _ _ _ ⟨#[.int .i64 (e.1 : Int), .slice sa sm sk, .pointer (some ⟨C, 0, none⟩), undef, undef, .pointer (some ⟨b, 0, none⟩), .pointer (some ⟨b, 0, none⟩), .pointer (some ⟨b, 0, none⟩), .pointer (some ⟨b, 33, none⟩), .slice ga l.length gc, .pointer (some ⟨b, 0, none⟩), .pointer (some ⟨b, 0, none⟩), .pointer (some ⟨b, 0, none⟩), .int .u64 (v : Int), .pointer (some ⟨b, 0, none⟩), .pointer (some ⟨b, 0, none⟩), .pointer (some ⟨b, 1, none⟩), .agg (vals h 32).toArray, .int .i64 (e.1 : Int), .slice sa sm sk, .agg (E35 v h e.1 (.slice sa sm sk)).toArray, .slice (some ⟨W.heap.size, 0, none⟩) 1 1, .slice ga2 (l.length + 1) gc2, undef, undef], []⟩ _
    refine take_op 18 (.pointer (some ⟨b, 0, none⟩)) rfl rfl (by kernel_rfl) (by kernel_rfl) (by kernel_rfl) (fun _ _ _ h => h) (fun w hw => by kernel_rfl) hS2 ?_
    change wpAnyH _ _ _ _ _ _ _ ⟨#[.int .i64 (e.1 : Int), .slice sa sm sk, .pointer (some ⟨C, 0, none⟩), undef, undef, .pointer (some ⟨b, 0, none⟩), .pointer (some ⟨b, 0, none⟩), .pointer (some ⟨b, 0, none⟩), .pointer (some ⟨b, 33, none⟩), .slice ga l.length gc, .pointer (some ⟨b, 0, none⟩), .pointer (some ⟨b, 0, none⟩), .pointer (some ⟨b, 0, none⟩), .int .u64 (v : Int), .pointer (some ⟨b, 0, none⟩), .pointer (some ⟨b, 0, none⟩), .pointer (some ⟨b, 1, none⟩), .agg (vals h 32).toArray, .int .i64 (e.1 : Int), .slice sa sm sk, .agg (E35 v h e.1 (.slice sa sm sk)).toArray, .slice (some ⟨W.heap.size, 0, none⟩) 1 1, .slice ga2 (l.length + 1) gc2, .pointer (some ⟨b, 0, none⟩), undef], []⟩ _
    refine take_op 19 (.pointer (some ⟨b, 33, none⟩)) rfl rfl (by kernel_rfl) (by kernel_rfl) (by kernel_rfl) (fun _ _ _ h => h) (fun w hw => by kernel_rfl) hS2 ?_
    change wpAnyH _ _ _ _ _ _ _ ⟨#[.int .i64 (e.1 : Int), .slice sa sm sk, .pointer (some ⟨C, 0, none⟩), undef, undef, .pointer (some ⟨b, 0, none⟩), .pointer (some ⟨b, 0, none⟩), .pointer (some ⟨b, 0, none⟩), .pointer (some ⟨b, 33, none⟩), .slice ga l.length gc, .pointer (some ⟨b, 0, none⟩), .pointer (some ⟨b, 0, none⟩), .pointer (some ⟨b, 0, none⟩), .int .u64 (v : Int), .pointer (some ⟨b, 0, none⟩), .pointer (some ⟨b, 0, none⟩), .pointer (some ⟨b, 1, none⟩), .agg (vals h 32).toArray, .int .i64 (e.1 : Int), .slice sa sm sk, .agg (E35 v h e.1 (.slice sa sm sk)).toArray, .slice (some ⟨W.heap.size, 0, none⟩) 1 1, .slice ga2 (l.length + 1) gc2, .pointer (some ⟨b, 0, none⟩), .pointer (some ⟨b, 33, none⟩)], []⟩ _
    refine one_op 20 (by kernel_rfl) rfl rfl ?_
    obtain ⟨k1, k2⟩ := fin w2 ga2 gc2 hown' hkp hke
    obtain ⟨ga3, gc3, hb3, _⟩ := k1
    obtain ⟨r0, rr, r33, rf⟩ := c34_cells hb3
    refine wp_skip (exec_store1 (.tmp 24) (.tmp 22) rfl b 33 rfl ga2 (l.length + 1) gc2 rfl (fun _ => by kernel_rfl) q33 (qf 33)) ⟨⟨(World.cell?_of_block (w := w2) (Below.heap_setCell _ _ _ _ (by show C ≠ b; exact hCb))).trans hS2.1, r0, range_of rr⟩, ?_⟩
    refine wpAnyH_done (by kernel_rfl) ?_ _
    go_wp2
    go_end0
    exact ⟨rfl, fin w2 ga2 gc2 hown' hkp hke⟩
end Go.Proofs.YbulkdlruFmt
