/-
  (*bufio.Reader).Discard of three buffered bytes; NewReaderSize, reset.
-/
import Derived.Test.YbulkdlswDoorD
namespace Go.Proofs.YbulkdlswDoor
open Go.RowKit Go.Shelf

set_option maxRecDepth 100000 in
set_option maxHeartbeats 1000000 in
theorem discard3 (R U bl w : Nat) (rd : Value) (lb lr : Int) (W : World) (hR : W.heap[R]? = some (.cells (RB U bl rd 0 w .nilIface lb lr) 47 (0, 0))) (hw3 : 3 ≤ w) (hw : w ≤ 65536) :
    Calls Ybad.prog 12 #[.pointer (some ⟨R, 0, none⟩), .int .i64 3] W fun e w' => e = .returned (.tuple #[.int .i64 3, .nilIface]) ∧ w'.heap[R]? = some (.cells (RB U bl rd (3 : Nat) w .nilIface (-1) (-1)) 47 (0, 0)) ∧ Same [R] W w' := by
  obtain ⟨c0, c1, c2, c3, c4, c5, c6, cf⟩ := rcells hR
  have hR1 := rb_set hR 5 (.int .i64 (-1))
  have hR2 : ((W.setCell ⟨R, 5, none⟩ (.int .i64 (-1))).setCell ⟨R, 6, none⟩ (.int .i64 (-1))).heap[R]? = some (.cells (RB U bl rd (0 : Nat) w .nilIface (-1) (-1)) 47 (0, 0)) := rb_set hR1 6 (.int .i64 (-1))
  have hs : Same [R] W ((W.setCell ⟨R, 5, none⟩ (.int .i64 (-1))).setCell ⟨R, 6, none⟩ (.int .i64 (-1))) := (Same.setCell _ _ _ _ (by simp)).trans (Same.setCell _ _ _ _ (by simp))
  have hbu := buffered_any R U bl 0 w rd .nilIface (-1) (-1) _ hR2 (by omega) hw
  rw [Nat.sub_zero] at hbu
  have hw3I : (3 : Int) ≤ (w : Int) := by omega
  have hw0 : ((w : Int) == 0) = false := beq_eq_false_iff_ne.2 (by omega)
  clear hw hw3 hR1
  go_enter Ybad.func12, Ybad.ntmps12
  go_wp2
  refine wp_loop_rounds 1 ?_; rw [rounds_succ]
  go_wp2_with fail
  refine hbu.mono ?_
  rintro e w1 ⟨rfl, q, rfl⟩
  obtain ⟨W2, hW2⟩ : ∃ W2, ((W.setCell ⟨R, 5, none⟩ (.int .i64 (-1))).setCell ⟨R, 6, none⟩ (.int .i64 (-1))).drewN q = W2 := ⟨_, rfl⟩
  have hR3 : W2.heap[R]? = some (.cells (RB U bl rd (0 : Nat) w .nilIface (-1) (-1)) 47 (0, 0)) := by rw [← hW2]; exact hR2
  have hs3 : Same [R] W W2 := by rw [← hW2]; exact hs.trans (Same.drewN _ _ _)
  rw [hW2]
  clear hW2 hbu hR2 hs c0 c1 c2 c3 c4 c5 c6 cf
  obtain ⟨c0, c1, c2, c3, c4, c5, c6, cf⟩ := rcells hR3
  by_cases h3 : w = 3
  · have hlt : ¬ (3 : Int) < (w : Int) := by omega
    have h3' : (w : Int) = 3 := by omega
    go_wp2
    go_ret2
    exact ⟨rfl, rb_set hR3 2 (.int .i64 3), hs3.trans (Same.setCell _ _ _ _ (by simp))⟩
  · have hlt : (3 : Int) < (w : Int) := by omega
    go_wp2
    go_ret2
    exact ⟨rfl, rb_set hR3 2 (.int .i64 3), hs3.trans (Same.setCell _ _ _ _ (by simp))⟩

set_option maxHeartbeats 400000 in
theorem reset_any (R U bl : Nat) (rd : Value) (b0 b1 b2 b3 b4 b5 b6 : Value) (u : TypeId) (v : Value) (hrd : rd = .iface u v) (W : World) (hR : W.heap[R]? = some (.cells #[b0, b1, b2, b3, b4, b5, b6] 47 (0, 0))) :
    Calls Ybad.prog 15 #[.pointer (some ⟨R, 0, none⟩), .slice (some ⟨U, 0, none⟩) bl bl, rd] W fun e w' => e = .returned (.tuple #[]) ∧ w'.heap[R]? = some (.cells (RB U bl rd 0 0 .nilIface (-1) (-1)) 47 (0, 0)) ∧ Same [R] W w' := by
  obtain ⟨c0, c1, c2, c3, c4, c5, c6, cf⟩ := rcells hR
  subst hrd
  go_enter Ybad.func15, Ybad.ntmps15
  go_wp2
  go_end0
  refine ⟨rfl, ?_, ?_⟩
  · exact rb_set (rb_set (rb_set (rb_set (rb_set (rb_set (rb_set hR 0 _) 1 _) 2 _) 3 _) 4 _) 5 _) 6 _
  · exact ((((((Same.setCell _ _ _ _ (by simp)).trans (Same.setCell _ _ _ _ (by simp))).trans (Same.setCell _ _ _ _ (by simp))).trans (Same.setCell _ _ _ _ (by simp))).trans (Same.setCell _ _ _ _ (by simp))).trans (Same.setCell _ _ _ _ (by simp))).trans (Same.setCell _ _ _ _ (by simp))

theorem notReader (v : Value) (w : World) : (Instr.typeAssert (.iface 27 v) 41 30 true).run Ybad.prog w = .ok (.tuple #[.pointer none, .bool false]) w := by kernel_rfl

set_option maxRecDepth 100000 in
set_option maxHeartbeats 1000000 in
theorem newReader (bl : Nat) (v : Value) (W : World) (h16 : 16 ≤ bl) (hbl : bl ≤ 70000) :
    Calls Ybad.prog 10 #[.iface 27 v, .int .i64 (bl : Int)] W fun e w' => e = .returned (.pointer (some ⟨W.heap.size, 0, none⟩)) ∧ w'.heap[W.heap.size]? = some (.cells (RB (W.heap.size + 1) bl (.iface 27 v) 0 0 .nilIface (-1) (-1)) 47 (0, 0)) ∧ Row w' (W.heap.size + 1) bl (fun _ => 0) ∧ Below W.heap.size W w' := by
  have hta := notReader
  obtain ⟨i0, hi, hz0, hz1, hz2⟩ := info_parts Ybad.info5
  have hmx : max (bl : Int) 16 = (bl : Int) := by omega
  go_enter Ybad.func10, Ybad.ntmps10
  go_wp2_with (at_make; refine wpList_make_full _ rfl _ _ 22 rfl (W.heap.size + 1) 5 i0 (.int .u8 0) 1 Ybad.underlying22 hi hz0 hz1 .i64 .i64 _ _ bl rfl rfl rfl rfl (by rw [hz2]; omega) (by simp [maxLen]; omega) (by simp) ?_)
  intro w1 hown hgrow
  have hrow := row_of_made hown
  have hR1 : w1.heap[W.heap.size]? = some (.cells #[.slice none 0 0, .nilIface, .int .i64 0, .int .i64 0, .nilIface, .int .i64 0, .int .i64 0] 47 (0, 0)) := (hgrow.block W.heap.size (by simp) (by simp)).trans (heap_alloc_new W _)
  have hb1 : Below W.heap.size W w1 := ((Below.refl _ _).alloc (Nat.le_refl _) _).grown hgrow (by simp) (fun k hk => by cases hk)
  have hre := reset_any W.heap.size (W.heap.size + 1) bl (.iface 27 v) _ _ _ _ _ _ _ 27 v rfl w1 hR1
  clear hown hgrow hi hz0 hz1 hz2 h16 hbl hmx
  go_wp2_with fail
  refine hre.mono ?_
  rintro e w2 ⟨rfl, hR2, hs2⟩
  go_wp2
  go_ret
  refine ⟨rfl, hR2, hrow.same hs2 (by simp), hb1.trans (hs2.below hb1.size (by simp))⟩
end Go.Proofs.YbulkdlswDoor
