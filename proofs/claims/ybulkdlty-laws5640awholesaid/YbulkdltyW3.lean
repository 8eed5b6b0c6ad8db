/-
  The law's walk, by its two flags.
-/
import Derived.Test.YbulkdltyW2
import Derived.Laws.Cover3
namespace Go.Proofs.Ybulkdlty
open Go.Conc Go.RowKit Go.MuLone
set_option linter.unusedVariables false

theorem neq37 (w : World) : Sem.run Yba.prog (binOp BinOp.neq 37 (Value.slice none 0 0) (Value.slice none 0 0)) w = .ok (.bool false) w := by
  simp [binOp, go_sem, run_equal_slice_nil w _ _ _ _ _ Yba.underlying37]
theorem neq39 (w : World) : Sem.run Yba.prog (binOp BinOp.neq 39 (Value.slice none 0 0) (Value.slice none 0 0)) w = .ok (.bool false) w := by
  simp [binOp, go_sem, run_equal_slice_nil w _ _ _ _ _ Yba.underlying39]
theorem neq51 (w : World) : Sem.run Yba.prog (binOp BinOp.neq 51 (Value.slice none 0 0) (Value.slice none 0 0)) w = .ok (.bool false) w := by
  simp [binOp, go_sem, run_equal_slice_nil w _ _ _ _ _ Yba.underlying51]
theorem len52 (w : World) (ty : TypeId) (b cap : Nat) (cl : Bool) (buf : Array Value) (s r : Nat) (h : w.heap[b]? = some (.chan cap buf cl s r false)) : Sem.run Yba.prog (Builtin.len_ #[52] ty #[.chan (some b)]) w = .ok (goInt buf.size) w := by
  simp [Builtin.len_, run_underlying Yba.underlying52, getObj, Sem.run, h, Result.andThen]

theorem eqIn23 (d : Nat) (w : World) (b o : Nat) : Sem.run Yba.prog (Op.equalIn (d + 1) 23 (Value.pointer (some ⟨b, o, none⟩)) (Value.pointer (some ⟨b, o, none⟩))) w = .ok true w := by
  simp [Op.equalIn, run_underlying Yba.underlying23, Yba.sizeOf54, sameAddr]
theorem neq23 (w : World) (b o : Nat) : Sem.run Yba.prog (binOp BinOp.neq 23 (Value.pointer (some ⟨b, o, none⟩)) (Value.pointer (some ⟨b, o, none⟩))) w = .ok (.bool false) w := by
  have : Sem.run Yba.prog (Op.equal 23 (.pointer (some ⟨b, o, none⟩)) (.pointer (some ⟨b, o, none⟩))) w = .ok true w := eqIn23 9999 w b o
  simp [binOp, this]
/-- A group was made: its blocks are letters. -/
def GMade (w : World) (e : Ending) (w' : World) : Prop := ∃ b, e = .returned (.pointer (some ⟨b + 1, 0, none⟩)) ∧ w.heap.size ≤ b ∧ b + 1 < w'.heap.size ∧ Gr w' b true ∧ Below w.heap.size w w'
theorem group_made (w : World) : Calls Yba.prog 4 #[.bool true] w (GMade w) :=
  (group_on w).mono fun e w' ⟨he, hb, hg, hs⟩ => ⟨_, he, Nat.le_refl _, by omega, hg, hb⟩

theorem try_st {f g : Option Nat} {ff gf : Bool} {cl : Bool} {nx tl pl : Int} {l : Nat} {w : World} (h : St f g ff gf 1 cl nx tl pl l w) :
    Calls Yba.prog 7 #[.pointer (some ⟨l, 8, none⟩)] w fun e w' => e = .returned (.bool false) ∧ w' = w := try_held l w h.c8

set_option maxRecDepth 100000 in
set_option maxHeartbeats 4000000 in
theorem walk_ff (a2 : Bool) (a3 a4 a5 : Int) (w : World) :
    Calls Yba.prog 3 #[.bool false, .bool false, .bool a2, .int .u64 a3, .int .i64 a4, .int .i64 a5] w fun e w' => e = .returned (.bool true) ∧ Below w.heap.size w w' := by
  have n37 := neq37
  have n39 := neq39
  have n51 := neq51
  have n23 := neq23
  go_enter Yba.func3, Yba.ntmps3
  go_wp2_with (first
    | (go_at_call 4; have _hx := first; refine (group_off _).mono ?_; rintro e2 w2 ⟨rfl, hw⟩; subst w2)
    | (go_at_call 4; refine (group_off w).mono ?_; rintro e1 w1 ⟨rfl, hw⟩; subst w1; have first : True := trivial)
    | (go_at_call 5; refine (lock_st (St.made none none a2 a3 a4 a5 _ _ rfl rfl rfl rfl rfl rfl rfl rfl rfl rfl rfl rfl rfl (fun _ h => by simp at h) (fun _ h => by simp at h) (fun _ _ h => by simp at h)) w.heap.size (by omega)).mono ?_; rintro e3 w3 ⟨rfl, st3, hb3⟩)
    | (go_at_call 6; refine (await_st st3 w.heap.size (by omega) (fun _ h => by simp at h) (fun _ h => by simp at h)).mono ?_; rintro e4 w4 ⟨rfl, st4, hb4⟩)
    | (go_at_call 7; refine (try_st st4).mono ?_; rintro e5 w5 ⟨rfl, rfl⟩)
    | (go_at_call 8; refine (unlock_st st4 w.heap.size (by omega)).mono ?_; rintro e6 w6 ⟨rfl, st6, hb6⟩; have c10 := st6.c10; have c11 := st6.c11; have c12 := st6.c12; have c13 := st6.c13; have c14 := st6.c14; have c15 := st6.c15; have c16 := st6.c16; have c17 := st6.c17; have c18 := st6.c18; have c19 := st6.c19; have c20 := st6.c20; have c21 := st6.c21; simp only [gp] at c17 c18))
  go_ret
  exact ⟨rfl, ((((Below.refl _ w).alloc (by omega) _).trans hb3).trans hb4).trans hb6⟩

set_option maxRecDepth 100000 in
set_option maxHeartbeats 4000000 in
theorem walk_tf (a2 : Bool) (a3 a4 a5 : Int) (w : World) :
    Calls Yba.prog 3 #[.bool true, .bool false, .bool a2, .int .u64 a3, .int .i64 a4, .int .i64 a5] w fun e w' => e = .returned (.bool true) ∧ Below w.heap.size w w' := by
  have n37 := neq37
  have n39 := neq39
  have n51 := neq51
  have n23 := neq23
  go_enter Yba.func3, Yba.ntmps3
  go_wp2_with (first
    | (go_at_call 4; have _hx := first; refine (group_off _).mono ?_; rintro e2 w2 ⟨rfl, hw⟩; subst w2)
    | (go_at_call 4; refine (group_made w).mono ?_; rintro e1 w1 ⟨b1, rfl, hl1, hs1, hg1, hb1⟩; have first : True := trivial)
    | (go_at_call 5; refine (lock_st (St.made (some b1) none a2 a3 a4 a5 _ _ rfl rfl rfl rfl rfl rfl rfl rfl rfl rfl rfl rfl rfl (fun b hb => by obtain rfl := Option.some.inj hb; exact ⟨hg1, by omega⟩) (fun _ h => by simp at h) (fun _ _ _ h => by simp at h)) w.heap.size (by omega)).mono ?_; rintro e3 w3 ⟨rfl, st3, hb3⟩)
    | (go_at_call 6; refine (await_st st3 w.heap.size (by omega) (fun b hb => by obtain rfl := Option.some.inj hb; omega) (fun _ h => by simp at h)).mono ?_; rintro e4 w4 ⟨rfl, st4, hb4⟩)
    | (go_at_call 7; refine (try_st st4).mono ?_; rintro e5 w5 ⟨rfl, rfl⟩)
    | (go_at_call 8; refine (unlock_st st4 w.heap.size (by omega)).mono ?_; rintro e6 w6 ⟨rfl, st6, hb6⟩; have c10 := st6.c10; have c11 := st6.c11; have c12 := st6.c12; have c13 := st6.c13; have c14 := st6.c14; have c15 := st6.c15; have c16 := st6.c16; have c17 := st6.c17; have c18 := st6.c18; have c19 := st6.c19; have c20 := st6.c20; have c21 := st6.c21; simp only [gp] at c17 c18; have r1 := (st6.gr1 _ rfl).1; have r10 := r1.c0; have r11 := r1.c1; have r12 := r1.c2; have r13 := r1.c3; have r1l := fun ty => len52 _ ty _ _ _ _ _ _ r1.ch))
  go_ret
  exact ⟨rfl, (((hb1.alloc (by omega) _).trans hb3).trans hb4).trans hb6⟩

set_option maxRecDepth 100000 in
set_option maxHeartbeats 4000000 in
theorem walk_ft (a2 : Bool) (a3 a4 a5 : Int) (w : World) :
    Calls Yba.prog 3 #[.bool false, .bool true, .bool a2, .int .u64 a3, .int .i64 a4, .int .i64 a5] w fun e w' => e = .returned (.bool true) ∧ Below w.heap.size w w' := by
  have n37 := neq37
  have n39 := neq39
  have n51 := neq51
  have n23 := neq23
  go_enter Yba.func3, Yba.ntmps3
  go_wp2_with (first
    | (go_at_call 4; have _hx := first; refine (group_made _).mono ?_; rintro e2 w2 ⟨b2, rfl, hl2, hs2, hg2, hb2⟩)
    | (go_at_call 4; refine (group_off w).mono ?_; rintro e1 w1 ⟨rfl, hw⟩; subst w1; have first : True := trivial)
    | (go_at_call 5; refine (lock_st (St.made none (some b2) a2 a3 a4 a5 _ _ rfl rfl rfl rfl rfl rfl rfl rfl rfl rfl rfl rfl rfl (fun _ h => by simp at h) (fun b hb => by obtain rfl := Option.some.inj hb; exact ⟨hg2, by omega⟩) (fun _ _ h => by simp at h)) w.heap.size (by omega)).mono ?_; rintro e3 w3 ⟨rfl, st3, hb3⟩)
    | (go_at_call 6; refine (await_st st3 w.heap.size (by omega) (fun _ h => by simp at h) (fun b hb => by obtain rfl := Option.some.inj hb; omega)).mono ?_; rintro e4 w4 ⟨rfl, st4, hb4⟩)
    | (go_at_call 7; refine (try_st st4).mono ?_; rintro e5 w5 ⟨rfl, rfl⟩)
    | (go_at_call 8; refine (unlock_st st4 w.heap.size (by omega)).mono ?_; rintro e6 w6 ⟨rfl, st6, hb6⟩; have c10 := st6.c10; have c11 := st6.c11; have c12 := st6.c12; have c13 := st6.c13; have c14 := st6.c14; have c15 := st6.c15; have c16 := st6.c16; have c17 := st6.c17; have c18 := st6.c18; have c19 := st6.c19; have c20 := st6.c20; have c21 := st6.c21; simp only [gp] at c17 c18; have r2 := (st6.gr2 _ rfl).1; have r20 := r2.c0; have r21 := r2.c1; have r22 := r2.c2; have r23 := r2.c3; have r2l := fun ty => len52 _ ty _ _ _ _ _ _ r2.ch))
  go_ret
  exact ⟨rfl, (((hb2.alloc (by omega) _).trans hb3).trans hb4).trans hb6⟩

set_option maxRecDepth 100000 in
set_option maxHeartbeats 4000000 in
theorem walk_tt (a2 : Bool) (a3 a4 a5 : Int) (w : World) :
    Calls Yba.prog 3 #[.bool true, .bool true, .bool a2, .int .u64 a3, .int .i64 a4, .int .i64 a5] w fun e w' => e = .returned (.bool true) ∧ Below w.heap.size w w' := by
  have n37 := neq37
  have n39 := neq39
  have n51 := neq51
  have n23 := neq23
  go_enter Yba.func3, Yba.ntmps3
  go_wp2_with (first
    | (go_at_call 4; have _hx := first; refine (group_made _).mono ?_; rintro e2 w2 ⟨b2, rfl, hl2, hs2, hg2, hb2⟩)
    | (go_at_call 4; refine (group_made w).mono ?_; rintro e1 w1 ⟨b1, rfl, hl1, hs1, hg1, hb1⟩; have first : True := trivial)
    | (go_at_call 5; refine (lock_st (St.made (some b1) (some b2) a2 a3 a4 a5 _ _ rfl rfl rfl rfl rfl rfl rfl rfl rfl rfl rfl rfl rfl (fun b hb => by obtain rfl := Option.some.inj hb; exact ⟨hg1.below hb2 (by omega), by omega⟩) (fun b hb => by obtain rfl := Option.some.inj hb; exact ⟨hg2, by omega⟩) (fun b c hb hc => by obtain rfl := Option.some.inj hb; obtain rfl := Option.some.inj hc; omega)) w.heap.size (by omega)).mono ?_; rintro e3 w3 ⟨rfl, st3, hb3⟩)
    | (go_at_call 6; refine (await_st st3 w.heap.size (by omega) (fun b hb => by obtain rfl := Option.some.inj hb; omega) (fun b hb => by obtain rfl := Option.some.inj hb; omega)).mono ?_; rintro e4 w4 ⟨rfl, st4, hb4⟩)
    | (go_at_call 7; refine (try_st st4).mono ?_; rintro e5 w5 ⟨rfl, rfl⟩)
    | (go_at_call 8; refine (unlock_st st4 w.heap.size (by omega)).mono ?_; rintro e6 w6 ⟨rfl, st6, hb6⟩; have c10 := st6.c10; have c11 := st6.c11; have c12 := st6.c12; have c13 := st6.c13; have c14 := st6.c14; have c15 := st6.c15; have c16 := st6.c16; have c17 := st6.c17; have c18 := st6.c18; have c19 := st6.c19; have c20 := st6.c20; have c21 := st6.c21; simp only [gp] at c17 c18; have r1 := (st6.gr1 _ rfl).1; have r10 := r1.c0; have r11 := r1.c1; have r12 := r1.c2; have r13 := r1.c3; have r1l := fun ty => len52 _ ty _ _ _ _ _ _ r1.ch; have r2 := (st6.gr2 _ rfl).1; have r20 := r2.c0; have r21 := r2.c1; have r22 := r2.c2; have r23 := r2.c3; have r2l := fun ty => len52 _ ty _ _ _ _ _ _ r2.ch))
  go_ret
  exact ⟨rfl, ((((hb1.trans (hb2.mono (by omega))).alloc (by omega) _).trans hb3).trans hb4).trans hb6⟩

end Go.Proofs.Ybulkdlty
