/-
  The law's own small functions: 'zzs5640agroup' (a group with a buffered channel that holds one token) and '(*Log).awaitAppends' (lock let go, one receive, lock taken again), in one goroutine.
-/
import Derived.Test.YbulkdltyRows
import Derived.Test.YbulkdltyLocks
import Derived.Conc.LoneCalls
import Derived.Conc.MuLone
import Derived.WalkKit
import Derived.ProofKit
namespace Go.Proofs.Ybulkdlty
open Go.Conc Go.RowKit Go.MuLone

/-- A call of a function with a contract, inside a walk of the machine of one. -/
theorem loneTo_call {P : Program} {Q : Goroutine → World → Prop} {b : Frame} {a : Act} {k : List Item} {cs : List Frame} {w : World} {ops : Array Oper} {i : Nat} {rest : List Nat} {o : Oper} {f : FuncId} {fn : Func} {c : Code} {args : Array Operand} {ats : Array TypeId} {R : Ending → World → Prop}
    (ho : ops[i]? = some o) (hw : Region.wanted o (yielded ops a.tmps) = true) (hk : b.kind ≠ .early) (hop : o.op = .call { callee := .value (.func f), args, argTypes := ats })
    (hf : P.funcs[f]? = some fn) (hname : (fn.name == "runtime.NumGoroutine") = false) (hb : fn.body = some c)
    {vs : Array Value} (hv : args.map a.eval = vs) (hc : Calls P f vs w R)
    (hR : ∀ e w', R e w' → ∃ v, e = .returned v ∧ LoneTo P Q (G ((b.at a (.inRegion ops (i :: rest) :: k)).finish v) cs) w') :
    LoneTo P Q (G (b.at a (.inRegion ops (i :: rest) :: k)) cs) w := by
  subst hv
  have hb' : fn.body.isNone = false := by rw [hb]; rfl
  obtain ⟨e, w', fr, hr, hcm, _, hl⟩ := hc (b.at a (.inRegion ops (i :: rest) :: k) :: cs)
  obtain ⟨v, rfl, g2, w2, hs, hq⟩ := hR e w' hr
  refine ⟨g2, w2, ?_, hq⟩
  refine Steps.head (step_solo_go rfl (stepG_enter ho hw hk (run_call_body hop hf hname hb'))) (Steps.trans hcm (Steps.head ?_ hs))
  exact step_leave_returned hl

theorem bytes28 : ∃ i, Yba.prog.info? 28 = some i ∧ i.bytes = 0 := by
  have h : (Yba.prog.info? 28).map (·.bytes) = some 0 := by kernel_rfl
  obtain ⟨i, hi, hb⟩ := Option.map_eq_some_iff.1 h
  exact ⟨i, hi, hb⟩
theorem mk1 (w : World) : (Instr.makeChan 52 (.int .i64 1)).run Yba.prog w = .ok (.chan (some w.heap.size)) (w.alloc (.chan 1 #[] false 0 0 false)) := by
  obtain ⟨i, hi, hb⟩ := bytes28
  simpa using run_makeChan (P := Yba.prog) (w := w) Yba.underlying52 hi .i64 1 (by omega) (by rw [hb]; omega)

theorem cell_setChan (w : World) (c cap : Nat) (buf : Array Value) (cl : Bool) (s r : Nat) (tm : Bool) (a : Addr) (h : a.block ≠ c) : (w.setChan c cap buf cl s r tm).cell? a = w.cell? a :=
  World.cell?_of_block (by simp only [World.setChan]; rw [Array.getElem?_setIfInBounds_ne (by omega)])
theorem frozen_setChan (w : World) (c cap : Nat) (buf : Array Value) (cl : Bool) (s r : Nat) (tm : Bool) (a : Addr) (h : a.block ≠ c) : (w.setChan c cap buf cl s r tm).frozen? a = w.frozen? a :=
  World.frozen?_of_block (by simp only [World.setChan]; rw [Array.getElem?_setIfInBounds_ne (by omega)])
theorem heap_setChan_other (w : World) (c cap : Nat) (buf : Array Value) (cl : Bool) (s r : Nat) (tm : Bool) (k : Nat) (h : k ≠ c) : (w.setChan c cap buf cl s r tm).heap[k]? = w.heap[k]? := by
  simp only [World.setChan]; rw [Array.getElem?_setIfInBounds_ne (by omega)]

/-- A group at block b + 1, its channel at block b: 'n' tokens lie in it (1: as it was made; 0: received). -/
structure Gr (w : World) (b : Nat) (full : Bool) : Prop where
  ch : w.heap[b]? = some (.chan 1 (if full then #[.agg #[]] else #[]) false 1 (if full then 0 else 1) false)
  c0 : w.cell? ⟨b + 1, 0, none⟩ = some (.slice none 0 0)
  c1 : w.cell? ⟨b + 1, 1, none⟩ = some (.slice none 0 0)
  c2 : w.cell? ⟨b + 1, 2, none⟩ = some .nilIface
  c3 : w.cell? ⟨b + 1, 3, none⟩ = some (.chan (some b))

theorem group_off (w : World) : Calls Yba.prog 4 #[.bool false] w fun e w' => e = .returned (.pointer none) ∧ w' = w := by
  go_enter Yba.func4, Yba.ntmps4
  go_wp2
  go_ret
  exact ⟨rfl, rfl⟩

set_option maxRecDepth 100000 in
theorem group_on (w : World) : Calls Yba.prog 4 #[.bool true] w fun e w' => e = .returned (.pointer (some ⟨w.heap.size + 1, 0, none⟩)) ∧ Below w.heap.size w w' ∧ Gr w' w.heap.size true ∧ w'.heap.size = w.heap.size + 2 := by
  refine calls_of_loneTo fun cs => ?_
  have e : Frame.enter Yba.prog 4 #[.bool true] .normal = (base 4).at ⟨#[.bool true, undef, undef, undef, undef, undef, undef, undef, undef, undef, undef, undef, undef, undef, undef], []⟩ [.code (Yba.f4.body.getD .skip)] := by
    simp [Frame.enter, Frame.at, Yba.func4, base, Yba.f4]
  rw [e]
  have hmc := mk1
  refine LoneTo.goes (n := 50) ?_
  simp only [Yba.f4, Option.getD_some]
  s_c stepG_seq
  s_reg
  s_op
  s_c stepG_region_end
  s_c stepG_seq
  s_c stepG_seq
  s_reg
  s_op
  s_op
  s_c stepG_region_end
  s_cond false
  s_c stepG_skip
  s_c stepG_seq
  s_reg
  s_op
  s_op
  s_op
  s_op
  s_c stepG_region_end
  s_c stepG_seq
  s_reg
  s_op
  s_op
  s_op
  s_op
  s_op
  s_stop
  generalize hW : ((w.alloc (Obj.chan 1 #[] false 0 0 false)).alloc (Obj.cells #[Value.slice none 0 0, Value.slice none 0 0, Value.nilIface, Value.chan (some w.heap.size)] 54)) = W
  have hch : W.heap[w.heap.size]? = some (.chan 1 #[] false 0 0 false) := by
    subst hW; exact (Below.heap_alloc _ _ _ (by simp)).trans (heap_alloc_new _ _)
  have hsz : W.heap.size = w.heap.size + 2 := by subst hW; simp
  have hbel : Below w.heap.size w W := by subst hW; exact ((Below.refl _ w).alloc (Nat.le_refl _) _).alloc (by simp) _
  have hc : ∀ j, W.cell? ⟨w.heap.size + 1, j, none⟩ = #[Value.slice none 0 0, Value.slice none 0 0, Value.nilIface, Value.chan (some w.heap.size)][j]? := by
    subst hW; intro j; exact World.cell?_alloc_at _ _ _ _ (by simp)
  clear hW
  refine LoneTo.step (step_lone_send_room (c := w.heap.size) (cap := 1) (buf := #[]) (s := 0) (r := 0) (tm := false) (stepG_comm (cases := #[scase w.heap.size (.agg #[]) (.tuple #[])]) (blocking := true) (shape := .send) (w' := W) rfl rfl (by decide) (by simp [execOp, scase, Act.eval])) hch (by simp)) ?_
  rw [Frame.finish_at]
  walk_nrm
  refine LoneTo.goes (n := 20) ?_
  s_c stepG_region_end
  s_c stepG_seq
  s_reg
  s_op
  s_op
  s_c stepG_region_end
  s_c stepG_ret'
  s_stop
  refine LoneTo.done ⟨.returned (.pointer (some ⟨w.heap.size + 1, 0, none⟩)), _, rfl, ⟨rfl, ?_⟩, rfl, rfl, rfl, rfl, _, Yba.func4, by simp [results, Yba.f4, Frame.at]⟩
  refine ⟨below_setChan hbel (Nat.le_refl _) _ _ _ _ _ _, ⟨?_, ?_, ?_, ?_, ?_⟩, ?_⟩
  · exact heap_setChan _ _ _ _ _ _ _ _ (by omega)
  · rw [cell_setChan _ _ _ _ _ _ _ _ _ (by simp), hc]; rfl
  · rw [cell_setChan _ _ _ _ _ _ _ _ _ (by simp), hc]; rfl
  · rw [cell_setChan _ _ _ _ _ _ _ _ _ (by simp), hc]; rfl
  · rw [cell_setChan _ _ _ _ _ _ _ _ _ (by simp), hc]; rfl
  · rw [size_setChan, hsz]

theorem await_none (l : Nat) (w : World) (h17 : w.cell? ⟨l, 17, none⟩ = some (.pointer none)) (h18 : w.cell? ⟨l, 18, none⟩ = some (.pointer none)) :
    Calls Yba.prog 6 #[.pointer (some ⟨l, 0, none⟩)] w fun e w' => e = .returned (.tuple #[]) ∧ w' = w := by
  go_enter Yba.func6, Yba.ntmps6
  go_wp2
  exact bodyPost_ret (results_none rfl _ _ _) rfl ⟨rfl, rfl⟩

/-- What one receive leaves: the lock's word as it was, one token less. -/
def after (w : World) (l b : Nat) : World := ((w.setCell ⟨l, 8, none⟩ (.int .i32 0)).setChan b 1 #[] false 1 1 false).setCell ⟨l, 8, none⟩ (.int .i32 1)

set_option maxRecDepth 100000 in
theorem await_fill (l b : Nat) (w : World) (h17 : w.cell? ⟨l, 17, none⟩ = some (.pointer (some ⟨b + 1, 0, none⟩))) (h8 : w.cell? ⟨l, 8, none⟩ = some (.int .i32 1)) (z8 : w.frozen? ⟨l, 8, none⟩ = false)
    (hg : Gr w b true) (hl : l ≠ b) (hl1 : l ≠ b + 1) :
    Calls Yba.prog 6 #[.pointer (some ⟨l, 0, none⟩)] w fun e w' => e = .returned (.tuple #[]) ∧ w' = after w l b := by
  refine calls_of_loneTo fun cs => ?_
  have e : Frame.enter Yba.prog 6 #[.pointer (some ⟨l, 0, none⟩)] .normal = (base 6).at ⟨#[.pointer (some ⟨l, 0, none⟩), undef, undef, undef, undef, undef, undef, undef, undef, undef, undef, undef, undef, undef, undef, undef, undef, undef, undef, undef, undef, undef, undef, undef, undef, undef, undef, undef], []⟩ [.code (Yba.f6.body.getD .skip)] := by
    simp [Frame.enter, Frame.at, Yba.func6, base, Yba.f6]
  rw [e]
  refine LoneTo.goes (n := 50) ?_
  simp only [Yba.f6, Option.getD_some]
  s_c stepG_seq
  s_reg
  s_op
  s_op
  s_op
  s_op
  s_op
  s_c stepG_region_end
  s_c stepG_seq
  s_c stepG_seq
  s_reg
  s_op
  s_op
  s_c stepG_region_end
  s_cond false
  s_c stepG_skip
  s_c stepG_seq
  s_c stepG_seq
  s_reg
  s_op
  s_op
  s_c stepG_region_end
  s_cond false
  s_c stepG_skip
  s_c stepG_seq
  s_reg
  s_op
  s_op
  s_op
  s_stop
  have h8' : (w.setCell ⟨l, 8, none⟩ (.int .i32 0)).cell? ⟨l, 8, none⟩ = some (.int .i32 0) := World.cell?_setCell_same _ _ _ h8
  have hx : ∀ (v : Value) (k j : Nat), k ≠ l → (w.setCell ⟨l, 8, none⟩ v).cell? ⟨k, j, none⟩ = w.cell? ⟨k, j, none⟩ := fun v k j hk => World.cell?_setCell_other _ _ _ _ (by intro h; exact hk (congrArg Addr.block h).symm)
  refine loneTo_call (f := 8) rfl rfl (by decide) rfl Yba.func8 rfl rfl (by simp [Act.eval]) (unlock_held Yba.muLib ⟨l, 8, none⟩ w h8 z8) ?_
  rintro e1 w1 ⟨rfl, rfl⟩
  refine ⟨_, rfl, ?_⟩
  rw [Frame.finish_at]
  walk_nrm
  have g3 : (w.setCell ⟨l, 8, none⟩ (.int .i32 0)).cell? ⟨b + 1, 3, none⟩ = some (.chan (some b)) := (hx _ _ _ (by omega)).trans hg.c3
  have gch : (w.setCell ⟨l, 8, none⟩ (.int .i32 0)).heap[b]? = some (.chan 1 #[.agg #[]] false 1 0 false) := (Below.heap_setCell _ _ _ _ (by simp; omega)).trans hg.ch
  have z8' : (w.setCell ⟨l, 8, none⟩ (.int .i32 0)).frozen? ⟨l, 8, none⟩ = false := by simpa using z8
  generalize hW : w.setCell ⟨l, 8, none⟩ (.int .i32 0) = W at *
  refine LoneTo.goes (n := 30) ?_
  s_c stepG_region_end
  s_c stepG_seq
  s_reg
  s_op
  s_op
  s_op
  s_op
  s_stop
  refine LoneTo.step (step_lone_recv_buf false (c := b) (z := .agg #[]) (stepG_comm (cases := #[rcase b (.agg #[])]) (blocking := true) (shape := .recv false) (w' := W) rfl rfl (by decide) (by simp [go_sem, rcase])) gch (by simp)) ?_
  rw [Frame.finish_at]
  simp only [got]
  walk_nrm
  have k8 : (W.setChan b 1 #[] false 1 1 false).cell? ⟨l, 8, none⟩ = some (.int .i32 0) := (cell_setChan _ _ _ _ _ _ _ _ _ hl).trans h8'
  have y8 : (W.setChan b 1 #[] false 1 1 false).frozen? ⟨l, 8, none⟩ = false := (frozen_setChan _ _ _ _ _ _ _ _ _ hl).trans z8'
  refine LoneTo.goes (n := 30) ?_
  s_c stepG_region_end
  s_reg
  s_op
  s_op
  s_op
  s_stop
  refine loneTo_call (f := 5) rfl rfl (by decide) rfl Yba.func5 rfl rfl (by simp [Act.eval]) (lock_free Yba.muLib ⟨l, 8, none⟩ _ k8 y8) ?_
  rintro e1 w1 ⟨rfl, rfl⟩
  refine ⟨_, rfl, ?_⟩
  rw [Frame.finish_at]
  walk_nrm
  refine LoneTo.goes (n := 30) ?_
  s_c stepG_region_end
  s_c stepG_end
  s_stop
  refine LoneTo.done ⟨.returned (.tuple #[]), _, rfl, ⟨rfl, ?_⟩, rfl, rfl, rfl, rfl, _, Yba.func6, by simp [results, Yba.f6, Frame.at]⟩
  simp [after, hW]

set_option maxRecDepth 100000 in
theorem await_flush (l b : Nat) (w : World) (h17 : w.cell? ⟨l, 17, none⟩ = some (.pointer none)) (h18 : w.cell? ⟨l, 18, none⟩ = some (.pointer (some ⟨b + 1, 0, none⟩))) (h8 : w.cell? ⟨l, 8, none⟩ = some (.int .i32 1)) (z8 : w.frozen? ⟨l, 8, none⟩ = false)
    (hg : Gr w b true) (hl : l ≠ b) (hl1 : l ≠ b + 1) :
    Calls Yba.prog 6 #[.pointer (some ⟨l, 0, none⟩)] w fun e w' => e = .returned (.tuple #[]) ∧ w' = after w l b := by
  refine calls_of_loneTo fun cs => ?_
  have e : Frame.enter Yba.prog 6 #[.pointer (some ⟨l, 0, none⟩)] .normal = (base 6).at ⟨#[.pointer (some ⟨l, 0, none⟩), undef, undef, undef, undef, undef, undef, undef, undef, undef, undef, undef, undef, undef, undef, undef, undef, undef, undef, undef, undef, undef, undef, undef, undef, undef, undef, undef], []⟩ [.code (Yba.f6.body.getD .skip)] := by
    simp [Frame.enter, Frame.at, Yba.func6, base, Yba.f6]
  rw [e]
  refine LoneTo.goes (n := 60) ?_
  simp only [Yba.f6, Option.getD_some]
  s_c stepG_seq
  s_reg
  s_op
  s_op
  s_op
  s_op
  s_op
  s_c stepG_region_end
  s_c stepG_seq
  s_c stepG_seq
  s_reg
  s_op
  s_op
  s_c stepG_region_end
  s_cond true
  s_reg
  s_op
  s_op
  s_op
  s_op
  s_op
  s_c stepG_region_end
  s_c stepG_seq
  s_c stepG_seq
  s_reg
  s_op
  s_op
  s_c stepG_region_end
  s_cond false
  s_c stepG_skip
  s_c stepG_seq
  s_reg
  s_op
  s_op
  s_op
  s_stop
  have h8' : (w.setCell ⟨l, 8, none⟩ (.int .i32 0)).cell? ⟨l, 8, none⟩ = some (.int .i32 0) := World.cell?_setCell_same _ _ _ h8
  have hx : ∀ (v : Value) (k j : Nat), k ≠ l → (w.setCell ⟨l, 8, none⟩ v).cell? ⟨k, j, none⟩ = w.cell? ⟨k, j, none⟩ := fun v k j hk => World.cell?_setCell_other _ _ _ _ (by intro h; exact hk (congrArg Addr.block h).symm)
  refine loneTo_call (f := 8) rfl rfl (by decide) rfl Yba.func8 rfl rfl (by simp [Act.eval]) (unlock_held Yba.muLib ⟨l, 8, none⟩ w h8 z8) ?_
  rintro e1 w1 ⟨rfl, rfl⟩
  refine ⟨_, rfl, ?_⟩
  rw [Frame.finish_at]
  walk_nrm
  have g3 : (w.setCell ⟨l, 8, none⟩ (.int .i32 0)).cell? ⟨b + 1, 3, none⟩ = some (.chan (some b)) := (hx _ _ _ (by omega)).trans hg.c3
  have gch : (w.setCell ⟨l, 8, none⟩ (.int .i32 0)).heap[b]? = some (.chan 1 #[.agg #[]] false 1 0 false) := (Below.heap_setCell _ _ _ _ (by simp; omega)).trans hg.ch
  have z8' : (w.setCell ⟨l, 8, none⟩ (.int .i32 0)).frozen? ⟨l, 8, none⟩ = false := by simpa using z8
  generalize hW : w.setCell ⟨l, 8, none⟩ (.int .i32 0) = W at *
  refine LoneTo.goes (n := 30) ?_
  s_c stepG_region_end
  s_c stepG_seq
  s_reg
  s_op
  s_op
  s_op
  s_op
  s_stop
  refine LoneTo.step (step_lone_recv_buf false (c := b) (z := .agg #[]) (stepG_comm (cases := #[rcase b (.agg #[])]) (blocking := true) (shape := .recv false) (w' := W) rfl rfl (by decide) (by simp [go_sem, rcase])) gch (by simp)) ?_
  rw [Frame.finish_at]
  simp only [got]
  walk_nrm
  have k8 : (W.setChan b 1 #[] false 1 1 false).cell? ⟨l, 8, none⟩ = some (.int .i32 0) := (cell_setChan _ _ _ _ _ _ _ _ _ hl).trans h8'
  have y8 : (W.setChan b 1 #[] false 1 1 false).frozen? ⟨l, 8, none⟩ = false := (frozen_setChan _ _ _ _ _ _ _ _ _ hl).trans z8'
  refine LoneTo.goes (n := 30) ?_
  s_c stepG_region_end
  s_reg
  s_op
  s_op
  s_op
  s_stop
  refine loneTo_call (f := 5) rfl rfl (by decide) rfl Yba.func5 rfl rfl (by simp [Act.eval]) (lock_free Yba.muLib ⟨l, 8, none⟩ _ k8 y8) ?_
  rintro e1 w1 ⟨rfl, rfl⟩
  refine ⟨_, rfl, ?_⟩
  rw [Frame.finish_at]
  walk_nrm
  refine LoneTo.goes (n := 30) ?_
  s_c stepG_region_end
  s_c stepG_end
  s_stop
  refine LoneTo.done ⟨.returned (.tuple #[]), _, rfl, ⟨rfl, ?_⟩, rfl, rfl, rfl, rfl, _, Yba.func6, by simp [results, Yba.f6, Frame.at]⟩
  simp [after, hW]

theorem try_held (l : Nat) (w : World) (h8 : w.cell? ⟨l, 8, none⟩ = some (.int .i32 1)) :
    Calls Yba.prog 7 #[.pointer (some ⟨l, 8, none⟩)] w fun e w' => e = .returned (.bool false) ∧ w' = w := by
  have hd := disable Yba.muLib
  have he := enable Yba.muLib
  have hin : Calls Yba.prog 10 #[.pointer (some ⟨l, 8, none⟩)] w fun e w' => e = .returned (.bool false) ∧ w' = w := by
    go_enter Yba.func10, Yba.ntmps10
    go_wp2
    go_ret
    exact ⟨rfl, rfl⟩
  go_enter Yba.func7, Yba.ntmps7
  go_wp2_with (go_at_call 10; refine hin.mono ?_; rintro e w' ⟨rfl, rfl⟩)
  go_ret
  exact ⟨rfl, rfl⟩

end Go.Proofs.Ybulkdlty
