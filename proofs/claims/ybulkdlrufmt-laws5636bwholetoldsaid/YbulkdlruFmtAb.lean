/-
  The comparison of two blocks: one region, in whatever order.
-/
import Derived.Test.YbulkdlruFmtAa
namespace Go.Proofs.YbulkdlruFmt
open Go.RowKit Go.Shelf
set_option linter.unusedVariables false
set_option linter.unusedSimpArgs false

theorem take_opg {ops : Array Oper} {Q : Exit → Act → World → Prop} {S : World → Prop} (i : Nat) {oi : Oper} (v : Value) {fuel : Nat} {listed : Array Bool} {a : Act} {w : World} (hi : ops[i]? = some oi) (hw : Region.wanted oi (yielded ops a.tmps) = true)
    (hs : Region.noSelect ops = true) (hf : Region.free .any ops listed i = true) (hr : (Region.ready .any ops listed).contains i = true)
    (hQ : ∀ c a w, Q (.panic c) (a.put oi.dst v) w → Q (.panic c) a w) (hy : ∀ w, S w → (execOp a.eval oi).run Ybaf.prog w = .ok (.value v) w) (hS : S w)
    (h : wpAnyH Ybaf.prog .any ops Q S fuel (listed.setIfInBounds i true) (a.put oi.dst v) w) : wpAnyH Ybaf.prog .any ops Q S (fuel + 1) listed a w :=
  wpAnyH_take hi hs hf hr hQ (.inl ⟨hw, hy⟩) hS h
theorem one_opg {ops : Array Oper} {Q : Exit → Act → World → Prop} {S : World → Prop} (i : Nat) {oi : Oper} {fuel : Nat} {listed : Array Bool} {a : Act} {w : World} (hr : Region.ready .any ops listed = [i]) (hi : ops[i]? = some oi) (hw : Region.wanted oi (yielded ops a.tmps) = true)
    (h : oi.wp Ybaf.prog a w (fun a' w' => S w' ∧ wpAnyH Ybaf.prog .any ops Q S fuel (listed.setIfInBounds i true) a' w') Q) : wpAnyH Ybaf.prog .any ops Q S (fuel + 1) listed a w :=
  wpAnyH_all hr (by simp) (fun j hj => by
    obtain rfl : j = i := by simpa using hj
    unfold wpOp
    simp only [hi]
    rw [if_pos hw]
    exact .inl h)
theorem exec_neqU {o : Oper} {a : Act} {w : World} (x y : Operand) (ho : o.op = .binOp .neq 22 x y 22) (n : Nat) (hx : a.eval x = .int .u64 (n : Int)) (hy : a.eval y = .int .u64 (n : Int)) : (execOp a.eval o).run Ybaf.prog w = .ok (.value (.bool false)) w := by
  have h1 : (binOp .neq 22 (.int .u64 (n : Int)) (.int .u64 (n : Int))).run Ybaf.prog w = .ok (.bool ((n : Int) != (n : Int))) w := by kernel_rfl
  have h2 : (eqGuard .neq 22 x y (.int .u64 (n : Int)) (.int .u64 (n : Int))).run Ybaf.prog w = .ok () w := by kernel_rfl
  rw [bne_self_eq_false] at h1
  simp [execOp, ho, hx, hy, h1, h2, Result.andThen]
theorem exec_neqI {o : Oper} {a : Act} {w : World} (x y : Operand) (ho : o.op = .binOp .neq 3 x y 3) (n : Nat) (hx : a.eval x = .int .i64 (n : Int)) (hy : a.eval y = .int .i64 (n : Int)) : (execOp a.eval o).run Ybaf.prog w = .ok (.value (.bool false)) w := by
  have h1 : (binOp .neq 3 (.int .i64 (n : Int)) (.int .i64 (n : Int))).run Ybaf.prog w = .ok (.bool ((n : Int) != (n : Int))) w := by kernel_rfl
  have h2 : (eqGuard .neq 3 x y (.int .i64 (n : Int)) (.int .i64 (n : Int))).run Ybaf.prog w = .ok () w := by kernel_rfl
  rw [bne_self_eq_false] at h1
  simp [execOp, ho, hx, hy, h1, h2, Result.andThen]
theorem exec_neq60 {o : Oper} {a : Act} {w : World} (x y : Operand) (ho : o.op = .binOp .neq 60 x y 60) (h : Nat → Nat) (hx : a.eval x = .agg (vals h 32).toArray) (hy : a.eval y = .agg (vals h 32).toArray) : (execOp a.eval o).run Ybaf.prog w = .ok (.value (.bool false)) w := by
  have h1 := neq60 h w
  have h2 : (eqGuard .neq 60 x y (.agg (vals h 32).toArray) (.agg (vals h 32).toArray)).run Ybaf.prog w = .ok () w := by
    simp [go_sem, eqGuard]
  simp [execOp, ho, hx, hy, h1, h2, Result.andThen]
end Go.Proofs.YbulkdlruFmt
