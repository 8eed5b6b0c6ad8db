/-
  Equal bytes, equal arrays.
-/
import Derived.Test.YbulkdlruFmtZ
import Derived.ChangeKeysEq
namespace Go.Proofs.YbulkdlruFmt
open Go.RowKit Go.Shelf
set_option linter.unusedVariables false
set_option linter.unusedSimpArgs false

set_option maxHeartbeats 1000000 in
theorem bbs_some (T o n c c' N : Nat) (f : Nat → Nat) (W : World) (hT : Row W T N f) (h : o + n ≤ N) :
    Calls Ybaf.prog 31 #[.slice (some ⟨T, o, none⟩) n c, .slice (some ⟨T, o, none⟩) n c'] W fun e w' => e = .returned (.bool true) ∧ w' = W := by
  have hb : Bytes W (some ⟨T, o, none⟩) n (fun i => f (o + i)) := .inr ⟨T, o, rfl, fun i hi => hT.cell (by omega)⟩
  have heq := equal_any (some ⟨T, o, none⟩) (some ⟨T, o, none⟩) n n c c' _ _ W hb hb rfl (fun _ _ => rfl)
  have hq := fun (X : World) (m k : Nat) => Go.Lib.run_eql_slice_nil (P := Ybaf.prog) X 33 5 (some ⟨T, o, none⟩) m k 0 0 Ybaf.underlying33
  clear hb
  go_enter Ybaf.func31, Ybaf.ntmps31
  go_wp2_with (go_at_call 11; refine heq.mono ?_; rintro e w1 ⟨rfl, hw1⟩; subst w1)
  go_ret
  exact ⟨rfl, rfl⟩
set_option maxHeartbeats 1000000 in
theorem bbs_none (W : World) :
    Calls Ybaf.prog 31 #[.slice none 0 0, .slice none 0 0] W fun e w' => e = .returned (.bool true) ∧ w' = W := by
  have hb : Bytes W none 0 (fun i => 0) := .inl rfl
  have heq := equal_any none none 0 0 0 0 _ _ W hb hb rfl (fun _ _ => rfl)
  have hq := fun (X : World) => Go.Lib.run_eql_slice_nil (P := Ybaf.prog) X 33 5 none 0 0 0 0 Ybaf.underlying33
  clear hb
  go_enter Ybaf.func31, Ybaf.ntmps31
  go_wp2_with (go_at_call 11; refine heq.mono ?_; rintro e w1 ⟨rfl, hw1⟩; subst w1)
  go_ret
  exact ⟨rfl, rfl⟩

theorem cells5 : Ybaf.prog.cellsOf 5 = 1 := by kernel_rfl
theorem agg5 (w : World) : (isAgg 5).run Ybaf.prog w = .ok false w := by kernel_rfl
theorem eq5 (d : Nat) (x : Nat) (w : World) : (Op.equalIn (d + 1) 5 (.int .u8 (x : Int)) (.int .u8 (x : Int))).run Ybaf.prog w = .ok true w := by
  simp [Op.equalIn, run_underlying Ybaf.underlying5]
theorem items5 (d : Nat) (h : Nat → Nat) (w : World) : ∀ is : List Nat, (∀ i ∈ is, i < 32) → (Op.eqItems (d + 1) 5 1 (vals h 32).toArray (vals h 32).toArray is).run Ybaf.prog w = .ok true w
  | [], _ => by simp [Op.eqItems]
  | i :: is, hi => by
    have h1 : i < 32 := hi i (by simp)
    have h2 := items5 d h w is (fun j hj => hi j (by simp [hj]))
    have h3 : (part 5 (vals h 32).toArray (i * 1)).run Ybaf.prog w = .ok (.int .u8 (h i : Int)) w := by
      have h4 := vals_at h 32 i h1
      simp [part, Sem.run_bind, agg5, h4, Result.andThen]
    simp only [Op.eqItems, Sem.run_bind, h3, Result.andThen_ok, eq5]
    simpa using h2
theorem info5some : (Ybaf.prog.info? 5).isSome = true := by kernel_rfl
theorem neq60 (h : Nat → Nat) (w : World) : (binOp .neq 60 (.agg (vals h 32).toArray) (.agg (vals h 32).toArray)).run Ybaf.prog w = .ok (.bool false) w := by
  obtain ⟨i, hi⟩ := Option.isSome_iff_exists.1 info5some
  have h1 := run_equalIn_array (P := Ybaf.prog) w 9999 (vals h 32).toArray (vals h 32).toArray Ybaf.underlying60 hi
  rw [cells5, items5 9998 h w (List.range 32) (fun j hj => List.mem_range.1 hj)] at h1
  simp only [binOp]
  simp [Op.equal, Op.maxDepth, h1]
end Go.Proofs.YbulkdlruFmt
