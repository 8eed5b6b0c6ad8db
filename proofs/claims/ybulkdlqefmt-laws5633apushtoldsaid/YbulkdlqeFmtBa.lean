/-
  append from nil; append of a make.
-/
import Derived.Test.YbulkdlqeFmtS
import Derived.Lib.AppendZeros
import Derived.Lib.AppendZerosOnto
namespace Go.Proofs.YbulkdlqeFmt
open Go.RowKit Go.Shelf Go.Lib

theorem zeros_vals (n : Nat) : (Builtin.zeroCells (Value.int .u8 0).cells n).toList = vals (fun _ => 0) n := by
  apply List.ext_getElem?
  intro i
  by_cases h : i < n
  · rw [vals_at _ _ _ h]
    simp [Builtin.zeroCells, Value.cells, h, Nat.mod_one]
  · have e1 : (vals (fun _ => 0) n)[i]? = none := List.getElem?_eq_none (by rw [length_vals]; omega)
    rw [e1]
    exact List.getElem?_eq_none (by simp [Builtin.zeroCells, Value.cells]; omega)

/-- 'append(b, make([]byte, k)...)' within the capacity. -/
theorem run_zeros_room (w : World) (ty : TypeId) (g n cap k : Nat) (cur : Array Value) (hg : w.heap[g]? = some (.cells cur 5 (0, 0))) (hroom : n + k ≤ cap) (hcs : cur.size = cap) (hk : k ≤ 4000000) :
    (Builtin.append_ #[22, 3] ty #[.slice (some ⟨g, 0, none⟩) n cap, .int .i64 (k : Int)]).run Ybaf.prog w = .ok (.slice (some ⟨g, 0, none⟩) (n + k) cap) (w.setRow g (cur.toList.take n ++ vals (fun _ => 0) k ++ cur.toList.drop (n + k)).toArray) := by
  obtain ⟨i0, hi, hz0, hz1, hz2⟩ := info_parts Ybaf.info5
  have hw : IntKind.i64.wrap (k : Int) = k := by rw [IntKind.wrap_i64]; omega
  have hneg : ¬ ((k : Int) < 0) := by omega
  have h48i : ¬ (281474976710656 < (k : Int) * (i0.bytes : Int)) := by rw [hz2]; omega
  have hadd : (⟨g, 0, none⟩ : Addr).add (n * 1) = ⟨g, n, none⟩ := by unfold Addr.add; split <;> simp_all
  have hst := run_storeCells_at (P := Ybaf.prog) g n 5 (vals (fun _ => 0) k) 0 cur w hg (by rw [length_vals]; omega) (vals_one _ _)
  rw [length_vals, Nat.add_zero] at hst
  by_cases h0 : k = 0
  · subst h0
    have hv : vals (fun _ => 0) 0 = [] := rfl
    rw [hv] at hst ⊢
    have hcur : (cur.toList.take n ++ ([] : List Value) ++ cur.toList.drop (n + 0)).toArray = cur := by simp
    have hself : w.setRow g (cur.toList.take n ++ ([] : List Value) ++ cur.toList.drop (n + 0)).toArray = w := by
      rw [hcur]
      exact setRow_self w g cur 5 (0, 0) hg
    rw [hself]
    have hw0 : IntKind.i64.wrap 0 = 0 := by rw [IntKind.wrap_i64]; omega
    have hroom' : n ≤ cap := hroom
    simp [Builtin.append_, run_underlying Ybaf.underlying22, run_underlying Ybaf.underlying3, sizeOf, typeInfo, hi, asInt, asIntOf, hroom', hw0, storeCells]
  · have hzc : (Builtin.zeroCells (Value.int .u8 0).cells k).toList = vals (fun _ => 0) k := zeros_vals k
    simp [Builtin.append_, run_underlying Ybaf.underlying22, run_underlying Ybaf.underlying3, sizeOf, typeInfo, zeroValue, hi, hz0, hz1, asInt, asIntOf, hroom, hneg, h48i, hw, h0]
    rw [show (⟨g, 0, none⟩ : Addr).add n = ⟨g, n, none⟩ by unfold Addr.add; split <;> simp_all]
    rw [show (Builtin.zeroCells (Value.int .u8 0).cells k).toList = vals (fun _ => 0) k from hzc, hst]
    simp

theorem ownB_cells {w : World} {B g cap n : Nat} {f : Nat → Nat} (h : OwnB w B g cap n f) : ∃ cur : Array Value, w.heap[g]? = some (.cells cur 5 (0, 0)) ∧ B ≤ g ∧ n ≤ cap ∧ cap ≤ maxLen ∧ cur.size = cap ∧ cur.toList.take n = vals f n := by
  rcases h.2 with ⟨h0, _⟩ | ⟨g', cap', cur, hv, hb, hg, hnc, hcm, hsz, htk⟩
  · cases h0
  · cases hv
    rw [Nat.mul_one] at htk hsz
    exact ⟨cur, hg, hb, hnc, hcm, hsz, htk⟩
theorem ownB_mk {w : World} {B g cap n : Nat} {f : Nat → Nat} {cur : Array Value} (hg : w.heap[g]? = some (.cells cur 5 (0, 0))) (hb : B ≤ g) (hnc : n ≤ cap) (hcm : cap ≤ maxLen) (hsz : cur.size = cap) (htk : cur.toList.take n = vals f n) : OwnB w B g cap n f :=
  ⟨by rw [length_vals]; omega, .inr ⟨g, cap, cur, rfl, hb, hg, hnc, hcm, by omega, by rw [Nat.mul_one]; exact htk⟩⟩

/-- 'append(b, make([]byte, k)...)', b a row of the call's own. -/
theorem wpList_zeros (w : World) {ops : Array Oper} {rest : List Oper} {o : Oper} {a : Act} {Q : Exit → Act → World → Prop} (hgd : o.guard = none) (s x : Operand)
    (ho : o.op = .call { callee := .builtin .append, args := #[s, x], argTypes := #[22, 3] })
    (B g cap n : Nat) (f : Nat → Nat) (hs : a.eval s = .slice (some ⟨g, 0, none⟩) n cap) (hown : OwnB w B g cap n f) (k : Nat) (hx : a.eval x = .int .i64 (k : Int))
    (h63 : n + k ≤ 4000000) (hbase : B ≤ w.heap.size)
    (h : ∀ g' cap' w', OwnB w' B g' cap' (n + k) (fun i => if i < n then f i else 0) → Below B w w' → wpList Ybaf.prog ops Q rest (a.put o.dst (.slice (some ⟨g', 0, none⟩) (n + k) cap')) w') : wpList Ybaf.prog ops Q (o :: rest) a w := by
  obtain ⟨cur, hg, hb, hnc, hcm, hsz, htk⟩ := ownB_cells hown
  have hva : vals f n ++ vals (fun _ => 0) k = vals (fun i => if i < n then f i else 0) (n + k) := vals_append f (fun _ => 0) n k
  by_cases hroom : n + k ≤ cap
  · refine wpList_append_run w hgd s x 22 3 ho _ _ hs hx _ _ (run_zeros_room w _ g n cap k cur hg hroom hsz (by omega)) (h g cap _ (ownB_mk (setRow_heap w g cur _ 5 _ hg) hb hroom hcm ?_ ?_) ?_)
    · simp [length_vals]
      omega
    · rw [htk, hva]
      rw [List.take_append_of_le_length (by rw [length_vals]; exact Nat.le_refl _), List.take_of_length_le (by rw [length_vals]; exact Nat.le_refl _)]
    · exact ⟨rfl, rfl, rfl, by simp [World.setRow], fun j hj => setRow_other w g j _ (by omega)⟩
  · obtain ⟨i0, hi, hz0, hz1, hz2⟩ := info_parts Ybaf.info5
    have hold : (Builtin.firstCells i0.size n (.slice (some ⟨g, 0, none⟩) n cap)).run Ybaf.prog w.drew = .ok (vals f n).toArray w.drew := by
      rw [hz1]
      exact run_firstCells_some w.drew 1 n ⟨g, 0, none⟩ n cap (vals f n) (by rw [length_vals]; omega) (fun j v hj => World.ownsRow.cells hown (g := g) rfl j v hj)
    have hr := run_append_grow_zeros (P := Ybaf.prog) w 22 3 o.type 5 i0 (.int .u8 0) .i64 .i64 Ybaf.underlying22 Ybaf.underlying3 hi hz0 (some ⟨g, 0, none⟩) n cap (vals f n) hold k (by omega) (by rw [hz1]; omega) (by omega) (by omega) (by rw [hz2]; omega)
      (by rw [hz2]; have := nextslicecap_le (need := n + k) (old := cap) (by omega); omega)
    have hge := grownCap_ge w (n + k) cap 5
    have hcm' : grownCap w (n + k) cap 5 ≤ maxLen := grownCap_le_maxLen w (n + k) cap 5 (by unfold maxLen; omega)
    refine wpList_append_run w hgd s x 22 3 ho _ _ hs hx _ _ hr (h w.heap.size _ _ (ownB_mk (heap_alloc_new w.drew _) hbase hge hcm' ?_ ?_) ?_)
    · have e1 : (Builtin.zeroCells (Value.int .u8 0).cells k).size = k := by simp [Builtin.zeroCells, Value.cells]
      have e2 : (Builtin.zeroCells (Value.int .u8 0).cells (grownCap w (n + k) cap 5 - (n + k))).size = grownCap w (n + k) cap 5 - (n + k) := by simp [Builtin.zeroCells, Value.cells]
      rw [Array.size_append, Array.size_append, e1, e2]
      simp [length_vals]
      omega
    · rw [Array.toList_append, Array.toList_append, zeros_vals k]
      rw [show (vals f n).toArray.toList = vals f n from rfl, hva]
      rw [List.take_append_of_le_length (by rw [length_vals]; exact Nat.le_refl _), List.take_of_length_le (by rw [length_vals]; exact Nat.le_refl _)]
    · exact ⟨rfl, rfl, rfl, by simp, fun j hj => Below.heap_alloc w.drew _ j (by show j < w.heap.size; omega)⟩

/-- 'append(nil, x...)', x bytes of some block. -/
theorem wpList_app_nil (w : World) {ops : Array Oper} {rest : List Oper} {o : Oper} {a : Act} {Q : Exit → Act → World → Prop} (hgd : o.guard = none) (s x : Operand)
    (ho : o.op = .call { callee := .builtin .append, args := #[s, x], argTypes := #[22, 22] })
    (B : Nat) (hs : a.eval s = .slice none 0 0)
    (xb xo m c : Nat) (fT : Nat → Nat) (hx : a.eval x = .slice (some ⟨xb, xo, none⟩) m c) (hcells : ∀ j, j < m → w.cell? ⟨xb, xo + j, none⟩ = some (.int .u8 (fT j : Int)))
    (hm : 0 < m) (h63 : m ≤ 4000000) (hbase : B ≤ w.heap.size)
    (h : ∀ g' cap' w', OwnB w' B g' cap' m fT → Below B w w' → wpList Ybaf.prog ops Q rest (a.put o.dst (.slice (some ⟨g', 0, none⟩) m cap')) w') : wpList Ybaf.prog ops Q (o :: rest) a w := by
  obtain ⟨i0, hi, hz0, hz1, hz2⟩ := info_parts Ybaf.info5
  refine wpList_append_own w hgd s x 22 ho B 5 i0 (.int .u8 0) 1 1 Ybaf.underlying22 hi hz0 hz1 hz2 rfl (by decide) _ 0 [] hs (World.ownsRow_nil _ _ _ _) ⟨xb, xo, none⟩ m c (vals fT m) hx (by rw [length_vals]; omega) (fun j u hj => ?_) (vals_one fT m) (by unfold maxLen; omega) (by omega) hbase ?_
  · have hjm : j < m := by
      have := (List.getElem?_eq_some_iff.1 hj).1
      rwa [length_vals] at this
    rw [vals_at fT m j hjm] at hj
    rw [show (⟨xb, xo, none⟩ : Addr).add j = ⟨xb, xo + j, none⟩ by unfold Addr.add; split <;> simp_all]
    exact (hcells j hjm).trans hj
  · intro v' w' hown' hgrow hnil
    rw [Nat.zero_add, List.nil_append] at hown'
    have hbl : Below B w w' := (Below.refl _ _).grown hgrow hbase (fun k hk => by cases hk)
    rcases hown'.2 with ⟨_, h0⟩ | ⟨g', cap', cur, hv, _⟩
    · omega
    · subst hv
      exact h g' cap' w' hown' hbl
end Go.Proofs.YbulkdlqeFmt
