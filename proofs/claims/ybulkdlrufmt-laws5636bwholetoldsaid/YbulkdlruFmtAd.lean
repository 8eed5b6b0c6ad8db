/-
  What the comparisons lean on: places in range, equal slices, steps of a region in the text's order.
-/
import Derived.Test.YbulkdlruFmtAc
namespace Go.Proofs.YbulkdlruFmt
open Go.RowKit Go.Shelf
set_option linter.unusedVariables false
set_option linter.unusedSimpArgs false

/-- A block's payload lies inside the text. -/
def InB (N : Nat) (b : PB) : Prop := ∀ o l, b.pay = some (o, l) → o + l ≤ N
/-- The signatures lie inside the text. -/
def InL (N : Nat) (l : List (Nat × Option Nat)) : Prop := ∀ e ∈ l, ∀ p, e.2 = some p → p + 64 ≤ N

theorem inB_blk (f : Nat → Nat) (N : Nat) (s : St) : InB N (blk f N s) := by
  intro o l h
  simp only [blk] at h
  split at h
  · cases h
  · split at h
    · rename_i hok
      injection h with h
      injection h with h1 h2
      subst h1 h2
      exact hok.2
    · cases h
theorem inB_list (f : Nat → Nat) (N : Nat) (s : St) : ∀ k, ∀ b ∈ bList f N s k, InB N b
  | 0, b, h => by cases h
  | k + 1, b, h => by
    rcases List.mem_append.1 h with h | h
    · exact inB_list f N s k b h
    · rw [List.mem_singleton.1 h]
      exact inB_blk f N _
theorem inL_list (f : Nat → Nat) (N : Nat) (s : St) : ∀ k, InL N (cList f N s k)
  | 0 => fun e h => by cases h
  | k + 1 => fun e h p hp => by
    rcases List.mem_append.1 h with h | h
    · exact inL_list f N s k e h p hp
    · rw [List.mem_singleton.1 h] at hp
      simp only [cElem] at hp
      split at hp
      · rename_i hok
        injection hp with hp
        subst hp
        exact hok.2
      · cases hp
theorem inL_cert (f : Nat → Nat) (N : Nat) (s : St) : InL N (certOf f N s).l := inL_list f N _ _
theorem len_cert (f : Nat → Nat) (N : Nat) (s : St) : (certOf f N s).l.length ≤ 256 := by
  show (cList _ _ _ _).length ≤ 256
  rw [cList_length]
  exact cnt_le _ _ _ _
theorem inL_fList (f : Nat → Nat) (N : Nat) (s : St) : ∀ k, ∀ c ∈ fList f N s k, InL N c.l ∧ c.l.length ≤ 256
  | 0, b, h => by cases h
  | k + 1, b, h => by
    rcases List.mem_append.1 h with h | h
    · exact inL_fList f N s k b h
    · rw [List.mem_singleton.1 h]
      exact ⟨inL_cert f N _, len_cert f N _⟩

/-- Two slices of one place are the same bytes. -/
def Twin (T N : Nat) (f : Nat → Nat) (a1 : Option Addr) (m1 c1 : Nat) (a2 : Option Addr) (m2 c2 : Nat) : Prop :=
  ∀ W, Row W T N f → Calls Ybaf.prog 31 #[.slice a1 m1 c1, .slice a2 m2 c2] W fun e w' => e = .returned (.bool true) ∧ w' = W
theorem pay_twin (T N : Nat) (f : Nat → Nat) (b : PB) (c c' : Nat) (h : InB N b) : ∃ a1 m1 c1 a2 m2 c2, payV T b.pay c = .slice a1 m1 c1 ∧ payV T b.pay c' = .slice a2 m2 c2 ∧ Twin T N f a1 m1 c1 a2 m2 c2 := by
  cases hp : b.pay with
  | none => exact ⟨none, 0, 0, none, 0, 0, rfl, rfl, fun W _ => bbs_none W⟩
  | some x =>
    obtain ⟨o, l⟩ := x
    exact ⟨_, _, _, _, _, _, rfl, rfl, fun W hT => bbs_some T o l c c' N f W hT (h o l hp)⟩
theorem sig_twin (T N : Nat) (f : Nat → Nat) (cf cf' : Nat → Nat) (o : Option Nat) (h : ∀ p, o = some p → p + 64 ≤ N) : ∃ a1 m1 c1 a2 m2 c2, sigV T cf o = .slice a1 m1 c1 ∧ sigV T cf' o = .slice a2 m2 c2 ∧ Twin T N f a1 m1 c1 a2 m2 c2 := by
  cases hp : o with
  | none => exact ⟨none, 0, 0, none, 0, 0, rfl, rfl, fun W _ => bbs_none W⟩
  | some p => exact ⟨_, _, _, _, _, _, rfl, rfl, fun W hT => bbs_some T p 64 (cf p) (cf' p) N f W hT (h p hp)⟩

/-- A step of a region in the text's order. -/
theorem lop {ops : Array Oper} {Q : Exit → Act → World → Prop} {rest : List Oper} {o : Oper} {a : Act} {w : World} (hw : Region.wanted o (yielded ops a.tmps) = true)
    (h : o.wp Ybaf.prog a w (wpList Ybaf.prog ops Q rest) Q) : wpList Ybaf.prog ops Q (o :: rest) a w := by
  unfold wpList
  rw [if_pos hw]
  exact .inl h
theorem lval {ops : Array Oper} {Q : Exit → Act → World → Prop} {rest : List Oper} {o : Oper} {a : Act} {w w' : World} (v : Value) (hw : Region.wanted o (yielded ops a.tmps) = true)
    (hy : (execOp a.eval o).run Ybaf.prog w = .ok (.value v) w') (h : wpList Ybaf.prog ops Q rest (a.put o.dst v) w') : wpList Ybaf.prog ops Q (o :: rest) a w :=
  lop hw (wp_value hy h)

theorem elem139 : Ybaf.prog.underlying 139 = some (.slice (Ybaf.prog.elem 139)) := by kernel_rfl
theorem sz139 : ∀ w, (sizeOf (Ybaf.prog.elem 139)).run Ybaf.prog w = .ok 35 w := fun _ => by kernel_rfl
theorem exec_ix139 {o : Oper} {a : Act} {w : World} (x y : Operand) (ho : o.op = .indexAddr 139 x y) (g n gc j : Nat) (hx : a.eval x = .slice (some ⟨g, 0, none⟩) n gc) (hy : a.eval y = .int .i64 (j : Int)) (hj : j < n) : (execOp a.eval o).run Ybaf.prog w = .ok (.value (.pointer (some ⟨g, j * 35, none⟩))) w := by
  have h := run_indexAt_slice (P := Ybaf.prog) w 139 ⟨g, 0, none⟩ n gc .i64 (j : Int) elem139
  have h0 : (0 : Int) ≤ (j : Int) := by omega
  have h1 : (j : Int) < (n : Int) := by omega
  simp [execOp, ho, hx, hy, h, h0, h1, sz139 w, Addr.add_mid, Result.andThen]
theorem elem126 : Ybaf.prog.underlying 126 = some (.slice (Ybaf.prog.elem 126)) := by kernel_rfl
theorem sz126 : ∀ w, (sizeOf (Ybaf.prog.elem 126)).run Ybaf.prog w = .ok 35 w := fun _ => by kernel_rfl
theorem exec_ix126 {o : Oper} {a : Act} {w : World} (x y : Operand) (ho : o.op = .indexAddr 126 x y) (g n gc j : Nat) (hx : a.eval x = .slice (some ⟨g, 0, none⟩) n gc) (hy : a.eval y = .int .i64 (j : Int)) (hj : j < n) : (execOp a.eval o).run Ybaf.prog w = .ok (.value (.pointer (some ⟨g, j * 35, none⟩))) w := by
  have h := run_indexAt_slice (P := Ybaf.prog) w 126 ⟨g, 0, none⟩ n gc .i64 (j : Int) elem126
  have h0 : (0 : Int) ≤ (j : Int) := by omega
  have h1 : (j : Int) < (n : Int) := by omega
  simp [execOp, ho, hx, hy, h, h0, h1, sz126 w, Addr.add_mid, Result.andThen]
theorem wide147 : Wide 147 35 := ⟨fun _ => by kernel_rfl, fun _ => by kernel_rfl⟩
theorem wide148 : Wide 148 35 := ⟨fun _ => by kernel_rfl, fun _ => by kernel_rfl⟩
def zeroE : Array Value := (E35 0 (fun _ => 0) 0 (.slice none 0 0)).toArray
theorem exec_alloc147 {o : Oper} {a : Act} {w : World} (ho : o.op = .alloc 147) : (execOp a.eval o).run Ybaf.prog w = .ok (.value (.pointer (some ⟨w.heap.size, 0, none⟩))) (w.alloc (.cells zeroE 147)) := by
  cases o
  cases ho
  kernel_rfl
theorem exec_alloc148 {o : Oper} {a : Act} {w : World} (ho : o.op = .alloc 148) : (execOp a.eval o).run Ybaf.prog w = .ok (.value (.pointer (some ⟨w.heap.size, 0, none⟩))) (w.alloc (.cells zeroE 148)) := by
  cases o
  cases ho
  kernel_rfl
theorem zeroE_size : zeroE.size = 35 := by simp [zeroE, E35_length]
/-- The word's cells, its own variable. -/
theorem e35_cells {w : World} {b t : Nat} {v : Nat} {h : Nat → Nat} {sg : Nat} {sv : Value} (hb : w.heap[b]? = some (.cells (E35 v h sg sv).toArray t (0, 0))) :
    w.cell? ⟨b, 0, none⟩ = some (.int .u64 (v : Int)) ∧ w.rangeAt b 1 (vals h 32) ∧ w.cell? ⟨b, 33, none⟩ = some (.int .i64 (sg : Int)) ∧ w.cell? ⟨b, 34, none⟩ = some sv := by
  refine ⟨?_, fun j u hj => ?_, ?_, ?_⟩
  · rw [cell_of_row w b _ _ t (0, 0) hb]
    rfl
  · rw [cell_of_row w b _ _ t (0, 0) hb]
    have hjl : j < 32 := by have := (List.getElem?_eq_some_iff.1 hj).1; rwa [length_vals] at this
    simp only [E35, List.getElem?_toArray]
    rw [List.getElem?_append_left (by simp [length_vals]; omega), List.getElem?_append_right (by simp)]
    simpa using hj
  · rw [cell_of_row w b _ _ t (0, 0) hb]
    rfl
  · rw [cell_of_row w b _ _ t (0, 0) hb]
    rfl
/-- Where the j-th word lies. -/
theorem ecs_at (T : Nat) (cf : Nat → Nat) (v : Nat) (h : Nat → Nat) : ∀ (l : List (Nat × Option Nat)) (j : Nat) (e : Nat × Option Nat), l[j]? = some e → ∀ i u, (E35 v h e.1 (sigV T cf e.2))[i]? = some u → (ecs T cf v h l)[j * 35 + i]? = some u
  | [], j, e, he => by simp at he
  | a :: l, 0, e, he => fun i u hi => by
    obtain rfl : a = e := by simpa using he
    have hil := (List.getElem?_eq_some_iff.1 hi).1
    simp only [ecs, List.flatMap_cons, Nat.zero_mul, Nat.zero_add]
    rw [List.getElem?_append_left hil]
    exact hi
  | a :: l, j + 1, e, he => fun i u hi => by
    have h1 := ecs_at T cf v h l j e (by simpa using he) i u hi
    simp only [ecs, List.flatMap_cons]
    rw [List.getElem?_append_right (by rw [E35_length]; omega), E35_length, show (j + 1) * 35 + i - 35 = j * 35 + i by omega]
    exact h1
theorem cert_word {w : World} {tE B n gc T : Nat} {cf : Nat → Nat} {v : Nat} {h : Nat → Nat} {l : List (Nat × Option Nat)} {g : Nat} (hr : w.ownsRow B tE 35 (.slice (some ⟨g, 0, none⟩) n gc) n (ecs T cf v h l)) {j : Nat} {e : Nat × Option Nat} (he : l[j]? = some e) : w.rangeAt g (j * 35) (E35 v h e.1 (sigV T cf e.2)) := fun i u hi => by
  have h1 := hr.cells (g := g) rfl _ u (ecs_at T cf v h l j e he i u hi)
  rwa [Addr.add_mid, Nat.zero_add] at h1
end Go.Proofs.YbulkdlruFmt
