/-
  Certificates: notions, and the laws of a region in whatever order.
-/
import Derived.Test.YbulkdlruFmtF
import Derived.Deep.MidRow
namespace Go.Proofs.YbulkdlruFmt
open Go.RowKit Go.Shelf
set_option linter.unusedVariables false
set_option linter.unusedSimpArgs false

/-- Of the blocks below B, but for those listed, nothing has turned. -/
structure Kp (B : Nat) (ex : List Nat) (w w' : World) : Prop where
  os : w'.os = w.os
  tape : w'.tape = w.tape
  output : w'.output = w.output
  size : w.heap.size ≤ w'.heap.size
  block : ∀ k, k < B → k ∉ ex → w'.heap[k]? = w.heap[k]?
theorem Kp.trans {B : Nat} {ex : List Nat} {a b c : World} (h : Kp B ex a b) (k : Kp B ex b c) : Kp B ex a c :=
  ⟨k.os.trans h.os, k.tape.trans h.tape, k.output.trans h.output, Nat.le_trans h.size k.size, fun i hi hx => (k.block i hi hx).trans (h.block i hi hx)⟩
theorem Kp.more {B : Nat} {ex ex' : List Nat} {a b : World} (h : Kp B ex a b) (hx : ∀ k ∈ ex, k ∈ ex') : Kp B ex' a b := ⟨h.os, h.tape, h.output, h.size, fun k hk hn => h.block k hk (fun hm => hn (hx k hm))⟩
theorem Same.kp {ex : List Nat} {w w' : World} {B : Nat} (h : Same ex w w') (hB : B ≤ w.heap.size) : Kp B ex w w' := ⟨h.os, h.tape, h.output, h.size, fun k hk hx => h.block k (by omega) hx⟩
theorem Kp.same {B : Nat} {ex ex' : List Nat} {w w' : World} (h : Kp B ex w w') (hB : w.heap.size ≤ B) (hx : ∀ k ∈ ex, k ∈ ex' ∨ w.heap.size ≤ k) : Same ex' w w' :=
  ⟨h.os, h.tape, h.output, h.size, fun k hk hn => h.block k (by omega) (fun hm => by rcases hx k hm with h1 | h1; exact hn h1; omega)⟩
theorem Kp.refl (B : Nat) (ex : List Nat) (w : World) : Kp B ex w w := ⟨rfl, rfl, rfl, Nat.le_refl _, fun _ _ _ => rfl⟩
theorem Rd.kp {I T N cap B : Nat} {ee : Addr} {s : St} {ex : List Nat} {w w' : World} (h : Rd I T N cap ee s w) (hs : Kp B ex w w') (hB : I < B) (hI : I ∉ ex) (he : Errs w w') : Rd I T N cap ee s w' := by
  obtain ⟨rv, ev, h1, h2⟩ := h
  exact ⟨rv, ev, (hs.block I hB hI).trans h1, h2.errs he⟩
theorem Env.kp {T N cap B : Nat} {f : Nat → Nat} {ee : Addr} {ex : List Nat} {w w' : World} (h : Env T N cap f ee w) (hs : Kp B ex w w') (hTB : T < B) (hT : T ∉ ex) (h0 : 0 ∉ ex) : Env T N cap f ee w' :=
  ⟨h.row.block (hs.block T hTB hT), (World.cell?_of_block (w := w) (hs.block 0 (by omega) h0)).trans h.g0, Nat.lt_of_lt_of_le h.lt hs.size, h.hf, h.hN, h.hN2⟩

theorem step_of_wp {ops : Array Oper} {o : Oper} {a : Act} {w : World} {K : Act → World → Prop} {Q : Exit → Act → World → Prop} {E : Prop} (hgd : o.guard = none) (h : Oper.wp Ybaf.prog o a w K Q) : if Region.wanted o (yielded ops a.tmps) = true then Oper.wp Ybaf.prog o a w K Q else E := by
  have hw : Region.wanted o (yielded ops a.tmps) = true := by simp [Region.wanted, hgd]
  rw [if_pos hw]
  exact h
theorem wp_load_wide {t k : Nat} (ht : Wide t k) {w : World} {o : Oper} {a : Act} {K : Act → World → Prop} {Q : Exit → Act → World → Prop} (x : Operand) (ho : o.op = .load t x) (ad : Addr) (hx : a.eval x = .pointer (some ad))
    (cs : List Value) (hl : cs.length = k) (hc : ∀ j v, cs[j]? = some v → w.cell? (ad.add j) = some v) (h : K (a.put o.dst (.agg cs.toArray)) w) : Oper.wp Ybaf.prog o a w K Q := by
  refine wp_value (v := .agg cs.toArray) (w' := w) ?_ h
  have := run_load_wide ht w ad cs hl hc
  simp [execOp, ho, hx, Instr.loadAt, Instr.sureAddr, this, Result.andThen]

/-- One signed word's cells. -/
def E35 (v : Nat) (h : Nat → Nat) (sg : Nat) (sv : Value) : List Value := [.int .u64 (v : Int)] ++ vals h 32 ++ [.int .i64 (sg : Int), sv]
theorem E35_length (v : Nat) (h : Nat → Nat) (sg : Nat) (sv : Value) : (E35 v h sg sv).length = 35 := by simp [E35, length_vals]
/-- A certificate's cells. -/
def C34 (v : Nat) (h : Nat → Nat) (sl : Value) : Array Value := ([Value.int .u64 (v : Int)] ++ vals h 32 ++ [sl]).toArray
/-- A signature: where it begins. -/
def sigV (T : Nat) (cf : Nat → Nat) (o : Option Nat) : Value :=
  match o with
  | none => .slice none 0 0
  | some p => .slice (some ⟨T, p, none⟩) 64 (cf p)
/-- The words' cells. -/
def ecs (T : Nat) (cf : Nat → Nat) (v : Nat) (h : Nat → Nat) (l : List (Nat × Option Nat)) : List Value := l.flatMap fun e => E35 v h e.1 (sigV T cf e.2)
theorem ecs_snoc (T : Nat) (cf : Nat → Nat) (v : Nat) (h : Nat → Nat) (l : List (Nat × Option Nat)) (e : Nat × Option Nat) : ecs T cf v h (l ++ [e]) = ecs T cf v h l ++ E35 v h e.1 (sigV T cf e.2) := by simp [ecs]
theorem E35_one (v : Nat) (h : Nat → Nat) (sg T : Nat) (cf : Nat → Nat) (o : Option Nat) : ∀ u ∈ E35 v h sg (sigV T cf o), u.oneCell' = true := by
  intro u hu
  simp only [E35, List.mem_append, List.mem_cons, List.not_mem_nil, or_false] at hu
  rcases hu with (rfl | hu) | rfl | rfl
  · rfl
  · exact vals_one h 32 u hu
  · rfl
  · cases o <;> rfl
theorem sigV_slice (T : Nat) (cf : Nat → Nat) (o : Option Nat) : ∃ a m k, sigV T cf o = .slice a m k := by
  cases o
  · exact ⟨_, _, _, rfl⟩
  · exact ⟨_, _, _, rfl⟩
theorem c34_cells {w : World} {b t : Nat} {v : Nat} {h : Nat → Nat} {sl : Value} (hb : w.heap[b]? = some (.cells (C34 v h sl) t (0, 0))) :
    w.cell? ⟨b, 0, none⟩ = some (.int .u64 (v : Int)) ∧ (∀ j u, (vals h 32)[j]? = some u → w.cell? ((⟨b, 1, none⟩ : Addr).add j) = some u) ∧ w.cell? ⟨b, 33, none⟩ = some sl ∧ ∀ j, w.frozen? ⟨b, j, none⟩ = false := by
  refine ⟨?_, fun j u hj => ?_, ?_, fun j => frozen_of_row w b j _ t hb⟩
  · rw [cell_of_row w b _ _ t (0, 0) hb]
    rfl
  · rw [show (⟨b, 1, none⟩ : Addr).add j = ⟨b, 1 + j, none⟩ by unfold Addr.add; split <;> simp_all, cell_of_row w b _ _ t (0, 0) hb]
    have hjl : j < 32 := by have := (List.getElem?_eq_some_iff.1 hj).1; rwa [length_vals] at this
    simp only [C34, List.getElem?_toArray]
    rw [List.getElem?_append_left (by simp [length_vals]; omega), List.getElem?_append_right (by simp)]
    simpa using hj
  · rw [cell_of_row w b _ _ t (0, 0) hb]
    rfl
theorem c34_set {w : World} {b t : Nat} {v : Nat} {h : Nat → Nat} {sl sl' : Value} (hb : w.heap[b]? = some (.cells (C34 v h sl) t (0, 0))) : (w.setCell ⟨b, 33, none⟩ sl').heap[b]? = some (.cells (C34 v h sl') t (0, 0)) := by
  rw [heap_setCell_same w b 33 _ t _ hb]
  rfl

theorem range_of {w : World} {b o : Nat} {cs : List Value} (h : ∀ j u, cs[j]? = some u → w.cell? ((⟨b, o, none⟩ : Addr).add j) = some u) : w.rangeAt b o cs := fun j u hj => by
  have := h j u hj
  rwa [Addr.add_mid] at this
/-- A certificate in memory: its struct's type, its element's, the base above which its words lie. -/
def CertAt (w : World) (tS tE B T : Nat) (cf : Nat → Nat) (b : Nat) (v : Nat) (h : Nat → Nat) (l : List (Nat × Option Nat)) : Prop :=
  ∃ ga gc, w.heap[b]? = some (.cells (C34 v h (.slice ga l.length gc)) tS (0, 0)) ∧ w.ownsRow B tE 35 (.slice ga l.length gc) l.length (ecs T cf v h l)

theorem new_cells (w : World) (cs : List Value) (t : TypeId) : ∀ j u, cs[j]? = some u → (w.alloc (.cells cs.toArray t)).cell? ((⟨w.heap.size, 0, none⟩ : Addr).add j) = some u := by
  intro j u hj
  rw [show (⟨w.heap.size, 0, none⟩ : Addr).add j = ⟨w.heap.size, j, none⟩ by unfold Addr.add; split <;> simp_all, cell_of_row _ _ _ _ t (0, 0) (heap_alloc_new w _)]
  simpa using hj
theorem own_slice {w : World} {B e k n : Nat} {v : Value} {xs : List Value} (h : w.ownsRow B e k v (n + 1) xs) : ∃ ga gc, v = .slice ga (n + 1) gc := by
  rcases h.2 with ⟨_, h0⟩ | ⟨g, c, cur, hv, _⟩
  · omega
  · exact ⟨_, _, hv⟩
theorem grown_kp {w0 w w' : World} {B e k n gc : Nat} {ga : Option Addr} {xs : List Value} (h : w0.ownsRow B e k (.slice ga n gc) n xs) (hg : w.grownBy w' (Value.ownBlock (.slice ga n gc))) (hB : B ≤ w.heap.size) : Kp B [] w w' := by
  obtain ⟨h1, h2, h3, h4, h5⟩ := hg
  refine ⟨h1, h2, h3, h4, fun j hj _ => h5 j (by omega) ?_⟩
  rcases h.2 with ⟨hv, _⟩ | ⟨g, c, cur, hv, hb, _⟩
  · cases hv
    simp [Value.ownBlock]
  · cases hv
    simp [Value.ownBlock]
    omega
theorem grown_errs {w w' : World} {B e k n gc : Nat} {ga : Option Addr} {xs : List Value} (h : w.ownsRow B e k (.slice ga n gc) n xs) (he : 120 ≠ e) (hg : w.grownBy w' (Value.ownBlock (.slice ga n gc))) : Errs w w' := by
  obtain ⟨h1, h2, h3, h4, h5⟩ := hg
  intro j c hj
  rw [h5 j (Array.getElem?_eq_some_iff.1 hj).1 ?_]
  · exact hj
  rcases h.2 with ⟨hv, _⟩ | ⟨g, c', cur, hv, _, hg, _⟩
  · cases hv
    simp [Value.ownBlock]
  · cases hv
    simp only [Value.ownBlock, ne_eq, Option.some.injEq]
    rintro rfl
    rw [hj] at hg
    injection hg with hg
    injection hg with _ h2 _
    exact he h2
/-- An append to an owned row as a step. -/
theorem wp_append_own {w : World} {o : Oper} {a : Act} {K : Act → World → Prop} {Q : Exit → Act → World → Prop} (s x : Operand) (t : TypeId) (ho : o.op = .call { callee := .builtin .append, args := #[s, x], argTypes := #[t, t] })
    (base : Nat) (e : TypeId) (i : TypeInfo) (z : Value) (size bytes : Nat) (ht : Ybaf.prog.underlying t = some (.slice e)) (hi : Ybaf.prog.info? e = some i) (hz : i.zero = some z)
    (hsize : i.size = size) (hby : i.bytes = bytes) (hzs : z.cells.size = size) (hsz : 0 < size)
    (v : Value) (n : Nat) (xs : List Value) (hs : a.eval s = v) (hown : w.ownsRow base e size v n xs)
    (ad : Addr) (m c : Nat) (news : List Value) (hx : a.eval x = .slice (some ad) m c) (hl : news.length = m * size) (hnews : ∀ j u, news[j]? = some u → w.cell? (ad.add j) = some u) (h1 : ∀ u ∈ news, u.oneCell' = true)
    (h63 : n + m ≤ maxLen) (hbytes : (n + m) * bytes ≤ 140737488355328) (hbase : base ≤ w.heap.size)
    (h : ∀ v' w', w'.ownsRow base e size v' (n + m) (xs ++ news) → w.grownBy w' v.ownBlock → (v' = .slice none 0 0 ↔ v = .slice none 0 0 ∧ m = 0) → K (a.put o.dst v') w') : Oper.wp Ybaf.prog o a w K Q := by
  obtain ⟨v', w', hr, h2, h3, h4⟩ := run_append_own (P := Ybaf.prog) w base t o.type e i z size bytes ht hi hz hsize hby hzs hsz v n xs hown ad m c news hl hnews h1 h63 hbytes hbase
  unfold Oper.wp execOp
  simp only [ho, resolve, invoke, builtin, Sem.run_bind, Sem.run_pure, Result.andThen_ok, List.map_toArray, List.map_cons, List.map_nil, hs, hx, hr]
  exact h v' w' h2 h3 h4

/-- The operations of the region that a piece of code begins with. -/
def firstOps : Code → Array Oper
  | .region _ ops _ => ops
  | .seq a _ => firstOps a
  | .block _ c => firstOps c
  | .scope c => firstOps c
  | _ => #[]
theorem exec_load1 {t : TypeId} (ht : ∀ w, (isAgg t).run Ybaf.prog w = .ok false w) {o : Oper} {a : Act} {w : World} (x : Operand) (ho : o.op = .load t x) (ad : Addr) (hx : a.eval x = .pointer (some ad)) {v : Value} (hc : w.cell? ad = some v) : (execOp a.eval o).run Ybaf.prog w = .ok (.value v) w := by
  have h1 : (loadVar t ad).run Ybaf.prog w = .ok v w := by
    simp [loadVar, Sem.run_bind, ht, Result.andThen, load, Sem.run, hc]
  simp [execOp, ho, hx, Instr.loadAt, Instr.sureAddr, h1, Result.andThen]
theorem exec_loadW {t k : Nat} (ht : Wide t k) {o : Oper} {a : Act} {w : World} (x : Operand) (ho : o.op = .load t x) (b off : Nat) (hx : a.eval x = .pointer (some ⟨b, off, none⟩)) (cs : List Value) (hl : cs.length = k) (hc : w.rangeAt b off cs) : (execOp a.eval o).run Ybaf.prog w = .ok (.value (.agg cs.toArray)) w := by
  have h1 := run_load_wide ht w ⟨b, off, none⟩ cs hl (fun j v hj => by rw [Addr.add_mid]; exact hc j v hj)
  simp [execOp, ho, hx, Instr.loadAt, Instr.sureAddr, h1, Result.andThen]
theorem exec_store1 {t : TypeId} {o : Oper} {a : Act} {w : World} (x y : Operand) (ho : o.op = .store t x y) (b off : Nat) (hx : a.eval x = .pointer (some ⟨b, off, none⟩)) (ga : Option Addr) (n c : Nat) (hy : a.eval y = .slice ga n c) (hsz : ∀ w, (sizeOf t).run Ybaf.prog w = .ok 1 w) {u : Value} (hc : w.cell? ⟨b, off, none⟩ = some u) (hf : w.frozen? ⟨b, off, none⟩ = false) : (execOp a.eval o).run Ybaf.prog w = .ok .skip (w.setCell ⟨b, off, none⟩ (.slice ga n c)) := by
  have h2 : (storeVar t ⟨b, off, none⟩ (.slice ga n c)).run Ybaf.prog w = .ok () (w.setCell ⟨b, off, none⟩ (.slice ga n c)) := by
    simp [storeVar, Sem.run_bind, hsz, Value.cells, storeCells, store, Sem.run, Addr.add_mid, hc, hf, Result.andThen]
  simp [execOp, ho, hx, hy, Instr.storeAt, Instr.sureAddr, h2, Result.andThen]
theorem wpOp_of {ops : Array Oper} {Q : Exit → Act → World → Prop} {i : Nat} {o : Oper} {K : Act → World → Prop} {a : Act} {w : World} (hi : ops[i]? = some o) (hg : o.guard = none) (h : o.wp Ybaf.prog a w K Q) : wpOp Ybaf.prog ops Q i K a w := by
  unfold wpOp
  simp only [hi]
  have hw : Region.wanted o (yielded ops a.tmps) = true := by simp [Region.wanted, hg]
  rw [if_pos hw]
  exact .inl h
theorem take_op {ops : Array Oper} {Q : Exit → Act → World → Prop} {S : World → Prop} (i : Nat) {oi : Oper} (v : Value) {fuel : Nat} {listed : Array Bool} {a : Act} {w : World} (hi : ops[i]? = some oi) (hg : oi.guard = none)
    (hs : Region.noSelect ops = true) (hf : Region.free .any ops listed i = true) (hr : (Region.ready .any ops listed).contains i = true)
    (hQ : ∀ c a w, Q (.panic c) (a.put oi.dst v) w → Q (.panic c) a w) (hy : ∀ w, S w → (execOp a.eval oi).run Ybaf.prog w = .ok (.value v) w) (hS : S w)
    (h : wpAnyH Ybaf.prog .any ops Q S fuel (listed.setIfInBounds i true) (a.put oi.dst v) w) : wpAnyH Ybaf.prog .any ops Q S (fuel + 1) listed a w :=
  wpAnyH_take hi hs hf hr hQ (.inl ⟨by simp [Region.wanted, hg], hy⟩) hS h
theorem one_op {ops : Array Oper} {Q : Exit → Act → World → Prop} {S : World → Prop} (i : Nat) {oi : Oper} {fuel : Nat} {listed : Array Bool} {a : Act} {w : World} (hr : Region.ready .any ops listed = [i]) (hi : ops[i]? = some oi) (hg : oi.guard = none)
    (h : oi.wp Ybaf.prog a w (fun a' w' => S w' ∧ wpAnyH Ybaf.prog .any ops Q S fuel (listed.setIfInBounds i true) a' w') Q) : wpAnyH Ybaf.prog .any ops Q S (fuel + 1) listed a w :=
  wpAnyH_all hr (by simp) (fun j hj => by
    obtain rfl : j = i := by simpa using hj
    exact wpOp_of hi hg h)
theorem two_ops {ops : Array Oper} {Q : Exit → Act → World → Prop} {S : World → Prop} (i j : Nat) {oi oj : Oper} {fuel : Nat} {listed : Array Bool} {a : Act} {w : World} (hr : Region.ready .any ops listed = [i, j]) (hi : ops[i]? = some oi) (hgi : oi.guard = none) (hj : ops[j]? = some oj) (hgj : oj.guard = none)
    (h1 : oi.wp Ybaf.prog a w (fun a' w' => S w' ∧ wpAnyH Ybaf.prog .any ops Q S fuel (listed.setIfInBounds i true) a' w') Q)
    (h2 : oj.wp Ybaf.prog a w (fun a' w' => S w' ∧ wpAnyH Ybaf.prog .any ops Q S fuel (listed.setIfInBounds j true) a' w') Q) : wpAnyH Ybaf.prog .any ops Q S (fuel + 1) listed a w :=
  wpAnyH_all hr (by simp) (fun k hk => by
    rcases (show k = i ∨ k = j by simpa using hk) with rfl | rfl
    · exact wpOp_of hi hgi h1
    · exact wpOp_of hj hgj h2)

theorem info147 : (Ybaf.prog.info? 147).map (fun i => (i.zero.map (fun z => z.cells.size), i.size, i.bytes)) = some (some 35, 35, 72) := by kernel_rfl
theorem run_build147 (v : Nat) (h : Nat → Nat) (sg : Nat) (a : Option Addr) (m k : Nat) (w : World) : (Instr.build 147 #[(0, .int .u64 (v : Int)), (1, .agg (vals h 32).toArray), (2, .int .i64 (sg : Int)), (3, .slice a m k)]).run Ybaf.prog w = .ok (.agg (E35 v h sg (.slice a m k)).toArray) w := by kernel_rfl
theorem run_bslice147 (v : Nat) (h : Nat → Nat) (sg : Nat) (a : Option Addr) (m k : Nat) (w : World) : (Instr.buildSlice 139 1 #[(0, .agg (E35 v h sg (.slice a m k)).toArray)]).run Ybaf.prog w = .ok (.slice (some ⟨w.heap.size, 0, none⟩) 1 1) (w.alloc (.cells (E35 v h sg (.slice a m k)).toArray 147)) := by kernel_rfl
theorem exec_build147 {w : World} {o : Oper} {a : Act} (x y z u : Operand) (ho : o.op = .build 147 #[(0, x), (1, y), (2, z), (3, u)]) (v : Nat) (h : Nat → Nat) (sg : Nat) (sa : Option Addr) (m k : Nat)
    (hx : a.eval x = .int .u64 (v : Int)) (hy : a.eval y = .agg (vals h 32).toArray) (hz : a.eval z = .int .i64 (sg : Int)) (hu : a.eval u = .slice sa m k) : (execOp a.eval o).run Ybaf.prog w = .ok (.value (.agg (E35 v h sg (.slice sa m k)).toArray)) w := by
  have := run_build147 v h sg sa m k w
  simp [execOp, ho, hx, hy, hz, hu, this, Result.andThen]
theorem wp_bslice147 {w : World} {o : Oper} {a : Act} {K : Act → World → Prop} {Q : Exit → Act → World → Prop} (x : Operand) (ho : o.op = .buildSlice 139 1 #[(0, x)]) (v : Nat) (h : Nat → Nat) (sg : Nat) (sa : Option Addr) (m k : Nat)
    (hx : a.eval x = .agg (E35 v h sg (.slice sa m k)).toArray) (hk : K (a.put o.dst (.slice (some ⟨w.heap.size, 0, none⟩) 1 1)) (w.alloc (.cells (E35 v h sg (.slice sa m k)).toArray 147))) : Oper.wp Ybaf.prog o a w K Q := by
  refine wp_value (v := .slice (some ⟨w.heap.size, 0, none⟩) 1 1) (w' := w.alloc (.cells (E35 v h sg (.slice sa m k)).toArray 147)) ?_ hk
  have := run_bslice147 v h sg sa m k w
  simp [execOp, ho, hx, this, Result.andThen]

theorem info148 : (Ybaf.prog.info? 148).map (fun i => (i.zero.map (fun z => z.cells.size), i.size, i.bytes)) = some (some 35, 35, 72) := by kernel_rfl
theorem run_build148 (v : Nat) (h : Nat → Nat) (sg : Nat) (a : Option Addr) (m k : Nat) (w : World) : (Instr.build 148 #[(0, .int .u64 (v : Int)), (1, .agg (vals h 32).toArray), (2, .int .i64 (sg : Int)), (3, .slice a m k)]).run Ybaf.prog w = .ok (.agg (E35 v h sg (.slice a m k)).toArray) w := by kernel_rfl
theorem run_bslice148 (v : Nat) (h : Nat → Nat) (sg : Nat) (a : Option Addr) (m k : Nat) (w : World) : (Instr.buildSlice 126 1 #[(0, .agg (E35 v h sg (.slice a m k)).toArray)]).run Ybaf.prog w = .ok (.slice (some ⟨w.heap.size, 0, none⟩) 1 1) (w.alloc (.cells (E35 v h sg (.slice a m k)).toArray 148)) := by kernel_rfl
theorem exec_build148 {w : World} {o : Oper} {a : Act} (x y z u : Operand) (ho : o.op = .build 148 #[(0, x), (1, y), (2, z), (3, u)]) (v : Nat) (h : Nat → Nat) (sg : Nat) (sa : Option Addr) (m k : Nat)
    (hx : a.eval x = .int .u64 (v : Int)) (hy : a.eval y = .agg (vals h 32).toArray) (hz : a.eval z = .int .i64 (sg : Int)) (hu : a.eval u = .slice sa m k) : (execOp a.eval o).run Ybaf.prog w = .ok (.value (.agg (E35 v h sg (.slice sa m k)).toArray)) w := by
  have := run_build148 v h sg sa m k w
  simp [execOp, ho, hx, hy, hz, hu, this, Result.andThen]
theorem wp_bslice148 {w : World} {o : Oper} {a : Act} {K : Act → World → Prop} {Q : Exit → Act → World → Prop} (x : Operand) (ho : o.op = .buildSlice 126 1 #[(0, x)]) (v : Nat) (h : Nat → Nat) (sg : Nat) (sa : Option Addr) (m k : Nat)
    (hx : a.eval x = .agg (E35 v h sg (.slice sa m k)).toArray) (hk : K (a.put o.dst (.slice (some ⟨w.heap.size, 0, none⟩) 1 1)) (w.alloc (.cells (E35 v h sg (.slice sa m k)).toArray 148))) : Oper.wp Ybaf.prog o a w K Q := by
  refine wp_value (v := .slice (some ⟨w.heap.size, 0, none⟩) 1 1) (w' := w.alloc (.cells (E35 v h sg (.slice sa m k)).toArray 148)) ?_ hk
  have := run_bslice148 v h sg sa m k w
  simp [execOp, ho, hx, this, Result.andThen]
end Go.Proofs.YbulkdlruFmt
