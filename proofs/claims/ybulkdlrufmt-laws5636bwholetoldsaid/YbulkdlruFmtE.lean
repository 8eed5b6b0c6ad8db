/-
  Values of many cells: loads, stores; the reader's hash.
-/
import Derived.Test.YbulkdlruFmtD
namespace Go.Proofs.YbulkdlruFmt
open Go.RowKit Go.Shelf
set_option linter.unusedVariables false
set_option linter.unusedSimpArgs false

theorem wp_value {o : Oper} {a : Act} {w w' : World} {K : Act → World → Prop} {Q : Exit → Act → World → Prop} {v : Value} (h : (execOp a.eval o).run Ybaf.prog w = .ok (.value v) w') (k : K (a.put o.dst v) w') : Oper.wp Ybaf.prog o a w K Q := by
  unfold Oper.wp
  rw [h]
  exact k
theorem wp_skip {o : Oper} {a : Act} {w w' : World} {K : Act → World → Prop} {Q : Exit → Act → World → Prop} (h : (execOp a.eval o).run Ybaf.prog w = .ok .skip w') (k : K (a.put o.dst undef) w') : Oper.wp Ybaf.prog o a w K Q := by
  unfold Oper.wp
  rw [h]
  exact k

/-- A type of k cells. -/
structure Wide (t k : Nat) : Prop where
  agg : ∀ w, (isAgg t).run Ybaf.prog w = .ok true w
  size : ∀ w, (sizeOf t).run Ybaf.prog w = .ok k w
theorem wide60 : Wide 60 32 := ⟨fun _ => by kernel_rfl, fun _ => by kernel_rfl⟩

theorem run_load_wide {t k : Nat} (ht : Wide t k) (w : World) (ad : Addr) (cs : List Value) (hl : cs.length = k) (hc : ∀ j v, cs[j]? = some v → w.cell? (ad.add j) = some v) : (loadVar t ad).run Ybaf.prog w = .ok (.agg cs.toArray) w := by
  have h1 := run_loadCells_list (P := Ybaf.prog) w ad cs hc
  rw [hl] at h1
  simp [loadVar, Sem.run_bind, ht.agg, ht.size, h1, Result.andThen]
theorem run_store_wide {t k : Nat} (ht : Wide t k) (w : World) (g o : Nat) (cs : List Value) (hl : cs.length = k) (cur : Array Value) (ty : TypeId) (hg : w.heap[g]? = some (.cells cur ty (0, 0))) (hfit : o + k ≤ cur.size) (h1 : ∀ v ∈ cs, v.oneCell' = true) :
    (storeVar t ⟨g, o, none⟩ (.agg cs.toArray)).run Ybaf.prog w = .ok () (w.setRow g (cur.toList.take o ++ cs ++ cur.toList.drop (o + k)).toArray) := by
  have h2 := run_storeCells_at Ybaf.prog g o ty cs 0 cur w hg (by omega) h1
  rw [hl] at h2
  simp only [Nat.add_zero] at h2
  simp [storeVar, Sem.run_bind, ht.size, Value.cells, hl, h2, Result.andThen]

/-- 'x' of many cells is read. -/
theorem wpList_load_wide {t k : Nat} (ht : Wide t k) {w : World} {ops : Array Oper} {rest : List Oper} {o : Oper} {a : Act} {Q : Exit → Act → World → Prop} (hgd : o.guard = none) (x : Operand) (ho : o.op = .load t x) (ad : Addr) (hx : a.eval x = .pointer (some ad))
    (cs : List Value) (hl : cs.length = k) (hc : ∀ j v, cs[j]? = some v → w.cell? (ad.add j) = some v) (h : wpList Ybaf.prog ops Q rest (a.put o.dst (.agg cs.toArray)) w) : wpList Ybaf.prog ops Q (o :: rest) a w := by
  refine wpList_plain hgd fun K hK => wp_value (v := .agg cs.toArray) (w' := w) ?_ (hK _ _ h)
  have := run_load_wide ht w ad cs hl hc
  simp [execOp, ho, hx, Instr.loadAt, Instr.sureAddr, this, Result.andThen]
/-- 'x' of many cells is written. -/
theorem wpList_store_wide {t k : Nat} (ht : Wide t k) {w : World} {ops : Array Oper} {rest : List Oper} {o : Oper} {a : Act} {Q : Exit → Act → World → Prop} (hgd : o.guard = none) (x y : Operand) (ho : o.op = .store t x y) (hd : o.dst = none) (g off : Nat) (hx : a.eval x = .pointer (some ⟨g, off, none⟩))
    (cs : List Value) (hy : a.eval y = .agg cs.toArray) (hl : cs.length = k) (cur : Array Value) (ty : TypeId) (hg : w.heap[g]? = some (.cells cur ty (0, 0))) (hfit : off + k ≤ cur.size) (h1 : ∀ v ∈ cs, v.oneCell' = true)
    (h : wpList Ybaf.prog ops Q rest a (w.setRow g (cur.toList.take off ++ cs ++ cur.toList.drop (off + k)).toArray)) : wpList Ybaf.prog ops Q (o :: rest) a w := by
  refine wpList_plain hgd fun K hK => wp_skip ?_ (hK _ _ (by rw [hd]; exact h))
  have := run_store_wide ht w g off cs hl cur ty hg hfit h1
  simp [execOp, ho, hx, hy, Instr.storeAt, Instr.sureAddr, this, Result.andThen]

/-- 32 bytes, as cells. -/
def H32 (h : Nat → Nat) : Array Value := (vals h 32).toArray
theorem H32_size (h : Nat → Nat) : (H32 h).size = 32 := by simp [H32, length_vals]
theorem zero32 : (#[.int .u8 0, .int .u8 0, .int .u8 0, .int .u8 0, .int .u8 0, .int .u8 0, .int .u8 0, .int .u8 0, .int .u8 0, .int .u8 0, .int .u8 0, .int .u8 0, .int .u8 0, .int .u8 0, .int .u8 0, .int .u8 0, .int .u8 0, .int .u8 0, .int .u8 0, .int .u8 0, .int .u8 0, .int .u8 0, .int .u8 0, .int .u8 0, .int .u8 0, .int .u8 0, .int .u8 0, .int .u8 0, .int .u8 0, .int .u8 0, .int .u8 0, .int .u8 0] : Array Value) = H32 (fun _ => 0) := rfl
/-- A block that holds an array of 32 bytes. -/
def HashAt (w : World) (g : Nat) (h : Nat → Nat) : Prop := w.heap[g]? = some (.cells (H32 h) 60 (0, 0))
theorem HashAt.cells {w : World} {g : Nat} {h : Nat → Nat} (hh : HashAt w g h) : ∀ j v, (vals h 32)[j]? = some v → w.cell? ((⟨g, 0, none⟩ : Addr).add j) = some v := by
  intro j v hj
  rw [show (⟨g, 0, none⟩ : Addr).add j = ⟨g, j, none⟩ by unfold Addr.add; split <;> simp_all, cell_of_row w g j _ 60 (0, 0) hh]
  simpa [H32] using hj

/-- 'copy(h[:], x)', x 32 bytes or none. -/
theorem run_copy_hash (w : World) (sp : Option Addr) (m g : Nat) (h0 fT : Nat → Nat)
    (hop : HashAt w g h0) (hm : m = 32 ∨ m = 0) (hsrc : Bytes w sp m fT) :
    ∃ w', (Builtin.copy_ #[33, 33] 3 #[.slice (some ⟨g, 0, none⟩) 32 32, .slice sp m m]).run Ybaf.prog w = .ok (goInt m) w' ∧ HashAt w' g (if m = 0 then h0 else fT) ∧ Same [g] w w' := by
  rcases hm with rfl | rfl
  · rcases hsrc with hz | ⟨b, o', rfl, hcc⟩
    · omega
    · have hrun := run_copy_row (P := Ybaf.prog) w 33 33 3 5 g 0 32 32 ⟨b, o', none⟩ 32 32 (H32 h0) 60 (vals fT 32) Ybaf.underlying33 (by kernel_rfl) hop (by rw [length_vals]; rfl)
        (fun j v hj => by
          have hjm : j < 32 := by
            have := (List.getElem?_eq_some_iff.1 hj).1
            rwa [length_vals] at this
          rw [vals_at fT 32 j hjm] at hj
          rw [show (⟨b, o', none⟩ : Addr).add j = ⟨b, o' + j, none⟩ by unfold Addr.add; split <;> simp_all]
          exact (hcc j hjm).trans hj) (by rw [length_vals, H32_size]; omega) (vals_one fT 32)
      have e1 : ((H32 h0).toList.take 0 ++ vals fT 32 ++ (H32 h0).toList.drop (0 + (vals fT 32).length)).toArray = H32 fT := by
        rw [length_vals]
        simp [H32, List.drop_eq_nil_of_le, length_vals]
      rw [e1, length_vals] at hrun
      exact ⟨_, hrun, setRow_heap w g _ _ 60 _ hop, ⟨rfl, rfl, rfl, by simp [World.setRow], fun k _ hk => setRow_other w g k _ (fun e => hk (by simp [e]))⟩⟩
  · have hrun := run_copy_none (P := Ybaf.prog) w 33 33 3 5 (some ⟨g, 0, none⟩) sp 32 32 0 0 Ybaf.underlying33 (by kernel_rfl) (by simp)
    exact ⟨w, hrun, hop, Same.refl _ _⟩
theorem same_setRow (w : World) (g : Nat) (cs : Array Value) : Same [g] w (w.setRow g cs) := ⟨rfl, rfl, rfl, by simp [World.setRow], fun k _ hk => setRow_other w g k _ (fun e => hk (by simp [e]))⟩

/-- The hash read. -/
def hsh (f : Nat → Nat) (N : Nat) (s : St) : Nat → Nat := if Ok N 32 s then fun i => f (s.p + i) else fun _ => 0

/-- A result of 32 bytes, in a variable. -/
theorem results_hash {fn : Func} {p : Tmp} (h : fn.results = #[.cell p 60]) (tmps : Array Value) (w : World) (g : Nat) (hh : Nat → Nat) (hp : tmps[p]?.getD undef = .pointer (some ⟨g, 0, none⟩)) (hg : HashAt w g hh) :
    (results fn tmps).run Ybaf.prog w = .ok (.agg (H32 hh)) w := by
  have := run_load_wide wide60 w ⟨g, 0, none⟩ (vals hh 32) (length_vals _ _) hg.cells
  simp [results, h, hp, asAddr, this, H32]

set_option maxRecDepth 100000 in
set_option maxHeartbeats 1000000 in
theorem hash_any (I T N cap : Nat) (f : Nat → Nat) (ee : Addr) (s : St) (W : World) (hE : Env T N cap f ee W) (h : Rd I T N cap ee s W) (hI : I ≠ T) :
    Calls Ybaf.prog 37 #[.pointer (some ⟨I, 0, none⟩)] W fun e w' => e = .returned (.agg (H32 (hsh f N s))) ∧ Rd I T N cap ee (tk N 32 s) w' ∧ Same [I] W w' := by
  have hIl := h.lt
  go_enter Ybaf.func37, Ybaf.ntmps37
  go_upto_region 2 with fail
  rw [zero32]
  obtain ⟨W1, hW1⟩ : ∃ W1, W.alloc (.cells (H32 fun _ => 0) 60) = W1 := ⟨_, rfl⟩
  have hz1 : W1.heap.size = W.heap.size + 1 := by rw [← hW1]; simp
  rw [hW1]
  have hs1 : Same [] W W1 := by rw [← hW1]; exact Same.alloc _ _ _
  have g1 : HashAt W1 W.heap.size (fun _ => 0) := by rw [← hW1]; exact heap_alloc_new W _
  obtain ⟨W2, hW2⟩ : ∃ W2, W1.alloc (.cells (H32 fun _ => 0) 60) = W2 := ⟨_, rfl⟩
  rw [hW2]
  have hs2 : Same [] W W2 := by rw [← hW2]; exact hs1.trans (Same.alloc _ _ _)
  have g2 : HashAt W2 (W.heap.size + 1) (fun _ => 0) := by rw [← hW2, ← hz1]; exact heap_alloc_new W1 _
  have g1' : HashAt W2 W.heap.size (fun _ => 0) := by rw [← hW2]; exact (Below.heap_alloc W1 _ _ (by omega)).trans g1
  have hrd2 := h.same hs2 (by simp)
  have hE2 := hE.same hs2 (by simp) (by simp)
  have htk := fun q => rtake I T N cap 32 ee s (W2.drewN q) hrd2 (by omega) (by omega) hE.hN hE.hN2 hE2.g0
  clear hrd2 hE2
  have hT2 := hE.row.same hs2 (by simp)
  have hz2 : W2.heap.size = W.heap.size + 2 := by rw [← hW2]; simp; omega
  have hTl := hE.row.lt
  clear hW1 hW2 hs1 g1 hz1
  obtain ⟨G, hG⟩ : ∃ G, W.heap.size = G := ⟨_, rfl⟩
  have HG : Hid (W.heap.size = G) := hG
  rw [hG] at g2 g1' hz2 hIl hTl ⊢
  clear hG
  have hval : ∀ w1 : World, Same [I] W2 w1 → ∃ sp m, tkV T N 32 32 s = .slice sp m m ∧ (m = 32 ∨ m = 0) ∧ Bytes w1 sp m (hsh f N s) ∧ (if m = 0 then (fun _ => 0) else hsh f N s) = hsh f N s := by
    intro w1 hs
    by_cases hok : Ok N 32 s
    · refine ⟨some ⟨T, s.p, none⟩, 32, by unfold tkV; rw [if_pos hok], .inl rfl, .inr ⟨T, s.p, rfl, fun i hi => ?_⟩, by rw [if_neg (by omega)]⟩
      unfold hsh
      rw [if_pos hok]
      exact (hT2.same hs (by simp; omega)).cell (by have := hok.2; omega)
    · exact ⟨none, 0, by unfold tkV; rw [if_neg hok], .inr rfl, .inl rfl, by unfold hsh; rw [if_pos rfl, if_neg hok]⟩
  go_cut [] (fun w2 => HashAt w2 (G + 1) (hsh f N s) ∧ HashAt w2 G (fun _ => 0) ∧ Rd I T N cap ee (tk N 32 s) w2 ∧ Same [I, G + 1] W2 w2)
  case first =>
    go_region_with (go_at_call 21; refine (htk _).mono ?_; rintro e w1 ⟨rfl, h1, hs1⟩; obtain ⟨sp, m, hv, hm, hby, hif⟩ := hval w1 ((Same.drewN [I] W2 _).trans hs1); have hgA : HashAt w1 (G + 1) _ := (hs1.block (G + 1) (by simp; omega) (by simp; omega)).trans g2; obtain ⟨w2, hcp, hg2, hs3⟩ := run_copy_hash w1 sp m (G + 1) _ _ hgA hm hby; rw [hif] at hg2)
    all_goals
      have hsz := hs1.size
      have g3 : HashAt w2 G (fun _ => 0) := ((hs3.block G (by simp at hsz; omega) (by simp)).trans ((hs1.block G (by simp; omega) (by simp; omega)).trans g1'))
      go_wp2
      go_meet
      exact ⟨hg2, g3, h1.same hs3 (by simp; omega) (apart_one hgA (by omega)), (((Same.drewN _ W2 _).trans hs1).more (by simp)).trans (hs3.more (by simp))⟩
  case rest =>
    obtain ⟨k1, k2, k3, k4⟩ := hcut
    clear hval htk g1' g2 hT2
    go_wp2_with (first
      | (refine wpList_load_wide wide60 rfl (.tmp 3) rfl ⟨G + 1, 0, none⟩ rfl (vals (hsh f N s) 32) (length_vals _ _) k1.cells ?_)
      | (refine wpList_store_wide wide60 rfl (.tmp 2) (.tmp 8) rfl rfl G 0 rfl (vals (hsh f N s) 32) rfl (length_vals _ _) (H32 fun _ => 0) 60 k2 (by rw [H32_size]; omega) (vals_one _ _) ?_))
    have e1 : ((H32 fun _ => 0).toList.take 0 ++ vals (hsh f N s) 32 ++ (H32 fun _ => 0).toList.drop (0 + 32)).toArray = H32 (hsh f N s) := by
      simp [H32, List.drop_eq_nil_of_le, length_vals]
    rw [e1]
    have hz := HG.out
    have hgr : HashAt (wc.setRow G (H32 (hsh f N s))) G (hsh f N s) := setRow_heap wc G _ _ 60 _ k2
    refine bodyPost_ret (results_hash Ybaf.results37 _ _ G (hsh f N s) rfl hgr) rfl ⟨rfl, k3.same (same_setRow _ _ _) (by simp; omega) (apart_one k2 (by omega)), ?_⟩
    have q1 : Same [I] W wc := (hs2.more (by simp)).shed k4 (by simp; omega)
    exact q1.shed (same_setRow wc G _) (by simp; omega)
end Go.Proofs.YbulkdlruFmt
