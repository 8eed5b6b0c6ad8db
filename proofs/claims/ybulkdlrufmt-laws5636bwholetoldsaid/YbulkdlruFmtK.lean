/-
  The notarization's readBody.
-/
import Derived.Test.YbulkdlruFmtJ
namespace Go.Proofs.YbulkdlruFmt
open Go.RowKit Go.Shelf Go.Extern.Stop Go.Stop Go.Extern
set_option linter.unusedVariables false
set_option linter.unusedSimpArgs false

theorem wp_call {o : Oper} {a : Act} {w : World} {K : Act → World → Prop} {Q : Exit → Act → World → Prop} {fid : FuncId} {args : Array Value} (he : (execOp a.eval o).run Ybaf.prog w = .ok (.enter fid args) w) {R : Ending → World → Prop} (hc : Calls Ybaf.prog fid args w R) (h : ∀ e w', R e w' → ∃ v, e = .returned v ∧ K (a.put o.dst v) w') : Oper.wp Ybaf.prog o a w K Q := by
  unfold Oper.wp
  rw [he, Oper.upon_enter]
  refine hc.mono ?_
  intro e w' hR
  obtain ⟨v, rfl, hk⟩ := h e w' hR
  exact hk
theorem exec_storeI {t : TypeId} {o : Oper} {a : Act} {w : World} (x y : Operand) (ho : o.op = .store t x y) (b off : Nat) (hx : a.eval x = .pointer (some ⟨b, off, none⟩)) (k : IntKind) (n : Int) (hy : a.eval y = .int k n) (hsz : ∀ w, (sizeOf t).run Ybaf.prog w = .ok 1 w) {u : Value} (hc : w.cell? ⟨b, off, none⟩ = some u) (hf : w.frozen? ⟨b, off, none⟩ = false) : (execOp a.eval o).run Ybaf.prog w = .ok .skip (w.setCell ⟨b, off, none⟩ (.int k n)) := by
  have h2 : (storeVar t ⟨b, off, none⟩ (.int k n)).run Ybaf.prog w = .ok () (w.setCell ⟨b, off, none⟩ (.int k n)) := by
    simp [storeVar, Sem.run_bind, hsz, Value.cells, storeCells, store, Sem.run, Addr.add_mid, hc, hf, Result.andThen]
  simp [execOp, ho, hx, hy, Instr.storeAt, Instr.sureAddr, h2, Result.andThen]
theorem exec_storeW {t k : Nat} (ht : Wide t k) {o : Oper} {a : Act} {w : World} (x y : Operand) (ho : o.op = .store t x y) (g off : Nat) (hx : a.eval x = .pointer (some ⟨g, off, none⟩))
    (cs : List Value) (hy : a.eval y = .agg cs.toArray) (hl : cs.length = k) (cur : Array Value) (ty : TypeId) (hg : w.heap[g]? = some (.cells cur ty (0, 0))) (hfit : off + k ≤ cur.size) (h1 : ∀ v ∈ cs, v.oneCell' = true) :
    (execOp a.eval o).run Ybaf.prog w = .ok .skip (w.setRow g (cur.toList.take off ++ cs ++ cur.toList.drop (off + k)).toArray) := by
  have := run_store_wide ht w g off cs hl cur ty hg hfit h1
  simp [execOp, ho, hx, hy, Instr.storeAt, Instr.sureAddr, this, Result.andThen]
theorem c34_v {w : World} {b t : Nat} {v v' : Nat} {h : Nat → Nat} {sl : Value} (hb : w.heap[b]? = some (.cells (C34 v h sl) t (0, 0))) : (w.setCell ⟨b, 0, none⟩ (.int .u64 (v' : Int))).heap[b]? = some (.cells (C34 v' h sl) t (0, 0)) := by
  rw [heap_setCell_same w b 0 _ t _ hb]
  rfl
theorem c34_h (v : Nat) (h h' : Nat → Nat) (sl : Value) : ((C34 v h sl).toList.take 1 ++ vals h' 32 ++ (C34 v h sl).toList.drop (1 + 32)).toArray = C34 v h' sl := by
  simp [C34, length_vals, List.drop_append]

/-- What the notarization's readBody comes to. -/
def NotSaid (I b T N cap : Nat) (f : Nat → Nat) (ee : Addr) (s : St) (W : World) (e : Ending) (w' : World) : Prop :=
  ∃ B, e = .returned (.tuple #[]) ∧ W.heap.size ≤ B ∧ CertAt w' 128 148 B T (fun _ => 64) b (certOf f N s).v (certOf f N s).h (certOf f N s).l ∧ Rd I T N cap ee (certS f N s) w' ∧ Same [I, b] W w'

set_option maxRecDepth 100000 in
set_option maxHeartbeats 2000000 in
theorem not_any (F : Interp) (I b T N cap : Nat) (f : Nat → Nat) (ee : Addr) (s : St) (W : World) (hF : F.answers W.tape) (hE : Env T N cap f ee W) (hr : Rd I T N cap ee s W) (hb : W.heap[b]? = some (.cells (C34 0 (fun _ => 0) (.slice none 0 0)) 128 (0, 0))) (hIT : I ≠ T) (hI0 : 0 ≠ I) (hbI : b ≠ I) (hbT : b ≠ T) (hb0 : 0 ≠ b) :
    Calls Ybaf.prog 22 #[.pointer (some ⟨b, 0, none⟩), .pointer (some ⟨I, 0, none⟩)] W (NotSaid I b T N cap f ee s W) := by
  have hTI : T ∉ [I] := by simp; omega
  have h0I : 0 ∉ [I] := by simp; omega
  have hbl := (Array.getElem?_eq_some_iff.1 hb).1
  have hIl := hr.lt
  have hTl := hE.row.lt
  have h0l := World.block_lt_of_cell? W _ hE.g0
  go_enter Ybaf.func22, Ybaf.ntmps22
  go_upto_region 1 with fail
  obtain ⟨C, hC⟩ : ∃ C, W.heap.size = C := ⟨_, rfl⟩
  obtain ⟨w1, hw1⟩ : ∃ w1, W.alloc (.cells #[.pointer (some ⟨b, 0, none⟩)] 95) = w1 := ⟨_, rfl⟩
  have hz1 : w1.heap.size = C + 1 := by rw [← hw1, ← hC]; simp
  have hC1 : w1.heap[C]? = some (.cells #[.pointer (some ⟨b, 0, none⟩)] 95 (0, 0)) := by rw [← hw1, ← hC]; exact heap_alloc_new W _
  have hs1 : Same [] W w1 := by rw [← hw1]; exact Same.alloc _ _ _
  rw [hw1, hC]
  have hb1 := (hs1.block b hbl (by simp)).trans hb
  have hE1 := hE.same hs1 (by simp) (by simp)
  have r1 := hr.same hs1 (by simp)
  have cC : w1.cell? ⟨C, 0, none⟩ = some (.pointer (some ⟨b, 0, none⟩)) := by rw [cell_of_row w1 C _ _ 95 (0, 0) hC1]; rfl
  clear hw1
  go_cut [] (fun wx => wx.heap[b]? = some (.cells (C34 (certOf f N s).v (certOf f N s).h (.slice none 0 0)) 128 (0, 0)) ∧ Rd I T N cap ee (certMid N s) wx ∧ Same [I, b] w1 wx)
  case first =>
    refine wp_region_held (S := fun w' => w'.cell? ⟨C, 0, none⟩ = some (.pointer (some ⟨b, 0, none⟩))) (by kernel_rfl) ?_
    change wpAnyH _ _ _ _ _ 12 _ ⟨#[.pointer (some ⟨b, 0, none⟩), .pointer (some ⟨I, 0, none⟩), .pointer (some ⟨C, 0, none⟩), undef, undef, undef, undef, undef, undef, undef, undef, undef, undef, undef, undef, undef, undef], []⟩ (World.drew w1)
    have cC2 : w1.drew.cell? ⟨C, 0, none⟩ = some (.pointer (some ⟨b, 0, none⟩)) := cC
    refine take_op 0 (.pointer (some ⟨b, 0, none⟩)) rfl rfl (by kernel_rfl) (by kernel_rfl) (by kernel_rfl) (fun _ _ _ h => h) (fun w hw => exec_load1 (fun _ => by kernel_rfl) (.tmp 2) rfl ⟨C, 0, none⟩ rfl hw) cC2 ?_
    change wpAnyH _ _ _ _ _ _ _ ⟨#[.pointer (some ⟨b, 0, none⟩), .pointer (some ⟨I, 0, none⟩), .pointer (some ⟨C, 0, none⟩), undef, .pointer (some ⟨b, 0, none⟩), undef, undef, undef, undef, undef, undef, undef, undef, undef, undef, undef, undef], []⟩ _
    refine take_op 1 (.pointer (some ⟨b, 0, none⟩)) rfl rfl (by kernel_rfl) (by kernel_rfl) (by kernel_rfl) (fun _ _ _ h => h) (fun w hw => exec_load1 (fun _ => by kernel_rfl) (.tmp 2) rfl ⟨C, 0, none⟩ rfl hw) cC2 ?_
    change wpAnyH _ _ _ _ _ _ _ ⟨#[.pointer (some ⟨b, 0, none⟩), .pointer (some ⟨I, 0, none⟩), .pointer (some ⟨C, 0, none⟩), undef, .pointer (some ⟨b, 0, none⟩), .pointer (some ⟨b, 0, none⟩), undef, undef, undef, undef, undef, undef, undef, undef, undef, undef, undef], []⟩ _
    refine take_op 2 (.pointer (some ⟨I, 0, none⟩)) rfl rfl (by kernel_rfl) (by kernel_rfl) (by kernel_rfl) (fun _ _ _ h => h) (fun w hw => by kernel_rfl) cC2 ?_
    change wpAnyH _ _ _ _ _ _ _ ⟨#[.pointer (some ⟨b, 0, none⟩), .pointer (some ⟨I, 0, none⟩), .pointer (some ⟨C, 0, none⟩), undef, .pointer (some ⟨b, 0, none⟩), .pointer (some ⟨b, 0, none⟩), .pointer (some ⟨I, 0, none⟩), undef, undef, undef, undef, undef, undef, undef, undef, undef, undef], []⟩ _
    refine take_op 4 (.pointer (some ⟨I, 0, none⟩)) rfl rfl (by kernel_rfl) (by kernel_rfl) (by kernel_rfl) (fun _ _ _ h => h) (fun w hw => by kernel_rfl) cC2 ?_
    change wpAnyH _ _ _ _ _ _ _ ⟨#[.pointer (some ⟨b, 0, none⟩), .pointer (some ⟨I, 0, none⟩), .pointer (some ⟨C, 0, none⟩), undef, .pointer (some ⟨b, 0, none⟩), .pointer (some ⟨b, 0, none⟩), .pointer (some ⟨I, 0, none⟩), undef, .pointer (some ⟨I, 0, none⟩), undef, undef, undef, undef, undef, undef, undef, undef], []⟩ _
    have h38 := u64_any I T N cap f ee s w1.drew (hE1.same (Same.drew [] w1) (by simp) (by simp)) (r1.same (Same.drew [] w1) (by simp)) hIT
    refine one_op 3 (by kernel_rfl) rfl rfl ?_
    refine wp_call (fid := 38) (args := #[.pointer (some ⟨I, 0, none⟩)]) (by kernel_rfl) h38 ?_
    rintro e w2 ⟨rfl, r2, hs2⟩
    have hs2' : Same [I] w1 w2 := (Same.drew _ _).trans hs2
    have cC3 : w2.cell? ⟨C, 0, none⟩ = some (.pointer (some ⟨b, 0, none⟩)) := (World.cell?_of_block (w := w1) (hs2'.block C (by omega) (by simp; omega))).trans cC
    refine ⟨_, rfl, cC3, ?_⟩
    change wpAnyH _ _ _ _ _ _ _ ⟨#[.pointer (some ⟨b, 0, none⟩), .pointer (some ⟨I, 0, none⟩), .pointer (some ⟨C, 0, none⟩), undef, .pointer (some ⟨b, 0, none⟩), .pointer (some ⟨b, 0, none⟩), .pointer (some ⟨I, 0, none⟩), .int .u64 (num f N 8 s : Nat), .pointer (some ⟨I, 0, none⟩), undef, undef, undef, undef, undef, undef, undef, undef], []⟩ _
    have hE2 := hE1.same hs2' hTI h0I
    have h37 := hash_any I T N cap f ee _ w2 hE2 r2 hIT
    refine one_op 5 (by kernel_rfl) rfl rfl ?_
    refine wp_call (fid := 37) (args := #[.pointer (some ⟨I, 0, none⟩)]) (by kernel_rfl) h37 ?_
    rintro e w3 ⟨rfl, r3, hs3⟩
    have hs3' : Same [I] w1 w3 := hs2'.trans hs3
    have cC4 : w3.cell? ⟨C, 0, none⟩ = some (.pointer (some ⟨b, 0, none⟩)) := (World.cell?_of_block (w := w1) (hs3'.block C (by omega) (by simp; omega))).trans cC
    refine ⟨_, rfl, cC4, ?_⟩
    change wpAnyH _ _ _ _ _ _ _ ⟨#[.pointer (some ⟨b, 0, none⟩), .pointer (some ⟨I, 0, none⟩), .pointer (some ⟨C, 0, none⟩), undef, .pointer (some ⟨b, 0, none⟩), .pointer (some ⟨b, 0, none⟩), .pointer (some ⟨I, 0, none⟩), .int .u64 (num f N 8 s : Nat), .pointer (some ⟨I, 0, none⟩), .agg (H32 (hsh f N (tk N 8 s))), undef, undef, undef, undef, undef, undef, undef], []⟩ _
    have hb3 := (hs3'.block b (by omega) (by simp; omega)).trans hb1
    obtain ⟨q0, qr, q33, qf⟩ := c34_cells hb3
    refine take_op 6 (.pointer (some ⟨b, 0, none⟩)) rfl rfl (by kernel_rfl) (by kernel_rfl) (by kernel_rfl) (fun _ _ _ h => h) (fun w hw => by kernel_rfl) cC4 ?_
    change wpAnyH _ _ _ _ _ _ _ ⟨#[.pointer (some ⟨b, 0, none⟩), .pointer (some ⟨I, 0, none⟩), .pointer (some ⟨C, 0, none⟩), undef, .pointer (some ⟨b, 0, none⟩), .pointer (some ⟨b, 0, none⟩), .pointer (some ⟨I, 0, none⟩), .int .u64 (num f N 8 s : Nat), .pointer (some ⟨I, 0, none⟩), .agg (H32 (hsh f N (tk N 8 s))), .pointer (some ⟨b, 0, none⟩), undef, undef, undef, undef, undef, undef], []⟩ _
    refine take_op 7 (.pointer (some ⟨b, 0, none⟩)) rfl rfl (by kernel_rfl) (by kernel_rfl) (by kernel_rfl) (fun _ _ _ h => h) (fun w hw => by kernel_rfl) cC4 ?_
    change wpAnyH _ _ _ _ _ _ _ ⟨#[.pointer (some ⟨b, 0, none⟩), .pointer (some ⟨I, 0, none⟩), .pointer (some ⟨C, 0, none⟩), undef, .pointer (some ⟨b, 0, none⟩), .pointer (some ⟨b, 0, none⟩), .pointer (some ⟨I, 0, none⟩), .int .u64 (num f N 8 s : Nat), .pointer (some ⟨I, 0, none⟩), .agg (H32 (hsh f N (tk N 8 s))), .pointer (some ⟨b, 0, none⟩), .pointer (some ⟨b, 0, none⟩), undef, undef, undef, undef, undef], []⟩ _
    refine one_op 8 (by kernel_rfl) rfl rfl ?_
    have cC5 : (w3.setCell ⟨b, 0, none⟩ (.int .u64 (num f N 8 s : Nat))).cell? ⟨C, 0, none⟩ = some (.pointer (some ⟨b, 0, none⟩)) := (World.cell?_of_block (w := w3) (Below.heap_setCell _ _ _ _ (by show C ≠ b; omega))).trans cC4
    have hb4 := c34_v (v' := num f N 8 s) hb3
    refine wp_skip (exec_storeI (.tmp 11) (.tmp 7) rfl b 0 rfl .u64 _ rfl (fun _ => by kernel_rfl) q0 (qf 0)) ⟨cC5, ?_⟩
    change wpAnyH _ _ _ _ _ _ _ ⟨#[.pointer (some ⟨b, 0, none⟩), .pointer (some ⟨I, 0, none⟩), .pointer (some ⟨C, 0, none⟩), undef, .pointer (some ⟨b, 0, none⟩), .pointer (some ⟨b, 0, none⟩), .pointer (some ⟨I, 0, none⟩), .int .u64 (num f N 8 s : Nat), .pointer (some ⟨I, 0, none⟩), .agg (H32 (hsh f N (tk N 8 s))), .pointer (some ⟨b, 0, none⟩), .pointer (some ⟨b, 0, none⟩), undef, undef, undef, undef, undef], []⟩ _
    refine take_op 9 (.pointer (some ⟨b, 0, none⟩)) rfl rfl (by kernel_rfl) (by kernel_rfl) (by kernel_rfl) (fun _ _ _ h => h) (fun w hw => by kernel_rfl) cC5 ?_
    change wpAnyH _ _ _ _ _ _ _ ⟨#[.pointer (some ⟨b, 0, none⟩), .pointer (some ⟨I, 0, none⟩), .pointer (some ⟨C, 0, none⟩), undef, .pointer (some ⟨b, 0, none⟩), .pointer (some ⟨b, 0, none⟩), .pointer (some ⟨I, 0, none⟩), .int .u64 (num f N 8 s : Nat), .pointer (some ⟨I, 0, none⟩), .agg (H32 (hsh f N (tk N 8 s))), .pointer (some ⟨b, 0, none⟩), .pointer (some ⟨b, 0, none⟩), .pointer (some ⟨b, 0, none⟩), undef, undef, undef, undef], []⟩ _
    refine take_op 10 (.pointer (some ⟨b, 1, none⟩)) rfl rfl (by kernel_rfl) (by kernel_rfl) (by kernel_rfl) (fun _ _ _ h => h) (fun w hw => by kernel_rfl) cC5 ?_
    change wpAnyH _ _ _ _ _ _ _ ⟨#[.pointer (some ⟨b, 0, none⟩), .pointer (some ⟨I, 0, none⟩), .pointer (some ⟨C, 0, none⟩), undef, .pointer (some ⟨b, 0, none⟩), .pointer (some ⟨b, 0, none⟩), .pointer (some ⟨I, 0, none⟩), .int .u64 (num f N 8 s : Nat), .pointer (some ⟨I, 0, none⟩), .agg (H32 (hsh f N (tk N 8 s))), .pointer (some ⟨b, 0, none⟩), .pointer (some ⟨b, 0, none⟩), .pointer (some ⟨b, 0, none⟩), .pointer (some ⟨b, 1, none⟩), undef, undef, undef], []⟩ _
    refine one_op 11 (by kernel_rfl) rfl rfl ?_
    refine wp_skip (exec_storeW wide60 (.tmp 13) (.tmp 9) rfl b 1 rfl (vals (hsh f N (tk N 8 s)) 32) rfl (length_vals _ _) _ 128 hb4 (by simp [C34, length_vals]) (vals_one _ _)) ?_
    rw [c34_h]
    have hs4 : Same [b] w3 ((w3.setCell ⟨b, 0, none⟩ (.int .u64 (num f N 8 s : Nat))).setRow b (C34 (num f N 8 s) (hsh f N (tk N 8 s)) (.slice none 0 0))) := (Same.setCell _ _ _ _ (by simp)).trans (same_setRow _ _ _)
    refine ⟨(World.cell?_of_block (w := w3) (hs4.block C (by have := hs3'.size; omega) (by simp; omega))).trans cC4, ?_⟩
    refine wpAnyH_done (by kernel_rfl) ?_ _
    go_wp2
    go_meet
    exact ⟨setRow_heap _ b _ _ 128 _ hb4, r3.same hs4 (by simp; omega) (apart_one hb3 (by omega)), (hs3'.more (by simp)).trans (hs4.more (by simp))⟩
  case rest =>
    obtain ⟨hbc, rc, hsc⟩ := hcut
    have hCc := (hsc.block C (by omega) (by simp; omega)).trans hC1
    have hEc := hE1.same hsc (by simp; omega) (by simp; omega)
    have hzc := hsc.size
    obtain ⟨B, hB⟩ : ∃ B, wc.heap.size = B := ⟨_, rfl⟩
    have hA : CertAt wc 128 148 B T (fun _ => 64) b (certOf f N s).v (certOf f N s).h [] := ⟨none, 0, hbc, World.ownsRow_nil _ _ _ _⟩
    have hce := cert43 F I T N cap C b B f ee { data := #[118, 111, 116, 101, 115] } (certOf f N s).v (certOf f N s).h (certMid N s) wc (by rw [hsc.tape, hs1.tape]; exact hF) hEc rc hA hCc (by omega) (by omega) (by omega) (by omega) (by omega) hIT hI0 hbI hbT hb0 (by omega) (by omega)
    have HW : Hid (W.heap.size = C ∧ w1.heap.size = C + 1 ∧ wc.heap.size = B ∧ C + 1 ≤ B ∧ Same [] W w1 ∧ Same [I, b] w1 wc) := ⟨hC, hz1, hB, by omega, hs1, hsc⟩
    clear hB hC hz1 hA hEc rc hbc hE1 hE hr r1 hCc hzc
    go_wp2_with fail
    refine hce.mono ?_
    rintro e w5 ⟨rfl, hA5, r5, hk5⟩
    go_wp2
    go_end0
    obtain ⟨k1, k2, k3, k4, k5, k6⟩ := HW.out
    exact ⟨B, rfl, by omega, hA5, r5, ((k5.more (by simp)).trans k6).trans (hk5.same (by omega) (fun k hk => .inl (by simp at hk ⊢; omega)))⟩
end Go.Proofs.YbulkdlruFmt
