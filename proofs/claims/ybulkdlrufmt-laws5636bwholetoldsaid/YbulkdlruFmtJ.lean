/-
  The reader's finalization.
-/
import Derived.Test.YbulkdlruFmtI
namespace Go.Proofs.YbulkdlruFmt
open Go.RowKit Go.Shelf Go.Extern.Stop Go.Stop Go.Extern
set_option linter.unusedVariables false
set_option linter.unusedSimpArgs false

/-- A certificate as the plain parser reads it. -/
structure PC where
  v : Nat
  h : Nat → Nat
  l : List (Nat × Option Nat)
def certMid (N : Nat) (s : St) : St := tk N 32 (tk N 8 s)
def certOf (f : Nat → Nat) (N : Nat) (s : St) : PC := ⟨num f N 8 s, hsh f N (tk N 8 s), cList f N (cntS f N 256 (certMid N s)) (cnt f N 256 (certMid N s))⟩
def certS (f : Nat → Nat) (N : Nat) (s : St) : St := cSt N (cntS f N 256 (certMid N s)) (cnt f N 256 (certMid N s))

theorem run_build141 (v : Nat) (h : Nat → Nat) (w : World) : (Instr.build 141 #[(0, .int .u64 (v : Int)), (1, .agg (H32 h))]).run Ybaf.prog w = .ok (.agg (C34 v h (.slice none 0 0))) w := by kernel_rfl
theorem wpList_build141 {w : World} {ops : Array Oper} {rest : List Oper} {o : Oper} {a : Act} {Q : Exit → Act → World → Prop} (hgd : o.guard = none) (x y : Operand) (ho : o.op = .build 141 #[(0, x), (1, y)]) (v : Nat) (h : Nat → Nat)
    (hx : a.eval x = .int .u64 (v : Int)) (hy : a.eval y = .agg (H32 h)) (hk : wpList Ybaf.prog ops Q rest (a.put o.dst (.agg (C34 v h (.slice none 0 0)))) w) : wpList Ybaf.prog ops Q (o :: rest) a w := by
  refine wpList_plain hgd fun K hK => wp_value (v := .agg (C34 v h (.slice none 0 0))) (w' := w) ?_ (hK _ _ hk)
  have := run_build141 v h w
  simp [execOp, ho, hx, hy, this, Result.andThen]

/-- What the reader's finalization comes to. -/
def FinSaid (I T N cap : Nat) (f : Nat → Nat) (ee : Addr) (s : St) (W : World) (e : Ending) (w' : World) : Prop :=
  ∃ b B, e = .returned (.pointer (some ⟨b, 0, none⟩)) ∧ W.heap.size ≤ b ∧ W.heap.size ≤ B ∧ CertAt w' 141 147 B T (fun _ => 64) b (certOf f N s).v (certOf f N s).h (certOf f N s).l ∧ Rd I T N cap ee (certS f N s) w' ∧ Same [I] W w'

set_option maxRecDepth 100000 in
set_option maxHeartbeats 2000000 in
theorem fin_any (F : Interp) (I T N cap : Nat) (f : Nat → Nat) (ee : Addr) (s : St) (W : World) (hF : F.answers W.tape) (hE : Env T N cap f ee W) (hr : Rd I T N cap ee s W) (hIT : I ≠ T) (hI0 : 0 ≠ I) :
    Calls Ybaf.prog 20 #[.pointer (some ⟨I, 0, none⟩)] W (FinSaid I T N cap f ee s W) := by
  have hTI : T ∉ [I] := by simp; omega
  have h0I : 0 ∉ [I] := by simp; omega
  have h38 := u64_any I T N cap f ee s W hE hr hIT
  go_enter Ybaf.func20, Ybaf.ntmps20
  go_wp2_with fail
  refine h38.mono ?_
  rintro e w1 ⟨rfl, r1, hs1⟩
  have hE1 := hE.same hs1 hTI h0I
  have h37 := hash_any I T N cap f ee _ w1 hE1 r1 hIT
  clear h38
  go_wp2_with fail
  refine h37.mono ?_
  rintro e w2 ⟨rfl, r2, hs2⟩
  have hE2 := hE1.same hs2 hTI h0I
  have r2' : Rd I T N cap ee (certMid N s) w2 := r2
  obtain ⟨v, ev⟩ : ∃ v, num f N 8 s = v := ⟨_, rfl⟩
  obtain ⟨h, eh⟩ : ∃ h, hsh f N (tk N 8 s) = h := ⟨_, rfl⟩
  rw [ev, eh]
  have hs12 := hs1.trans hs2
  have hIl := hr.lt
  have hTl := hE.row.lt
  have h0l := World.block_lt_of_cell? W _ hE.g0
  clear h37 r1 r2 hs1 hs2 hE1
  go_upto_region 2 with (refine wpList_build141 rfl (.tmp 5) (.tmp 7) rfl v h rfl rfl ?_)
  obtain ⟨b, hb⟩ : ∃ b, w2.heap.size = b := ⟨_, rfl⟩
  obtain ⟨w3, hw3⟩ : ∃ w3, w2.alloc (.cells (C34 v h (.slice none 0 0)) 141) = w3 := ⟨_, rfl⟩
  have hz3 : w3.heap.size = b + 1 := by rw [← hw3, ← hb]; simp
  have hb3 : w3.heap[b]? = some (.cells (C34 v h (.slice none 0 0)) 141 (0, 0)) := by rw [← hw3, ← hb]; exact heap_alloc_new w2 _
  have hs3 : Same [] w2 w3 := by rw [← hw3]; exact Same.alloc _ _ _
  rw [hw3, hb]
  obtain ⟨w4, hw4⟩ : ∃ w4, w3.alloc (.cells #[.pointer (some ⟨b, 0, none⟩)] 123) = w4 := ⟨_, rfl⟩
  have hz4 : w4.heap.size = b + 2 := by rw [← hw4]; simp; omega
  have hC4 : w4.heap[b + 1]? = some (.cells #[.pointer (some ⟨b, 0, none⟩)] 123 (0, 0)) := by rw [← hw4, ← hz3]; exact heap_alloc_new w3 _
  have hs4 : Same [] w3 w4 := by rw [← hw4]; exact Same.alloc _ _ _
  have hb4 := (hs4.block b (by omega) (by simp)).trans hb3
  rw [hw4]
  have hs24 := hs3.trans hs4
  have hbW : W.heap.size ≤ b := by rw [← hb]; exact hs12.size
  have hA4 : CertAt w4 141 147 (b + 2) T (fun _ => 64) b v h [] := ⟨none, 0, hb4, World.ownsRow_nil _ _ _ _⟩
  have hE4 := hE2.same hs24 (by simp) (by simp)
  have hce := cert42 F I T N cap (b + 1) b (b + 2) f ee { data := #[102, 105, 110, 97, 108, 105, 122, 101, 115] } v h (certMid N s) w4 (by rw [hs24.tape, hs12.tape]; exact hF) hE4 (r2'.same hs24 (by simp)) hA4 hC4 (by omega) (by omega) (by omega) (by omega) (by omega) hIT hI0 (by omega) (by omega) (by omega) (by omega) (by omega)
  have HW : Hid (W.heap.size ≤ b ∧ w4.heap.size = b + 2 ∧ Same [I] W w2 ∧ Same [] w2 w4 ∧ I < W.heap.size) := ⟨hbW, hz4, hs12, hs24, hIl⟩
  clear hw3 hw4 hz3 hz4 hb3 hb4 hs3 hs4 hs24 hbW hA4 hE4 hE2 r2' hb hs12 hIl hTl h0l hE hr
  go_wp2_with fail
  refine hce.mono ?_
  rintro e w5 ⟨rfl, hA5, r5, hk5⟩
  have hC5 := (hk5.block (b + 1) (by omega) (by have := HW.out; simp; omega)).trans hC4
  have cC : w5.cell? ⟨b + 1, 0, none⟩ = some (.pointer (some ⟨b, 0, none⟩)) := by rw [cell_of_row w5 (b + 1) _ _ 123 (0, 0) hC5]; rfl
  clear hce
  go_wp2
  go_ret
  obtain ⟨k1, k2, k3, k4, k5⟩ := HW.out
  refine ⟨b, b + 2, rfl, k1, by omega, ?_, r5, ?_⟩
  · have e1 : (certOf f N s).v = v := ev
    have e2 : (certOf f N s).h = h := eh
    rw [e1, e2]
    exact hA5
  · have h1 : Same [I, b] w4 w5 := hk5.same (by omega) (fun k hk => .inl hk)
    exact (k3.trans (k4.more (by simp))).shed h1 (by simp; omega)
end Go.Proofs.YbulkdlruFmt
