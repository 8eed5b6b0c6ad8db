/-
  The reader's block.
-/
import Derived.Test.YbulkdlruFmtE
namespace Go.Proofs.YbulkdlruFmt
open Go.RowKit Go.Shelf
set_option linter.unusedVariables false
set_option linter.unusedSimpArgs false

/-- A block's cells. -/
def B136 (h : Nat → Nat) (p q : Nat) (pay : Value) : Array Value := (vals h 32 ++ [.int .u64 (p : Int), .int .u64 (q : Int), pay]).toArray
theorem run_build136 (h : Nat → Nat) (p q : Nat) (w : World) : (Instr.build 136 #[(0, .agg (H32 h)), (1, .int .u64 (p : Int)), (2, .int .u64 (q : Int))]).run Ybaf.prog w = .ok (.agg (B136 h p q (.slice none 0 0))) w := by kernel_rfl
theorem wpList_build136 {w : World} {ops : Array Oper} {rest : List Oper} {o : Oper} {a : Act} {Q : Exit → Act → World → Prop} (hgd : o.guard = none) (x y z : Operand) (ho : o.op = .build 136 #[(0, x), (1, y), (2, z)]) (h : Nat → Nat) (p q : Nat)
    (hx : a.eval x = .agg (H32 h)) (hy : a.eval y = .int .u64 (p : Int)) (hz : a.eval z = .int .u64 (q : Int)) (hk : wpList Ybaf.prog ops Q rest (a.put o.dst (.agg (B136 h p q (.slice none 0 0)))) w) : wpList Ybaf.prog ops Q (o :: rest) a w := by
  refine wpList_plain hgd fun K hK => wp_value (v := .agg (B136 h p q (.slice none 0 0))) (w' := w) ?_ (hK _ _ hk)
  have := run_build136 h p q w
  simp [execOp, ho, hx, hy, hz, this, Result.andThen]

/-- A payload: where it begins, how long it is. -/
def payV (T : Nat) (pay : Option (Nat × Nat)) (c : Nat) : Value :=
  match pay with
  | none => .slice none 0 0
  | some (o, l) => .slice (some ⟨T, o, none⟩) l c
/-- A block as the plain parser reads it. -/
structure PB where
  par : Nat → Nat
  hgt : Nat
  vw : Nat
  pay : Option (Nat × Nat)
def blkN (f : Nat → Nat) (N : Nat) (s : St) : Nat := num f N 4 (tk N 8 (tk N 8 (tk N 32 s)))
def blkS5 (f : Nat → Nat) (N : Nat) (s : St) : St := if blkN f N s ≤ 4210688 then tk N 4 (tk N 8 (tk N 8 (tk N 32 s))) else oth (tk N 4 (tk N 8 (tk N 8 (tk N 32 s))))
/-- The state behind a block. -/
def blkS (f : Nat → Nat) (N : Nat) (s : St) : St := if blkN f N s = 0 then blkS5 f N s else tk N (blkN f N s) (blkS5 f N s)
def blk (f : Nat → Nat) (N : Nat) (s : St) : PB :=
  ⟨hsh f N s, num f N 8 (tk N 32 s), num f N 8 (tk N 8 (tk N 32 s)), if blkN f N s = 0 then none else if Ok N (blkN f N s) (blkS5 f N s) then some ((blkS5 f N s).p, blkN f N s) else none⟩
/-- A block in memory. -/
def BlkAt (w : World) (T b : Nat) (pb : PB) : Prop := ∃ c, w.heap[b]? = some (.cells (B136 pb.par pb.hgt pb.vw (payV T pb.pay c)) 136 (0, 0))
theorem BlkAt.same {w w' : World} {T b : Nat} {pb : PB} {ex : List Nat} (h : BlkAt w T b pb) (hs : Same ex w w') (hb : b ∉ ex) : BlkAt w' T b pb := by
  obtain ⟨c, h⟩ := h
  exact ⟨c, (hs.block b (Array.getElem?_eq_some_iff.1 h).1 hb).trans h⟩
theorem b136_pay {w : World} {b : Nat} {h : Nat → Nat} {p q : Nat} {v v' : Value} (hb : w.heap[b]? = some (.cells (B136 h p q v) 136 (0, 0))) : (w.setCell ⟨b, 34, none⟩ v').heap[b]? = some (.cells (B136 h p q v') 136 (0, 0)) := by
  rw [heap_setCell_same w b 34 _ 136 _ hb]
  rfl
theorem b136_cell {w : World} {b : Nat} {h : Nat → Nat} {p q : Nat} {v : Value} (hb : w.heap[b]? = some (.cells (B136 h p q v) 136 (0, 0))) : w.cell? ⟨b, 34, none⟩ = some v ∧ w.frozen? ⟨b, 34, none⟩ = false := by
  refine ⟨?_, frozen_of_row w b 34 _ 136 hb⟩
  rw [cell_of_row w b _ _ 136 (0, 0) hb]
  rfl

theorem tkV_slice (T N n c : Nat) (s : St) : ∃ a m k, tkV T N n c s = .slice a m k := by
  unfold tkV
  split
  · exact ⟨_, _, _, rfl⟩
  · exact ⟨_, _, _, rfl⟩
/-- What the reader's block comes to. -/
def BlockSaid (I T N cap : Nat) (f : Nat → Nat) (ee : Addr) (s : St) (W : World) (e : Ending) (w' : World) : Prop :=
  ∃ b, e = .returned (.pointer (some ⟨b, 0, none⟩)) ∧ W.heap.size ≤ b ∧ BlkAt w' T b (blk f N s) ∧ Rd I T N cap ee (blkS f N s) w' ∧ Same [I] W w'

open Go.Extern.Stop Go.Stop Go.Extern in
set_option maxRecDepth 100000 in
set_option maxHeartbeats 2000000 in
theorem block_any (F : Interp) (I T N cap : Nat) (f : Nat → Nat) (ee : Addr) (s : St) (W : World) (hF : F.answers W.tape) (hE : Env T N cap f ee W) (h : Rd I T N cap ee s W) (hI : I ≠ T) (hI0 : 0 ≠ I) :
    Calls Ybaf.prog 19 #[.pointer (some ⟨I, 0, none⟩)] W (BlockSaid I T N cap f ee s W) := by
  have h37 := hash_any I T N cap f ee s W hE h hI
  have hTI : T ∉ [I] := by simp; omega
  have h0I : 0 ∉ [I] := by simp; omega
  go_enter Ybaf.func19, Ybaf.ntmps19
  go_wp2_with fail
  refine h37.mono ?_
  rintro e w1 ⟨rfl, r1, hs1⟩
  clear h37
  have h38 := u64_any I T N cap f ee _ w1 (hE.same hs1 hTI h0I) r1 hI
  go_wp2_with fail
  refine h38.mono ?_
  rintro e w2 ⟨rfl, r2, hs2⟩
  clear h38
  have hE2 := (hE.same hs1 hTI h0I).same hs2 hTI h0I
  have h38 := u64_any I T N cap f ee _ w2 hE2 r2 hI
  go_wp2_with fail
  refine h38.mono ?_
  rintro e w3 ⟨rfl, r3, hs3⟩
  clear h38
  have hE3 := hE2.same hs3 hTI h0I
  clear r1 r2
  obtain ⟨s1, e1⟩ : ∃ s1, tk N 32 s = s1 := ⟨_, rfl⟩
  obtain ⟨s2, e2⟩ : ∃ s2, tk N 8 s1 = s2 := ⟨_, rfl⟩
  obtain ⟨s3, e3⟩ : ∃ s3, tk N 8 s2 = s3 := ⟨_, rfl⟩
  obtain ⟨hh, ehh⟩ : ∃ hh, hsh f N s = hh := ⟨_, rfl⟩
  obtain ⟨x1, ex1⟩ : ∃ x1, num f N 8 s1 = x1 := ⟨_, rfl⟩
  obtain ⟨x2, ex2⟩ : ∃ x2, num f N 8 s2 = x2 := ⟨_, rfl⟩
  simp only [e1, e2, e3, ehh, ex1, ex2] at r3 ⊢
  go_upto_region 2 with (refine wpList_build136 rfl (.tmp 7) (.tmp 9) (.tmp 11) rfl hh x1 x2 rfl rfl rfl ?_)
  obtain ⟨b, hb⟩ : ∃ b, w3.heap.size = b := ⟨_, rfl⟩
  obtain ⟨w4, hw4⟩ : ∃ w4, w3.alloc (.cells (B136 hh x1 x2 (.slice none 0 0)) 136) = w4 := ⟨_, rfl⟩
  have hb4 : w4.heap[b]? = some (.cells (B136 hh x1 x2 (.slice none 0 0)) 136 (0, 0)) := by rw [← hw4, ← hb]; exact heap_alloc_new w3 _
  have hs4 : Same [] w3 w4 := by rw [← hw4]; exact Same.alloc _ _ _
  have hbI : I ≠ b := by have := h.lt; have := hs1.size; have := hs2.size; have := hs3.size; omega
  rw [hw4, hb]
  have HB : Hid (W.heap.size ≤ b) := by show W.heap.size ≤ b; have := hs1.size; have := hs2.size; have := hs3.size; omega
  have hs14 : Same [I] W w4 := ((hs1.trans hs2).trans hs3).trans (hs4.more (by simp))
  clear hw4 hb
  have hE4 := hE3.same hs4 (by simp) (by simp)
  have r4 := r3.same hs4 (by simp)
  have h39 := u32_any I T N cap f ee s3 w4 hE4 r4 hI
  clear hs1 hs2 hs3 hs4 hE2 hE3 r3 h
  obtain ⟨n, en⟩ : ∃ n, num f N 4 s3 = n := ⟨_, rfl⟩
  obtain ⟨s4, e4⟩ : ∃ s4, tk N 4 s3 = s4 := ⟨_, rfl⟩
  have hnl := num_lt f N 4 s3 hE.hf
  rw [en] at h39 hnl
  rw [e4] at h39
  have eN : blkN f N s = n := by unfold blkN; rw [e1, e2, e3, en]
  have eS5 : blkS5 f N s = if n ≤ 4210688 then s4 else oth s4 := by unfold blkS5; rw [eN, e1, e2, e3, e4]
  have i0 : IntKind.u64.wrap (n : Int) = (n : Int) := IntWalk.u64_in _ (by omega)
  have i0b : IntKind.i64.wrap (n : Int) = (n : Int) := IntWalk.i64_in _ (by omega)
  -- what the call ends in
  have fin : ∀ w9, w9.heap[b]? = some (.cells (B136 hh x1 x2 (payV T (blk f N s).pay n)) 136 (0, 0)) → Rd I T N cap ee (blkS f N s) w9 → Same [I] W w9 → BlockSaid I T N cap f ee s W (.returned (.pointer (some ⟨b, 0, none⟩))) w9 := by
    intro w9 k1 k2 k3
    refine ⟨b, rfl, HB.out, ⟨n, ?_⟩, k2, k3⟩
    rw [k1]
    simp only [blk, e1, e2, ehh, ex1, ex2]
  go_upto_region 3 with (go_at_call 39; refine h39.mono ?_; rintro e w5 ⟨rfl, r5, hs5⟩)
  have hE5 := hE4.same hs5 hTI h0I
  have hb5 := (hs5.block b (Array.getElem?_eq_some_iff.1 hb4).1 (by simp; omega)).trans hb4
  have hs15 := hs14.trans hs5
  have htk := fun (h1 : 1 ≤ n) (X : World) (q : St) hq hX => rtake I T N cap n ee q X hq h1 (by omega) hE.hN hE.hN2 hX
  by_cases hn : n ≤ 4210688
  · have hck := check_ok n w5 (by omega)
    rw [if_pos hn] at eS5
    by_cases hn0 : n = 0
    · have eS : blkS f N s = s4 := by unfold blkS; rw [eN, if_pos hn0, eS5]
      have eP : (blk f N s).pay = none := by simp only [blk, eN, if_pos hn0]
      rw [eS, eP] at fin
      subst hn0
      clear htk hnl hn
      go_wp2_with (go_at_call 40; refine hck.mono ?_; rintro e w6 ⟨rfl, hw6⟩; subst w6)
      go_ret
      exact fin _ hb5 r5 hs15
    · have eS : blkS f N s = tk N n s4 := by unfold blkS; rw [eN, if_neg hn0, eS5]
      have eP : payV T (blk f N s).pay n = tkV T N n n s4 := by
        simp only [blk, eN, if_neg hn0, eS5]
        unfold tkV
        split <;> rfl
      rw [eS, eP] at fin
      have ht := htk (by omega) w5 s4 r5 hE5.g0
      obtain ⟨va, vm, vc, hv⟩ := tkV_slice T N n n s4
      rw [hv] at fin ht
      have j1 : (0 : Int) < (n : Int) := by omega
      clear htk hnl hn hn0 eP
      obtain ⟨q1, q2⟩ := b136_cell hb5
      go_wp2_with (first | (go_at_call 40; refine hck.mono ?_; rintro e w6 ⟨rfl, hw6⟩; subst w6) | (go_at_call 21; refine ht.mono ?_; rintro e w6 ⟨rfl, r6, hs6⟩; have hb6 := (hs6.block b (Array.getElem?_eq_some_iff.1 hb5).1 (by simp; omega)).trans hb5; obtain ⟨q3, q4⟩ := b136_cell hb6))
      go_ret
      exact fin _ (b136_pay hb6) (r6.same (Same.setCell [b] _ _ _ (by simp)) (by simp; omega) (apart_one hb6 (by omega))) ((hs15.trans hs6).shed (Same.setCell [b] _ _ _ (by simp)) (by have := HB.out; simp; omega))
  · have hck := check_bad F n w5 (by rw [hs15.tape]; exact hF) (by omega)
    rw [if_neg hn] at eS5
    have hn0 : ¬ n = 0 := by omega
    have eS : blkS f N s = tk N n (oth s4) := by unfold blkS; rw [eN, if_neg hn0, eS5]
    have eP : payV T (blk f N s).pay n = tkV T N n n (oth s4) := by
      simp only [blk, eN, if_neg hn0, eS5]
      unfold tkV
      split <;> rfl
    rw [eS, eP] at fin
    obtain ⟨va, vm, vc, hv⟩ := tkV_slice T N n n (oth s4)
    rw [hv] at fin
    have ht := htk (by omega)
    have j1 : (0 : Int) < (n : Int) := by omega
    clear htk hnl hn hn0 eP
    go_wp2_with (go_at_call 40; refine hck.mono ?_; rintro e w6 ⟨a, rfl, ha, hb6, hc6⟩)
    have hs6 : Same [] w5 w6 := Below.same hb6 _ (Nat.le_refl _)
    have hE6 := hE5.same hs6 (by simp) (by simp)
    have hfl := fail_oth I T N cap ee a s4 w6 (r5.same hs6 (by simp)) (fun e => by have := hE5.lt; rw [e] at ha; omega) hc6
    have hb7 := (hs6.block b (Array.getElem?_eq_some_iff.1 hb5).1 (by simp)).trans hb5
    refine hfl.mono ?_
    rintro e w7 ⟨rfl, r7, hs7⟩
    have ht7 := ht w7 (oth s4) r7 (hE6.same hs7 hTI h0I).g0
    rw [hv] at ht7
    have hb8 := (hs7.block b (Array.getElem?_eq_some_iff.1 hb7).1 (by simp; omega)).trans hb7
    go_wp2_with (go_at_call 21; refine ht7.mono ?_; rintro e w8 ⟨rfl, r8, hs8⟩; have hb9 := (hs8.block b (Array.getElem?_eq_some_iff.1 hb8).1 (by simp; omega)).trans hb8; obtain ⟨q3, q4⟩ := b136_cell hb9)
    go_ret
    exact fin _ (b136_pay hb9) (r8.same (Same.setCell [b] _ _ _ (by simp)) (by simp; omega) (apart_one hb9 (by omega))) ((((hs15.trans (hs6.more (by simp))).trans hs7).trans hs8).shed (Same.setCell [b] _ _ _ (by simp)) (by have := HB.out; simp; omega))
end Go.Proofs.YbulkdlruFmt
