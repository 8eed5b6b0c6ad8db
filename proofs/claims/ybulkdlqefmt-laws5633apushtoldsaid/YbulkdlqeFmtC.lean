/-
  THE TABLE OF FIELDS, AND THE ITERATOR over it: (layout).lay and its closure.
-/
import Derived.Test.YbulkdlqeFmtB
import Derived.RangeFuncNested
import Derived.RangeFuncBound
import Derived.RangeFuncCalls
import Derived.RangeFuncLeaves
import Derived.Shelf.Abstract
import Derived.Shelf.RegionOpen
import Derived.OwnWalkIn
import Derived.TacticsInMore
import Derived.LoopNIn
import Derived.LoopIn
namespace Go.Proofs.YbulkdlqeFmt
open Go.RowKit Go.Shelf
attribute [local go_sem] Oper.semAt_some

/-- The table: each field's bit, size and name. -/
def fbitL : List Nat := [0, 0, 1, 1, 2, 3, 4, 5, 6, 7, 8, 8, 9, 9, 10, 11, 12, 13, 14, 15, 16, 17, 18, 19, 20, 21]
def fsizeL : List Nat := [1, 3, 2, 2, 4, 4, 4, 4, 4, 4, 1, 7, 4, 4, 8, 4, 4, 4, 4, 4, 4, 4, 4, 4, 4, 4]
def fnameL : List (List UInt8) := [[104, 111, 112, 95, 108, 105, 109, 105, 116], [110, 111, 100, 101, 95, 105, 100], [105, 110, 103, 114, 101, 115, 115, 95, 105, 102], [101, 103, 114, 101, 115, 115, 95, 105, 102], [116, 105, 109, 101, 115, 116, 97, 109, 112, 95, 115, 101, 99, 111, 110, 100, 115], [116, 105, 109, 101, 115, 116, 97, 109, 112, 95, 102, 114, 97, 99, 116, 105, 111, 110], [116, 114, 97, 110, 115, 105, 116, 95, 100, 101, 108, 97, 121], [110, 97, 109, 101, 115, 112, 97, 99, 101, 95, 100, 97, 116, 97], [113, 117, 101, 117, 101, 95, 100, 101, 112, 116, 104], [99, 104, 101, 99, 107, 115, 117, 109, 95, 99, 111, 109, 112, 108, 101, 109, 101, 110, 116], [104, 111, 112, 95, 108, 105, 109, 105, 116, 95, 119, 105, 100, 101], [110, 111, 100, 101, 95, 105, 100, 95, 119, 105, 100, 101], [105, 110, 103, 114, 101, 115, 115, 95, 105, 102, 95, 119, 105, 100, 101], [101, 103, 114, 101, 115, 115, 95, 105, 102, 95, 119, 105, 100, 101], [110, 97, 109, 101, 115, 112, 97, 99, 101, 95, 100, 97, 116, 97, 95, 119, 105, 100, 101], [98, 117, 102, 102, 101, 114, 95, 111, 99, 99, 117, 112, 97, 110, 99, 121], [49, 50], [49, 51], [49, 52], [49, 53], [49, 54], [49, 55], [49, 56], [49, 57], [50, 48], [50, 49]]
def fbit (k : Nat) : Nat := fbitL.getD k 0
def fsize (k : Nat) : Nat := fsizeL.getD k 0
def fname (k : Nat) : ByteArray := ⟨(fnameL.getD k []).toArray⟩
theorem fbit_le : ∀ k, fbit k ≤ 21 := by
  intro k
  by_cases h : k < 26
  · exact (by decide : ∀ j : Fin 26, fbit j.1 ≤ 21) ⟨k, h⟩
  · unfold fbit
    have e : fbitL.length ≤ k := by simp [fbitL]; omega
    simp [List.getD, List.getElem?_eq_none e]
theorem fsize_le : ∀ k, fsize k ≤ 8 := by
  intro k
  by_cases h : k < 26
  · exact (by decide : ∀ j : Fin 26, fsize j.1 ≤ 8) ⟨k, h⟩
  · unfold fsize
    have e : fsizeL.length ≤ k := by simp [fsizeL]; omega
    simp [List.getD, List.getElem?_eq_none e]

/-- Where field k lies in an element of Trace-Type tt. -/
def foff (tt : Nat) : Nat → Nat
  | 0 => 0
  | k + 1 => foff tt k + if bt tt (fbit k) then fsize k else 0
theorem foff_le (tt k : Nat) : foff tt k ≤ 8 * k := by
  induction k with
  | zero => simp [foff]
  | succ k ih =>
    have := fsize_le k
    simp only [foff]
    split <;> omega

/-- The fields that tt asks for, by their places in the table. -/
abbrev FX (tt : Nat) := { k : Nat // k < 26 ∧ bt tt (fbit k) = true }
def fldsTo (tt : Nat) : Nat → List (FX tt)
  | 0 => []
  | k + 1 => fldsTo tt k ++ if h : k < 26 ∧ bt tt (fbit k) = true then [⟨k, h⟩] else []
def flds (tt : Nat) : List (FX tt) := fldsTo tt 26
theorem fldsTo_len (tt k : Nat) : (fldsTo tt k).length ≤ k := by
  induction k with
  | zero => simp [fldsTo]
  | succ k ih =>
    simp only [fldsTo, List.length_append]
    split <;> simp <;> omega

/-- What a round is handed. -/
def fval (k : Nat) : Value := .agg #[.string (fname k), .int .u64 (fbit k : Int), .int .i64 (fsize k : Int)]
def fenc (tt : Nat) (x : FX tt) : Array Value := #[fval x.1, .int .i64 (foff tt x.1 : Int)]

/-- THE TABLE IN MEMORY. -/
def Tab (w : World) (F fo : Nat) : Prop :=
  ∀ k, k < 26 → w.cell? ⟨F, fo + k * 3, none⟩ = some (.string (fname k)) ∧ w.cell? ⟨F, fo + k * 3 + 1, none⟩ = some (.int .u64 (fbit k : Int)) ∧ w.cell? ⟨F, fo + k * 3 + 2, none⟩ = some (.int .i64 (fsize k : Int))
theorem Tab.block {w w' : World} {F fo : Nat} (h : Tab w F fo) (hb : w'.heap[F]? = w.heap[F]?) : Tab w' F fo := fun k hk =>
  ⟨(World.cell?_of_block hb).trans (h k hk).1, (World.cell?_of_block hb).trans (h k hk).2.1, (World.cell?_of_block hb).trans (h k hk).2.2⟩

/-- But for block g, whatever cells lay in W lie in W' as they lay. -/
structure KeepC (g : Nat) (W W' : World) : Prop where
  os : W'.os = W.os
  tape : W'.tape = W.tape
  output : W'.output = W.output
  size : W.heap.size ≤ W'.heap.size
  block : ∀ (k : Nat) (o : Obj), k ≠ g → W.heap[k]? = some o → o.isCells = true → W'.heap[k]? = some o
theorem KeepC.refl (g : Nat) (W : World) : KeepC g W W := ⟨rfl, rfl, rfl, Nat.le_refl _, fun _ _ _ h _ => h⟩
theorem KeepC.trans {g : Nat} {A B C : World} (h : KeepC g A B) (k : KeepC g B C) : KeepC g A C :=
  ⟨k.os.trans h.os, k.tape.trans h.tape, k.output.trans h.output, Nat.le_trans h.size k.size, fun i o hg hi ho => k.block i o hg (h.block i o hg hi ho) ho⟩
theorem KeepC.of_below {W W' : World} (h : Below W.heap.size W W') (g : Nat) : KeepC g W W' :=
  ⟨h.os, h.tape, h.output, h.size, fun k _ _ hk _ => (h.block k (Array.getElem?_eq_some_iff.1 hk).1).trans hk⟩
theorem KeepC.of_but {W W' : World} {g : Nat} (h : But W.heap.size g W W') : KeepC g W W' :=
  ⟨h.os, h.tape, h.output, h.size, fun k _ hg hk _ => (h.block k (Array.getElem?_eq_some_iff.1 hk).1 hg).trans hk⟩
theorem KeepC.putObj (g : Nat) (W : World) (l : Nat) (o o' : Obj) (hl : W.heap[l]? = some o) (ho : o.isCells = false) : KeepC g W (W.putObj l o') :=
  ⟨rfl, rfl, rfl, by simp, fun k u _ hk hu => by
    have hne : k ≠ l := fun e => by subst e; rw [hl] at hk; cases hk; rw [ho] at hu; cases hu
    rw [World.putObj_heap_other hne]; exact hk⟩
theorem isCells_of_cell {W : World} {p : Addr} {v : Value} (h : W.cell? p = some v) : ∃ o, W.heap[p.block]? = some o ∧ o.isCells = true := by
  unfold World.cell? at h
  split at h
  · rename_i heq
    exact ⟨_, heq, rfl⟩
  · cases h
theorem KeepC.cell {g : Nat} {W W' : World} (h : KeepC g W W') {p : Addr} {v : Value} (hc : W.cell? p = some v) (hg : p.block ≠ g) : W'.cell? p = some v := by
  obtain ⟨o, ho, hi⟩ := isCells_of_cell hc
  rw [World.cell?_of_block (w := W) ((h.block _ o hg ho hi).trans ho.symm)]
  exact hc
theorem Tab.keep {w w' : World} {F fo g : Nat} (h : Tab w F fo) (hk : KeepC g w w') (hg : F ≠ g) : Tab w' F fo := fun k hlt =>
  ⟨hk.cell (h k hlt).1 hg, hk.cell (h k hlt).2.1 hg, hk.cell (h k hlt).2.2 hg⟩

set_option maxRecDepth 100000 in
set_option maxHeartbeats 1000000 in
theorem lay1_in (n : Nat) (hn : 1 ≤ n) (l Bl Bv g tt F fo c : Nat) (htt : tt < 4294967296) (J Jx : List (FX tt) → World → Prop)
    (hJ : ∀ s W W', J s W → Below W.heap.size W W' → J s W')
    (hY : ∀ pre x W, J pre W → pre.length < 26 → YieldAt Fence.wide (n - 1) Ybaf.prog l (fenc tt x) W fun e W' =>
      (e = .returned (.bool true) ∧ J (pre ++ [x]) W' ∧ KeepC g W W') ∨ (e = .returned (.bool false) ∧ Jx (pre ++ [x]) W'))
    (W : World) (gl : Bl ≠ g) (gv : Bv ≠ g) (gF : F ≠ g) (hgW : g < W.heap.size)
    (cl0 : W.cell? ⟨Bl, 0, none⟩ = some (.int .u64 24)) (cl1 : W.cell? ⟨Bl, 1, none⟩ = some (.slice (some ⟨F, fo, none⟩) 26 c)) (cv : W.cell? ⟨Bv, 0, none⟩ = some (.int .u32 (tt : Int))) (ht : Tab W F fo) (h0 : J [] W) :
    CallsIn Fence.wide n Ybaf.prog 36 #[.func (.yield l) #[] #[], .pointer (some ⟨Bl, 0, none⟩), .pointer (some ⟨Bv, 0, none⟩)] W fun e W' => (∃ v, e = .returned v) ∧
      ((∃ ys, ys = flds tt ∧ J ys W') ∨ (∃ pre, True ∧ Jx pre W')) := by
  refine callsIn_of_wp Ybaf.func36 rfl trivial ?_ rfl
  simp only [Ybaf.ntmps36, List.size_toArray, List.length_cons, List.length_nil, Nat.reduceAdd, Nat.reduceSub, Array.replicate_succ, Array.replicate_zero, List.push_toArray, List.append_toArray, List.nil_append, List.cons_append]
  gi_wp2
  gi_loopw [4, 10] (fun o i wr => ∃ k : Nat, k ≤ 26 ∧ i = .int .i64 k ∧ o = .int .i64 (foff tt k) ∧ J (fldsTo tt k) wr ∧ KeepC g W wr)
    (fun _ i _ => 26 - (intOf i).toNat)
  case atStart => exact ⟨0, by omega, rfl, rfl, h0, KeepC.refl _ _⟩
  case round =>
    obtain ⟨k, hk, rfl, rfl, hJs, hnx⟩ := hrel
    by_cases hlt : k < 26
    · have ho := foff_le tt k
      have hs := fsize_le k
      have hfb := fbit_le k
      obtain ⟨t0, t1, t2⟩ := ht.keep hnx gF k hlt
      have d0 : wr.cell? ⟨Bl, 0, none⟩ = some (.int .u64 24) := hnx.cell cl0 gl
      have d1 : wr.cell? ⟨Bl, 1, none⟩ = some (.slice (some ⟨F, fo, none⟩) 26 c) := hnx.cell cl1 gl
      have d2 : wr.cell? ⟨Bv, 0, none⟩ = some (.int .u32 (tt : Int)) := hnx.cell cv gv
      have e1 : Bl < wr.heap.size := World.block_lt_of_cell? wr _ d0
      have e2 : Bv < wr.heap.size := World.block_lt_of_cell? wr _ d2
      clear cl0 cl1 cv
      have hd : decide ((k : Int) < 26) = true := decide_eq_true (by omega)
      gi_wp2_with fail
      refine ⟨trivial, (callsIn_wide.2 (lhas_any tt (fbit k) _ _ htt (by omega))).mono ?_⟩
      rintro e w1 ⟨rfl, hb⟩
      have hbA : Below wr.heap.size wr w1 := ((Below.refl _ _).alloc (Nat.le_refl _) _).trans (hb.mono (by simp))
      have hJ1 := hJ _ _ _ hJs hbA
      have hnx1 : KeepC g W w1 := hnx.trans (KeepC.of_below hbA g)
      obtain ⟨hc, _⟩ := bcell hb
      have q0 : w1.cell? ⟨wr.heap.size, 0, none⟩ = some (.string (fname k)) := (hc _ _ (by simp)).trans (by simp)
      have q1 : w1.cell? ⟨wr.heap.size, 1, none⟩ = some (.int .u64 (fbit k : Int)) := (hc _ _ (by simp)).trans (by simp)
      have q2 : w1.cell? ⟨wr.heap.size, 2, none⟩ = some (.int .i64 (fsize k : Int)) := (hc _ _ (by simp)).trans (by simp)
      clear hc hb hbA t0 t1 t2 d0 d1 d2
      cases hbt : bt tt (fbit k) with
      | false =>
        have HF : Hid (fldsTo tt (k + 1) = fldsTo tt k) := by show _ = _; simp [fldsTo, hbt]
        have HO : Hid (foff tt (k + 1) = foff tt k) := by show _ = _; simp [foff, hbt]
        gi_wp2
        go_roundw
        case rel => exact ⟨k + 1, by omega, by go_num, by rw [HO.out], by rw [HF.out]; exact hJ1, hnx1⟩
        case measure => simp [intOf]; omega
      | true =>
        have HF : Hid (fldsTo tt (k + 1) = fldsTo tt k ++ [⟨k, hlt, hbt⟩]) := by show _ = _; simp [fldsTo, hbt, hlt]
        have HO : Hid (foff tt (k + 1) = foff tt k + fsize k) := by show _ = _; simp [foff, hbt]
        obtain ⟨fn, tmps, assign, body, hy, hR⟩ := hY _ ⟨k, hlt, hbt⟩ w1 hJ1 (by have := fldsTo_len tt k; omega)
        dsimp only [fenc, fval] at hy
        have hne : wr.heap.size ≠ g := by have := hnx.size; omega
        gi_wp2
        refine hR.mono ?_
        rintro e W3 (⟨rfl, hJ3, hk3⟩ | ⟨rfl, hJx3⟩)
        · have r2 : W3.cell? ⟨wr.heap.size, 2, none⟩ = some (.int .i64 (fsize k : Int)) := hk3.cell q2 hne
          gi_wp2
          go_roundw
          case rel => exact ⟨k + 1, by omega, by go_num, by rw [HO.out]; go_num, by rw [HF.out]; exact hJ3, hnx1.trans hk3⟩
          case measure => simp [intOf]; omega
        · gi_wp2
          refine bodyPost_ret (results_none rfl _ _ _) rfl ?_
          exact ⟨⟨_, rfl⟩, .inr ⟨_, trivial, hJx3⟩⟩
    · have HK : Hid (k = 26) := by show _ = _; omega
      rw [HK.out] at hJs
      gi_wp2
      go_end0
      exact ⟨⟨_, rfl⟩, .inl ⟨_, rfl, hJs⟩⟩

set_option maxHeartbeats 400000 in
/-- l.lay(v): the closure over l's and v's boxes. -/
theorem lay_any (F fo c tt : Nat) (w : World) :
    Calls Ybaf.prog 33 #[.agg #[.int .u64 24, .slice (some ⟨F, fo, none⟩) 26 c], .int .u32 tt] w fun e w' => e = .returned (.func (.func 36) #[] #[.pointer (some ⟨w.heap.size, 0, none⟩), .pointer (some ⟨w.heap.size + 1, 0, none⟩)]) ∧
      w' = (w.alloc (.cells #[.int .u64 24, .slice (some ⟨F, fo, none⟩) 26 c] 76)).alloc (.cells #[.int .u32 tt] 24) := by
  go_enter Ybaf.func33, Ybaf.ntmps33
  go_wp2
  go_ret
  exact ⟨rfl, rfl⟩

/-- The closure as an iterator. -/
theorem lay_stops (n : Nat) (hn : 1 ≤ n) (Bl Bv g tt F fo c : Nat) (htt : tt < 4294967296) (w : World) (gl : Bl ≠ g) (gv : Bv ≠ g) (gF : F ≠ g) (hgW : g < w.heap.size)
    (cl0 : w.cell? ⟨Bl, 0, none⟩ = some (.int .u64 24)) (cl1 : w.cell? ⟨Bl, 1, none⟩ = some (.slice (some ⟨F, fo, none⟩) 26 c)) (cv : w.cell? ⟨Bv, 0, none⟩ = some (.int .u32 (tt : Int))) (ht : Tab w F fo) :
    SeqStopsK Fence.wide n Ybaf.prog 36 #[.pointer (some ⟨Bl, 0, none⟩), .pointer (some ⟨Bv, 0, none⟩)] (fenc tt) (KeepC g) (fun ys => ys = flds tt) (fun _ => True) 26 w := fun l J Jx W hW hJ _ hY h0 =>
  lay1_in n hn l Bl Bv g tt F fo c htt J Jx
    (fun s A B hs hb => hJ s A B none hs ⟨hb.os, hb.tape, hb.output, hb.size, fun k hk _ => hb.block k hk⟩ (fun r e => by cases e))
    hY W gl gv gF (by have := hW.size; omega) ((KeepC.of_below hW g).cell cl0 gl) ((KeepC.of_below hW g).cell cl1 gl) ((KeepC.of_below hW g).cell cv gv) (ht.keep (KeepC.of_below hW g) gF) h0
end Go.Proofs.YbulkdlqeFmt
