/-
  SMALL CALLEES: errors.New, (*bufio.Reader).Size, Buffered, readErr, reset.
-/
import Derived.Test.YbulkdlswDoorA
namespace Go.Proofs.YbulkdlswDoor
open Go.RowKit Go.Shelf

/-- Of all blocks but those listed nothing has turned. -/
structure Same (ex : List Nat) (w w' : World) : Prop where
  os : w'.os = w.os
  tape : w'.tape = w.tape
  output : w'.output = w.output
  size : w.heap.size ≤ w'.heap.size
  block : ∀ k, k < w.heap.size → k ∉ ex → w'.heap[k]? = w.heap[k]?
theorem Same.refl (ex : List Nat) (w : World) : Same ex w w := ⟨rfl, rfl, rfl, Nat.le_refl _, fun _ _ _ => rfl⟩
theorem Same.trans {ex : List Nat} {a b c : World} (h : Same ex a b) (k : Same ex b c) : Same ex a c :=
  ⟨k.os.trans h.os, k.tape.trans h.tape, k.output.trans h.output, Nat.le_trans h.size k.size, fun i hi hx => (k.block i (Nat.lt_of_lt_of_le hi h.size) hx).trans (h.block i hi hx)⟩
theorem Same.more {ex ex' : List Nat} {a b : World} (h : Same ex a b) (hx : ∀ k ∈ ex, k ∈ ex') : Same ex' a b := ⟨h.os, h.tape, h.output, h.size, fun k hk hn => h.block k hk (fun hm => hn (hx k hm))⟩
theorem Same.drewN (ex : List Nat) (w : World) (n : Nat) : Same ex w (w.drewN n) := ⟨rfl, rfl, rfl, Nat.le_refl _, fun _ _ _ => rfl⟩
theorem Same.drew (ex : List Nat) (w : World) : Same ex w w.drew := ⟨rfl, rfl, rfl, Nat.le_refl _, fun _ _ _ => rfl⟩
theorem Same.setCell (ex : List Nat) (w : World) (p : Addr) (v : Value) (h : p.block ∈ ex) : Same ex w (w.setCell p v) :=
  ⟨rfl, rfl, rfl, by simp [World.setCell], fun k _ hx => Below.heap_setCell _ _ _ _ (fun e => hx (e ▸ h))⟩
theorem Same.alloc (ex : List Nat) (w : World) (o : Obj) : Same ex w (w.alloc o) := ⟨rfl, rfl, rfl, by simp, fun k hk _ => Below.heap_alloc w o k hk⟩
theorem But.same {w w' : World} {g : Nat} (h : But w.heap.size g w w') : Same [g] w w' := ⟨h.os, h.tape, h.output, h.size, fun k hk hx => h.block k hk (fun e => hx (by simp [e]))⟩
theorem Below.same {w w' : World} {B : Nat} (h : Below B w w') (ex : List Nat) (hB : w.heap.size ≤ B) : Same ex w w' := ⟨h.os, h.tape, h.output, h.size, fun k hk _ => h.block k (by omega)⟩
theorem Same.below {ex : List Nat} {w w' : World} {B : Nat} (h : Same ex w w') (hB : B ≤ w.heap.size) (hx : ∀ k ∈ ex, B ≤ k) : Below B w w' := ⟨h.os, h.tape, h.output, h.size, fun k hk => h.block k (by omega) (fun hm => by have := hx k hm; omega)⟩
theorem Row.same {ex : List Nat} {w w' : World} {g N : Nat} {f : Nat → Nat} (h : Row w g N f) (hs : Same ex w w') (hx : g ∉ ex) : Row w' g N f := h.block (hs.block g h.lt hx)
theorem Bytes.same {ex : List Nat} {w w' : World} {a : Option Addr} {len : Nat} {f : Nat → Nat} (h : Bytes w a len f) (hs : Same ex w w') (hx : ∀ p, a = some p → p.block ∉ ex) : Bytes w' a len f := by
  rcases h with h | ⟨b, off, rfl, hc⟩
  · exact .inl h
  · refine .inr ⟨b, off, rfl, fun i hi => ?_⟩
    have := World.block_lt_of_cell? w _ (hc i hi)
    exact (World.cell?_of_block (w := w) (hs.block b this (hx _ rfl))).trans (hc i hi)

/-- A bufio.Reader's block. -/
abbrev RB (U bl : Nat) (rd : Value) (r w : Int) (er : Value) (lb lr : Int) : Array Value := #[.slice (some ⟨U, 0, none⟩) bl bl, rd, .int .i64 r, .int .i64 w, er, .int .i64 lb, .int .i64 lr]
theorem rcells {w : World} {R : Nat} {a0 a1 a2 a3 a4 a5 a6 : Value} (h : w.heap[R]? = some (.cells #[a0, a1, a2, a3, a4, a5, a6] 47 (0, 0))) :
    w.cell? ⟨R, 0, none⟩ = some a0 ∧ w.cell? ⟨R, 1, none⟩ = some a1 ∧ w.cell? ⟨R, 2, none⟩ = some a2 ∧ w.cell? ⟨R, 3, none⟩ = some a3 ∧ w.cell? ⟨R, 4, none⟩ = some a4 ∧ w.cell? ⟨R, 5, none⟩ = some a5 ∧ w.cell? ⟨R, 6, none⟩ = some a6 ∧ ∀ j, w.frozen? ⟨R, j, none⟩ = false := by
  refine ⟨?_, ?_, ?_, ?_, ?_, ?_, ?_, fun j => frozen_of_row w R j _ 47 h⟩ <;> rw [cell_of_row w R _ _ 47 (0, 0) h] <;> rfl
/-- The source's block. -/
theorem scells {w : World} {S : Nat} {a0 a1 a2 a3 a4 a5 : Value} (h : w.heap[S]? = some (.cells #[a0, a1, a2, a3, a4, a5] 29 (0, 0))) :
    w.cell? ⟨S, 0, none⟩ = some a0 ∧ w.cell? ⟨S, 1, none⟩ = some a1 ∧ w.cell? ⟨S, 2, none⟩ = some a2 ∧ w.cell? ⟨S, 3, none⟩ = some a3 ∧ w.cell? ⟨S, 4, none⟩ = some a4 ∧ w.cell? ⟨S, 5, none⟩ = some a5 ∧ ∀ j, w.frozen? ⟨S, j, none⟩ = false := by
  refine ⟨?_, ?_, ?_, ?_, ?_, ?_, fun j => frozen_of_row w S j _ 29 h⟩ <;> rw [cell_of_row w S _ _ 29 (0, 0) h] <;> rfl

set_option maxHeartbeats 400000 in
theorem new_any (s : ByteArray) (w : World) :
    Calls Ybad.prog 5 #[.string s] w fun e w' => e = .returned (.iface 37 (.pointer (some ⟨w.heap.size, 0, none⟩))) ∧ Below w.heap.size w w' := by
  go_enter Ybad.func5, Ybad.ntmps5
  go_wp2
  go_ret
  exact ⟨rfl, (Below.refl _ _).alloc (Nat.le_refl _) _⟩

set_option maxHeartbeats 400000 in
theorem size_any (R U bl : Nat) (rd er : Value) (r w lb lr : Int) (W : World) (h : W.heap[R]? = some (.cells (RB U bl rd r w er lb lr) 47 (0, 0))) :
    Calls Ybad.prog 7 #[.pointer (some ⟨R, 0, none⟩)] W fun e w' => e = .returned (.int .i64 (bl : Int)) ∧ w' = W := by
  obtain ⟨c0, c1, c2, c3, c4, c5, c6, cf⟩ := rcells h
  clear h
  go_enter Ybad.func7, Ybad.ntmps7
  go_wp2
  go_ret
  exact ⟨rfl, rfl⟩

set_option maxHeartbeats 400000 in
theorem buffered_any (R U bl r w : Nat) (rd er : Value) (lb lr : Int) (W : World) (h : W.heap[R]? = some (.cells (RB U bl rd r w er lb lr) 47 (0, 0))) (hr : r ≤ w) (hw : w ≤ 65536) :
    Calls Ybad.prog 13 #[.pointer (some ⟨R, 0, none⟩)] W fun e w' => e = .returned (.int .i64 ((w - r : Nat) : Int)) ∧ ∃ n, w' = W.drewN n := by
  obtain ⟨c0, c1, c2, c3, c4, c5, c6, cf⟩ := rcells h
  have hi : (w : Int) ≤ 65536 := by omega
  have e1 : IntKind.i64.wrap ((w : Int) - (r : Int)) = ((w - r : Nat) : Int) := by rw [show (w : Int) - (r : Int) = ((w - r : Nat) : Int) by omega]; exact IntWalk.i64_in _ (by omega)
  clear h hw
  go_enter Ybad.func13, Ybad.ntmps13
  go_wp2
  go_quiet (fail)
  go_wp2
  go_ret
  exact ⟨rfl, _, rfl⟩

set_option maxHeartbeats 400000 in
theorem readErr_any (R : Nat) (er : Value) (W : World) (c4 : W.cell? ⟨R, 4, none⟩ = some er) (f4 : W.frozen? ⟨R, 4, none⟩ = false) :
    Calls Ybad.prog 14 #[.pointer (some ⟨R, 0, none⟩)] W fun e w' => e = .returned er ∧ w' = W.setCell ⟨R, 4, none⟩ .nilIface := by
  go_enter Ybad.func14, Ybad.ntmps14
  go_wp2
  go_ret
  exact ⟨rfl, rfl⟩
end Go.Proofs.YbulkdlswDoor
