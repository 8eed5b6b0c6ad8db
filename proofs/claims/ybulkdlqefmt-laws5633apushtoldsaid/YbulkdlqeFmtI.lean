/-
  (Field).Undefined, (NodeData).value.
-/
import Derived.Test.YbulkdlqeFmtH
namespace Go.Proofs.YbulkdlqeFmt
open Go.RowKit

/-- WHAT LOOKING A NAME UP IN THE VALUES COMES TO, as long as the map's block lies as it lay. -/
def MapAt (w : World) (mv : Value) (lk : ByteArray → Nat × Bool) : Prop :=
  ∀ W : World, (∀ b, mv = .map (some b) → W.heap[b]? = w.heap[b]?) → ∀ s : ByteArray, s.size ≤ 100 → (Instr.lookup 31 mv (.string s) true).run Ybaf.prog W = .ok (.tuple #[.int .u64 ((lk s).1 : Int), .bool (lk s).2]) W
theorem MapAt.keep {w w' : World} {mv : Value} {lk : ByteArray → Nat × Bool} (h : MapAt w mv lk) (hk : ∀ b, mv = .map (some b) → w'.heap[b]? = w.heap[b]?) : MapAt w' mv lk := fun W hW s hs => h W (fun b hb => (hW b hb).trans (hk b hb)) s hs

theorem fname_size (k : Nat) : (fname k).size ≤ 100 := by
  by_cases h : k < 26
  · exact (by decide : ∀ j : Fin 26, (fname j.1).size ≤ 100) ⟨k, h⟩
  · have e : fnameL.length ≤ k := by simp [fnameL]; omega
    simp [fname, List.getD, List.getElem?_eq_none e, ByteArray.size]

/-- Undefined. -/
def undef? (k : Nat) : Bool := decide (12 ≤ fbit k) && decide (fbit k ≤ 21)
theorem undef_eq (k : Nat) : undef? k = decide (12 ≤ fbit k) := by
  have := fbit_le k
  simp [undef?, this]

set_option maxHeartbeats 400000 in
theorem undefined_any (s : ByteArray) (b : Nat) (z : Int) (w : World) (hb : b ≤ 21) :
    Calls Ybaf.prog 34 #[.agg #[.string s, .int .u64 b, .int .i64 z]] w fun e w' => e = .returned (.bool (decide (12 ≤ b))) ∧ Below w.heap.size w w' := by
  by_cases h : 12 ≤ b
  · have hd : decide (12 ≤ b) = true := decide_eq_true h
    rw [hd]
    clear hd
    have h21 : decide ((b : Int) ≤ 21) = true := decide_eq_true (by omega)
    go_enter Ybaf.func34, Ybaf.ntmps34
    go_wp2
    go_ret
    exact ⟨rfl, (Below.refl _ _).alloc (Nat.le_refl _) _⟩
  · have hd : decide (12 ≤ b) = false := decide_eq_false h
    rw [hd]
    clear hd
    go_enter Ybaf.func34, Ybaf.ntmps34
    go_wp2
    go_ret
    exact ⟨rfl, (Below.refl _ _).alloc (Nat.le_refl _) _⟩

/-- The greatest uint64. -/
def allOnes : Nat := 18446744073709551615
/-- The value that the node gives field k. -/
def vval (lk : ByteArray → Nat × Bool) (k : Nat) : Nat := if (lk (fname k)).2 && !(decide (12 ≤ fbit k)) then (lk (fname k)).1 else allOnes

set_option maxRecDepth 100000 in
set_option maxHeartbeats 1000000 in
theorem value_any (mv : Value) (sp : Option Addr) (lk : ByteArray → Nat × Bool) (k : Nat) (w : World) (hm : MapAt w mv lk) (hmb : ∀ b, mv = .map (some b) → b < w.heap.size) :
    Calls Ybaf.prog 28 #[.agg #[mv, .pointer sp], fval k] w fun e w' => e = .returned (.int .u64 (vval lk k : Int)) ∧ Below w.heap.size w w' := by
  have hB1 : Below w.heap.size w ((w.alloc (.cells #[mv, .pointer sp] 34)).alloc (.cells #[.string (fname k), .int .u64 (fbit k : Int), .int .i64 (fsize k : Int)] 85)) := ((Below.refl _ _).alloc (Nat.le_refl _) _).alloc (by simp) _
  have hl := hm ((w.alloc (.cells #[mv, .pointer sp] 34)).alloc (.cells #[.string (fname k), .int .u64 (fbit k : Int), .int .i64 (fsize k : Int)] 85)) (fun b hb => hB1.block b (hmb b hb)) (fname k) (fname_size k)
  have hfb := fbit_le k
  unfold fval
  cases hok : (lk (fname k)).2 with
  | true =>
    cases hu : decide (12 ≤ fbit k) with
    | true =>
      have HV : Hid (vval lk k = allOnes) := by show _ = _; simp [vval, hok, hu]
      have hun := fun W => undefined_any (fname k) (fbit k) (fsize k) W hfb
      rw [hu] at hun
      clear hm hmb
      go_enter Ybaf.func28, Ybaf.ntmps28
      go_wp2_with fail
      refine (hun _).mono ?_
      rintro e w1 ⟨rfl, hb⟩
      go_wp2
      go_ret
      refine ⟨ret_int (by rw [HV.out]; rfl), hB1.trans (hb.mono (by simp; omega))⟩
    | false =>
      have HV : Hid (vval lk k = (lk (fname k)).1) := by show _ = _; simp [vval, hok, hu]
      have hun := fun W => undefined_any (fname k) (fbit k) (fsize k) W hfb
      rw [hu] at hun
      clear hm hmb
      go_enter Ybaf.func28, Ybaf.ntmps28
      go_wp2_with fail
      refine (hun _).mono ?_
      rintro e w1 ⟨rfl, hb⟩
      go_wp2
      go_ret
      refine ⟨ret_int (by rw [HV.out]), hB1.trans (hb.mono (by simp; omega))⟩
  | false =>
    have HV : Hid (vval lk k = allOnes) := by show _ = _; simp [vval, hok]
    clear hm hmb
    go_enter Ybaf.func28, Ybaf.ntmps28
    go_wp2
    go_ret
    refine ⟨ret_int (by rw [HV.out]; rfl), hB1⟩
end Go.Proofs.YbulkdlqeFmt
