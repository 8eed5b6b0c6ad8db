/-
  THE HOP's BLOCK: a row of bytes that the law itself has made.
-/
import Derived.Test.YbulkdlqeDoorW4
import Derived.Laws.CopyOwn
namespace Go.Proofs.YbulkdlqeDoor
open Go.RowKit

theorem wrap_small (n : Int) (h1 : 0 ≤ n) (h2 : n ≤ 4611686018427387904) : IntKind.i64.wrap n = n := by
  simp only [IntKind.wrap, IntKind.bits, IntKind.signed]
  simp
  omega

/-- Block g is a row of N bytes f 0, f 1, .. -/
def Hop (w : World) (g N : Nat) (f : Nat → Int) : Prop :=
  ∃ cur : List Value, w.heap[g]? = some (.cells cur.toArray 5 (0, 0)) ∧ cur.length = N ∧ ∀ i, i < N → cur[i]? = some (.int .u8 (f i))

theorem Hop.cell {w : World} {g N : Nat} {f : Nat → Int} (h : Hop w g N f) {i : Nat} (hi : i < N) : w.cell? ⟨g, i, none⟩ = some (.int .u8 (f i)) := by
  obtain ⟨cur, hg, _, hc⟩ := h
  rw [cell_of_row w g i _ 5 (0, 0) hg]
  simpa using hc i hi
theorem Hop.frozen {w : World} {g N : Nat} {f : Nat → Int} (h : Hop w g N f) (i : Nat) : w.frozen? ⟨g, i, none⟩ = false := by
  obtain ⟨cur, hg, _⟩ := h
  exact frozen_of_row w g i _ 5 hg
theorem Hop.lt {w : World} {g N : Nat} {f : Nat → Int} (h : Hop w g N f) : g < w.heap.size := by
  obtain ⟨cur, hg, _⟩ := h
  exact (Array.getElem?_eq_some_iff.1 hg).1
theorem Hop.set {w : World} {g N : Nat} {f f' : Nat → Int} (h : Hop w g N f) (k : Nat) (x : Int) (he : ∀ i, i < N → f' i = if i = k then x else f i) : Hop (w.setCell ⟨g, k, none⟩ (.int .u8 x)) g N f' := by
  obtain ⟨cur, hg, hl, hc⟩ := h
  refine ⟨cur.set k (.int .u8 x), ?_, by simpa using hl, fun i hi => ?_⟩
  · rw [heap_setCell_same w g k _ 5 _ hg]
    simp [List.setIfInBounds_toArray]
  · rw [he i hi, List.getElem?_set]
    by_cases hik : k = i
    · subst hik
      simp [hl, hi]
    · rw [if_neg hik, if_neg (fun e => hik e.symm)]
      exact hc i hi
theorem Hop.congr {w : World} {g N : Nat} {f f' : Nat → Int} (h : Hop w g N f) (he : ∀ i, i < N → f' i = f i) : Hop w g N f' := by
  obtain ⟨cur, hg, hl, hc⟩ := h
  exact ⟨cur, hg, hl, fun i hi => by rw [he i hi]; exact hc i hi⟩
theorem Hop.below {w w' : World} {g N B : Nat} {f : Nat → Int} (h : Hop w g N f) (hb : Below B w w') (hg : g < B) : Hop w' g N f := by
  obtain ⟨cur, h1, h2⟩ := h
  exact ⟨cur, (hb.block g hg).trans h1, h2⟩
theorem Hop.drewN {w : World} {g N : Nat} {f : Nat → Int} (h : Hop w g N f) (n : Nat) : Hop (w.drewN n) g N f := h
theorem Hop.of_made {w : World} {base g N : Nat} (h : w.ownsRow base 5 1 (.slice (some ⟨g, 0, none⟩) N N) N (madeCells #[.int .u8 0] N).toList) : Hop w g N (fun _ => 0) := by
  rcases h.2 with ⟨h0, _⟩ | ⟨g', cap, cur, hv, hb, hg, hnc, hcm, hsz, htk⟩
  · cases h0
  · cases hv
    rw [toList_madeCells_one, Nat.mul_one] at htk
    refine ⟨cur.toList, by simpa using hg, by simpa using hsz, fun i hi => ?_⟩
    rw [List.take_of_length_le (by simp; omega)] at htk
    rw [htk]
    simp [hi]
theorem Hop.bytes {w : World} {g N : Nat} {f : Nat → Int} (h : Hop w g N f) : Bytes w (some ⟨g, 0, none⟩) N f :=
  .inr ⟨g, 0, rfl, fun i hi => by rw [Nat.zero_add]; exact h.cell hi⟩
theorem Bytes.below {w w' : World} {a : Option Addr} {len B : Nat} {f : Nat → Int} (h : Bytes w a len f) (hb : Below B w w') (hB : w.heap.size ≤ B) : Bytes w' a len f := by
  rcases h with h | ⟨b, off, rfl, hc⟩
  · exact .inl h
  · refine .inr ⟨b, off, rfl, fun i hi => ?_⟩
    have := World.block_lt_of_cell? w _ (hc i hi)
    exact (hb.cell (p := ⟨b, off + i, none⟩) (by simp at this ⊢; omega)).trans (hc i hi)

/-- 'copy(hop[off:], src)': the hop behind it. -/
theorem wpList_copy_hop {w : World} {ops : Array Oper} {rest : List Oper} {o : Oper} {a : Act} {Q : Exit → Act → World → Prop} (hgd : o.guard = none) (d s : Operand)
    (ho : o.op = .call { callee := .builtin .copy, args := #[d, s], argTypes := #[23, 23] })
    (dp sp : Option Addr) (dLen dCap sLen sCap : Nat) (hd : a.eval d = .slice dp dLen dCap) (hs : a.eval s = .slice sp sLen sCap)
    (g off N m : Nat) (f fT : Nat → Int) (hop : Hop w g N f) (hm : m = Nat.min sLen dLen) (hsrc : Bytes w sp m fT) (hdp : 0 < m → dp = some ⟨g, off, none⟩)
    (hfit : off + m ≤ N) (B : Nat) (w0 : World) (hb : Below B w0 w) (hBg : B ≤ g)
    (h : ∀ w', Hop w' g N (fun i => if off ≤ i ∧ i < off + m then fT (i - off) else f i) → Below B w0 w' → wpList Ybad.prog ops Q rest (a.put o.dst (goInt m)) w') :
    wpList Ybad.prog ops Q (o :: rest) a w := by
  obtain ⟨cur, hg, hl, hc⟩ := hop
  refine wpList_copy_splice hgd d s 23 23 ho 5 Ybad.underlying23 (by kernel_rfl) dp sp dLen dCap sLen sCap hd hs g off cur 5 hg (vals fT m) (by rw [length_vals]; exact hm)
    (fun hp => ?_) (by rw [length_vals]; omega) (vals_one fT m) B w0 hb hBg ?_
  · rw [length_vals] at hp
    rcases hsrc with h0 | ⟨b, o', rfl, hcc⟩
    · omega
    · refine ⟨hdp hp, _, rfl, fun j v hj => ?_⟩
      have hjm : j < m := by
        have := (List.getElem?_eq_some_iff.1 hj).1
        rwa [length_vals] at this
      rw [vals_at fT m j hjm] at hj
      rw [show (⟨b, o', none⟩ : Addr).add j = ⟨b, o' + j, none⟩ by unfold Addr.add; split <;> simp_all]
      exact (hcc j hjm).trans hj
  · intro w' hw' hb'
    rw [length_vals]
    refine h w' ⟨_, hw'.out, by rw [length_splice _ _ _ (by rw [length_vals]; omega)]; exact hl, fun i hi => ?_⟩ hb'
    unfold splice
    rw [length_vals]
    show _ = some (Value.int .u8 (if off ≤ i ∧ i < off + m then fT (i - off) else f i))
    by_cases h1 : i < off
    · rw [if_neg (by omega), List.getElem?_append_left (by simp; omega), List.getElem?_take_of_lt h1]
      exact hc i hi
    · rw [List.getElem?_append_right (by simp; omega)]
      have e1 : (cur.take off).length = off := by simp; omega
      rw [e1]
      by_cases h2 : i < off + m
      · rw [if_pos ⟨by omega, h2⟩, List.getElem?_append_left (by rw [length_vals]; omega)]
        exact vals_at fT m (i - off) (by omega)
      · rw [if_neg (by omega), List.getElem?_append_right (by rw [length_vals]; omega), length_vals, List.getElem?_drop]
        rw [show off + m + (i - off - m) = i by omega]
        exact hc i hi

theorem byte_int (a : Option Addr) (len cap : Nat) (K : Int) (k : Nat) (f : Nat → Int) (w : World) (hK : K = k) (hk : k ≤ 1000000) (hlen : len ≤ 1048576) (hb : Bytes w a len f) :
    Calls Ybad.prog 4 #[.slice a len cap, .int .i64 K] w fun e w' => e = .returned (.int .u8 (bb f len k)) ∧ w' = w := by
  subst hK
  exact byte_any a len cap k f w hk hlen hb
end Go.Proofs.YbulkdlqeDoor
