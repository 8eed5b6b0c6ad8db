/-
  NOTIONS: bytes and rows; copies and appends.
-/
import Derived.Test.YbulkdlswDoorProg
import Derived.WalkKit
import Derived.WalkSpells
import Derived.WalkLawsBesides
import Derived.Deep.QuietTactic
import Derived.BigQuiet
import Derived.BigRegion
import Derived.Laws.CopyOwn
import Derived.Laws.OwnMore
import Derived.Shelf.RegionOpen
import Derived.Shelf.Abstract
import Derived.Deep.RegionWith
import Derived.Deep.DeepCutAuto
namespace Go.Proofs.YbulkdlswDoor
open Go.RowKit Go.Shelf

/-- What can be read of a slice of bytes. -/
def Bytes (w : World) (a : Option Addr) (len : Nat) (f : Nat → Nat) : Prop :=
  len = 0 ∨ ∃ b off, a = some ⟨b, off, none⟩ ∧ ∀ i, i < len → w.cell? ⟨b, off + i, none⟩ = some (.int .u8 (f i : Int))

/-- Block g is a row of bytes, the first N of which are f 0, f 1, .. -/
def Row (w : World) (g N : Nat) (f : Nat → Nat) : Prop :=
  ∃ cur : List Value, w.heap[g]? = some (.cells cur.toArray 5 (0, 0)) ∧ N ≤ cur.length ∧ ∀ i, i < N → cur[i]? = some (.int .u8 (f i : Int))

theorem ret_int {k : IntKind} {a b : Int} (h : a = b) : Ending.returned (.int k a) = .returned (.int k b) := by rw [h]

theorem bcell {W w1 : World} (hb : Below W.heap.size W w1) : (∀ b o, b < W.heap.size → w1.cell? ⟨b, o, none⟩ = W.cell? ⟨b, o, none⟩) ∧ (∀ b o, b < W.heap.size → w1.frozen? ⟨b, o, none⟩ = W.frozen? ⟨b, o, none⟩) :=
  ⟨fun b o h => hb.cell (p := ⟨b, o, none⟩) h, fun b o h => hb.frozen (p := ⟨b, o, none⟩) h⟩

theorem below_drewN (B : Nat) (w : World) (n : Nat) : Below B w (w.drewN n) := ⟨rfl, rfl, rfl, Nat.le_refl _, fun _ _ => rfl⟩

theorem Bytes.below {w w' : World} {a : Option Addr} {len B : Nat} {f : Nat → Nat} (h : Bytes w a len f) (hb : Below B w w') (hB : w.heap.size ≤ B) : Bytes w' a len f := by
  rcases h with h | ⟨b, off, rfl, hc⟩
  · exact .inl h
  · refine .inr ⟨b, off, rfl, fun i hi => ?_⟩
    have := World.block_lt_of_cell? w _ (hc i hi)
    exact (hb.cell (p := ⟨b, off + i, none⟩) (by simp at this ⊢; omega)).trans (hc i hi)
theorem Bytes.drewN {w : World} {a : Option Addr} {len : Nat} {f : Nat → Nat} (h : Bytes w a len f) (n : Nat) : Bytes (w.drewN n) a len f := h

theorem Row.cell {w : World} {g N : Nat} {f : Nat → Nat} (h : Row w g N f) {i : Nat} (hi : i < N) : w.cell? ⟨g, i, none⟩ = some (.int .u8 (f i : Int)) := by
  obtain ⟨cur, hg, _, hc⟩ := h
  rw [cell_of_row w g i _ 5 (0, 0) hg]
  simpa using hc i hi
theorem Row.frozen {w : World} {g N : Nat} {f : Nat → Nat} (h : Row w g N f) (i : Nat) : w.frozen? ⟨g, i, none⟩ = false := by
  obtain ⟨cur, hg, _⟩ := h
  exact frozen_of_row w g i _ 5 hg
theorem Row.lt {w : World} {g N : Nat} {f : Nat → Nat} (h : Row w g N f) : g < w.heap.size := by
  obtain ⟨cur, hg, _⟩ := h
  exact (Array.getElem?_eq_some_iff.1 hg).1
theorem Row.set {w : World} {g N : Nat} {f f' : Nat → Nat} (h : Row w g N f) (k : Nat) (x : Nat) (he : ∀ i, i < N → f' i = if i = k then x else f i) : Row (w.setCell ⟨g, k, none⟩ (.int .u8 (x : Int))) g N f' := by
  obtain ⟨cur, hg, hl, hc⟩ := h
  refine ⟨cur.set k (.int .u8 x), ?_, by simpa using hl, fun i hi => ?_⟩
  · rw [heap_setCell_same w g k _ 5 _ hg]
    simp [List.setIfInBounds_toArray]
  · rw [he i hi, List.getElem?_set]
    by_cases hik : k = i
    · subst hik
      simp [show k < cur.length by omega]
    · rw [if_neg hik, if_neg (fun e => hik e.symm)]
      exact hc i hi
theorem Row.congr {w : World} {g N : Nat} {f f' : Nat → Nat} (h : Row w g N f) (he : ∀ i, i < N → f' i = f i) : Row w g N f' := by
  obtain ⟨cur, hg, hl, hc⟩ := h
  exact ⟨cur, hg, hl, fun i hi => by rw [he i hi]; exact hc i hi⟩
theorem Row.shorter {w : World} {g N M : Nat} {f : Nat → Nat} (h : Row w g N f) (hM : M ≤ N) : Row w g M f := by
  obtain ⟨cur, hg, hl, hc⟩ := h
  exact ⟨cur, hg, by omega, fun i hi => hc i (by omega)⟩
theorem Row.block {w w' : World} {g N : Nat} {f : Nat → Nat} (h : Row w g N f) (hb : w'.heap[g]? = w.heap[g]?) : Row w' g N f := by
  obtain ⟨cur, h1, h2⟩ := h
  exact ⟨cur, hb.trans h1, h2⟩
theorem Row.below {w w' : World} {g N B : Nat} {f : Nat → Nat} (h : Row w g N f) (hb : Below B w w') (hg : g < B) : Row w' g N f := h.block (hb.block g hg)
theorem Row.drewN {w : World} {g N : Nat} {f : Nat → Nat} (h : Row w g N f) (n : Nat) : Row (w.drewN n) g N f := h
theorem Row.bytes {w : World} {g N : Nat} {f : Nat → Nat} (h : Row w g N f) : Bytes w (some ⟨g, 0, none⟩) N f :=
  .inr ⟨g, 0, rfl, fun i hi => by rw [Nat.zero_add]; exact h.cell hi⟩

/-- The first 'len' numbers, as values. -/
def vals (f : Nat → Nat) (len : Nat) : List Value := (List.range len).map fun i => .int .u8 (f i : Int)
theorem length_vals (f : Nat → Nat) (len : Nat) : (vals f len).length = len := by simp [vals]
theorem vals_at (f : Nat → Nat) (len j : Nat) (h : j < len) : (vals f len)[j]? = some (.int .u8 (f j : Int)) := by simp [vals, h]
theorem vals_one (f : Nat → Nat) (len : Nat) : ∀ u ∈ vals f len, u.oneCell' = true := by
  intro u hu
  simp only [vals, List.mem_map, List.mem_range] at hu
  obtain ⟨i, _, rfl⟩ := hu
  rfl
theorem vals_snoc (f : Nat → Nat) (n : Nat) : vals f (n + 1) = vals f n ++ [.int .u8 (f n : Int)] := by simp [vals, List.range_succ]

theorem Ybad.info5 : (Ybad.prog.info? 5).map (fun i => (i.zero, i.size, i.bytes)) = some (some (.int .u8 0), 1, 1) := by kernel_rfl

/-- 'copy(dst[off:], src)' into a row that the call itself made. -/
theorem wpList_copy_row {w : World} {ops : Array Oper} {rest : List Oper} {o : Oper} {a : Act} {Q : Exit → Act → World → Prop} (hgd : o.guard = none) (d s : Operand)
    (ho : o.op = .call { callee := .builtin .copy, args := #[d, s], argTypes := #[22, 22] })
    (dp sp : Option Addr) (dLen dCap sLen sCap : Nat) (hd : a.eval d = .slice dp dLen dCap) (hs : a.eval s = .slice sp sLen sCap)
    (g off N m : Nat) (f fT : Nat → Nat) (hop : Row w g N f) (hm : m = Nat.min sLen dLen) (hsrc : Bytes w sp m fT) (hdp : 0 < m → dp = some ⟨g, off, none⟩)
    (hfit : off + m ≤ N) (B : Nat) (w0 : World) (hb : Below B w0 w) (hBg : B ≤ g)
    (h : ∀ w', Row w' g N (fun i => if off ≤ i ∧ i < off + m then fT (i - off) else f i) → Below B w0 w' → wpList Ybad.prog ops Q rest (a.put o.dst (goInt m)) w') :
    wpList Ybad.prog ops Q (o :: rest) a w := by
  obtain ⟨cur, hg, hl, hc⟩ := hop
  refine wpList_copy_splice hgd d s 22 22 ho 5 Ybad.underlying22 (by kernel_rfl) dp sp dLen dCap sLen sCap hd hs g off cur 5 hg (vals fT m) (by rw [length_vals]; exact hm)
    (fun hp => ?_) (by rw [length_vals]; omega) (vals_one fT m) B w0 hb hBg ?_
  · rw [length_vals] at hp
    rcases hsrc with h0 | ⟨b, o', rfl, hcc⟩
    · omega
    · refine ⟨hdp hp, _, rfl, fun j v hj => ?_⟩
      have hjm : j < m := by
        have := (List.getElem?_eq_some_iff.1 hj).1
        rwa [length_vals] at this
      rw [vals_at fT m j hjm] at hj
      rw [show (⟨b, o', none⟩ : Addr).add j = ⟨b, o' + j, none⟩ by unfold Addr.add; split <;> simp_all]
      exact (hcc j hjm).trans hj
  · intro w' hw' hb'
    rw [length_vals]
    refine h w' ⟨_, hw'.out, by rw [length_splice _ _ _ (by rw [length_vals]; omega)]; exact hl, fun i hi => ?_⟩ hb'
    unfold splice
    rw [length_vals]
    show _ = some (Value.int .u8 ((if off ≤ i ∧ i < off + m then fT (i - off) else f i : Nat) : Int))
    by_cases h1 : i < off
    · rw [if_neg (by omega), List.getElem?_append_left (by simp; omega), List.getElem?_take_of_lt h1]
      exact hc i hi
    · rw [List.getElem?_append_right (by simp; omega)]
      have e1 : (cur.take off).length = off := by simp; omega
      rw [e1]
      by_cases h2 : i < off + m
      · rw [if_pos ⟨by omega, h2⟩, List.getElem?_append_left (by rw [length_vals]; omega)]
        exact vals_at fT m (i - off) (by omega)
      · rw [if_neg (by omega), List.getElem?_append_right (by rw [length_vals]; omega), length_vals, List.getElem?_drop]
        rw [show off + m + (i - off - m) = i by omega]
        exact hc i hi

theorem row_of_made {w : World} {base g N : Nat} (h : w.ownsRow base 5 1 (.slice (some ⟨g, 0, none⟩) N N) N (madeCells #[.int .u8 0] N).toList) : Row w g N (fun _ => 0) := by
  rcases h.2 with ⟨h0, _⟩ | ⟨g', cap, cur, hv, hb, hg, hnc, hcm, hsz, htk⟩
  · cases h0
  · cases hv
    rw [toList_madeCells_one, Nat.mul_one] at htk
    refine ⟨cur.toList, by simpa using hg, by simp; omega, fun i hi => ?_⟩
    rw [List.take_of_length_le (by simp; omega)] at htk
    rw [htk]
    simp [hi]

/-- Below block number B, but for block g, the world w' is as w was. -/
structure But (B g : Nat) (w w' : World) : Prop where
  os : w'.os = w.os
  tape : w'.tape = w.tape
  output : w'.output = w.output
  size : w.heap.size ≤ w'.heap.size
  block : ∀ k, k < B → k ≠ g → w'.heap[k]? = w.heap[k]?

theorem But.refl (B g : Nat) (w : World) : But B g w w := ⟨rfl, rfl, rfl, Nat.le_refl _, fun _ _ _ => rfl⟩
theorem But.trans {B g : Nat} {a b c : World} (h : But B g a b) (k : But B g b c) : But B g a c :=
  ⟨k.os.trans h.os, k.tape.trans h.tape, k.output.trans h.output, Nat.le_trans h.size k.size, fun i hi hg => (k.block i hi hg).trans (h.block i hi hg)⟩
theorem But.mono {B B' g : Nat} {w w' : World} (h : But B g w w') (hB : B' ≤ B) : But B' g w w' := ⟨h.os, h.tape, h.output, h.size, fun k hk hg => h.block k (Nat.lt_of_lt_of_le hk hB) hg⟩
theorem Below.but {B : Nat} {w w' : World} (h : Below B w w') (g : Nat) : But B g w w' := ⟨h.os, h.tape, h.output, h.size, fun k hk _ => h.block k hk⟩
theorem But.below {B g : Nat} {w w' : World} (h : But B g w w') (hB : B ≤ g) : Below B w w' := ⟨h.os, h.tape, h.output, h.size, fun k hk => h.block k hk (by omega)⟩
theorem But.setCell (B g : Nat) (w : World) (o : Nat) (v : Value) : But B g w (w.setCell ⟨g, o, none⟩ v) :=
  ⟨rfl, rfl, rfl, by simp [World.setCell], fun k _ hg => Below.heap_setCell _ _ _ _ hg⟩
theorem But.setOther {B g : Nat} {a w : World} (h : But B g a w) {p : Addr} (hp : B ≤ p.block) (v : Value) : But B g a (w.setCell p v) :=
  h.trans ⟨rfl, rfl, rfl, by simp [World.setCell], fun k hk _ => Below.heap_setCell _ _ _ _ (by omega)⟩
theorem But.cell {B g : Nat} {w w' : World} (h : But B g w w') {p : Addr} (hp : p.block < B) (hg : p.block ≠ g) : w'.cell? p = w.cell? p := World.cell?_of_block (w := w) (h.block p.block hp hg)
theorem Bytes.but {w w' : World} {b off len g B : Nat} {f : Nat → Nat} (h : Bytes w (some ⟨b, off, none⟩) len f) (hb : But B g w w') (hB : b < B) (hg : b ≠ g) : Bytes w' (some ⟨b, off, none⟩) len f := by
  rcases h with h | ⟨b', off', e, hc⟩
  · exact .inl h
  · cases e
    exact .inr ⟨b, off, rfl, fun i hi => (hb.cell (p := ⟨b, off + i, none⟩) hB hg).trans (hc i hi)⟩

theorem splice_row (cur : List Value) (f fT : Nat → Nat) (N off m : Nat) (hl : N ≤ cur.length) (hc : ∀ i, i < N → cur[i]? = some (.int .u8 (f i : Int))) (hfit : off + m ≤ N) (i : Nat) (hi : i < N) :
    (splice cur off (vals fT m))[i]? = some (.int .u8 ((if off ≤ i ∧ i < off + m then fT (i - off) else f i : Nat) : Int)) := by
  unfold splice
  rw [length_vals]
  show _ = some (Value.int .u8 ((if off ≤ i ∧ i < off + m then fT (i - off) else f i : Nat) : Int))
  by_cases h1 : i < off
  · rw [if_neg (by omega), List.getElem?_append_left (by simp; omega), List.getElem?_take_of_lt h1]
    exact hc i hi
  · rw [List.getElem?_append_right (by simp; omega)]
    have e1 : (cur.take off).length = off := by simp; omega
    rw [e1]
    by_cases h2 : i < off + m
    · rw [if_pos ⟨by omega, h2⟩, List.getElem?_append_left (by rw [length_vals]; omega)]
      exact vals_at fT m (i - off) (by omega)
    · rw [if_neg (by omega), List.getElem?_append_right (by rw [length_vals]; omega), length_vals, List.getElem?_drop]
      rw [show off + m + (i - off - m) = i by omega]
      exact hc i hi

/-- 'copy' into a row of the call's own as one step of a region that draws: of all else nothing turns. -/
theorem step_copy_but {ops : Array Oper} {o : Oper} {a : Act} {w : World} {K : Act → World → Prop} {Q : Exit → Act → World → Prop} {E : Prop} (hgd : o.guard = none) (d s : Operand)
    (ho : o.op = .call { callee := .builtin .copy, args := #[d, s], argTypes := #[22, 22] })
    (dp sp : Option Addr) (dLen dCap sLen sCap : Nat) (hd : a.eval d = .slice dp dLen dCap) (hs : a.eval s = .slice sp sLen sCap)
    (g off N m : Nat) (f fT : Nat → Nat) (hop : Row w g N f) (hm : m = Nat.min sLen dLen) (hsrc : Bytes w sp m fT) (hdp : 0 < m → dp = some ⟨g, off, none⟩) (hfit : off + m ≤ N)
    (h : ∀ w', Row w' g N (fun i => if off ≤ i ∧ i < off + m then fT (i - off) else f i) → (∀ B, But B g w w') → K (a.put o.dst (goInt m)) w') :
    if Region.wanted o (yielded ops a.tmps) = true then Oper.wp Ybad.prog o a w K Q else E := by
  have hw : Region.wanted o (yielded ops a.tmps) = true := by simp [Region.wanted, hgd]
  rw [if_pos hw]
  obtain ⟨cur, hg, hl, hc⟩ := hop
  by_cases h0 : m = 0
  · have hrun := run_copy_none (P := Ybad.prog) w 22 22 o.type 5 dp sp dLen dCap sLen sCap Ybad.underlying22 (by kernel_rfl) (by rw [← hm]; exact h0)
    unfold Oper.wp
    simp [execOp, ho, resolve, invoke, builtin, hd, hs, hrun, Result.andThen]
    have := h w ⟨cur, hg, hl, fun i hi => by show cur[i]? = some (Value.int .u8 ((if off ≤ i ∧ i < off + m then fT (i - off) else f i : Nat) : Int)); rw [if_neg (by omega)]; exact hc i hi⟩ (fun B => But.refl _ _ _)
    rw [h0] at this
    exact this
  · obtain rfl := hdp (by omega)
    rcases hsrc with hz | ⟨b, o', rfl, hcc⟩
    · exact absurd hz h0
    · have hrun := run_copy_row (P := Ybad.prog) w 22 22 o.type 5 g off dLen dCap ⟨b, o', none⟩ sLen sCap cur.toArray 5 (vals fT m) Ybad.underlying22 (by kernel_rfl) hg (by rw [length_vals]; exact hm)
        (fun j v hj => by
          have hjm : j < m := by
            have := (List.getElem?_eq_some_iff.1 hj).1
            rwa [length_vals] at this
          rw [vals_at fT m j hjm] at hj
          rw [show (⟨b, o', none⟩ : Addr).add j = ⟨b, o' + j, none⟩ by unfold Addr.add; split <;> simp_all]
          exact (hcc j hjm).trans hj) (by rw [length_vals]; simp; omega) (vals_one fT m)
      unfold Oper.wp
      simp [execOp, ho, resolve, invoke, builtin, hd, hs, hrun, Result.andThen]
      have := h _ ⟨splice cur off (vals fT m), setRow_heap w g _ _ 5 _ hg, by rw [length_splice _ _ _ (by rw [length_vals]; omega)]; exact hl, fun i hi => splice_row cur f fT N off m hl hc hfit i hi⟩ (fun B => ⟨rfl, rfl, rfl, by simp [World.setRow], fun k _ hk => setRow_other w g k _ hk⟩)
      simp [splice, length_vals] at this
      simp [length_vals]
      exact this

theorem Bytes.but' {w w' : World} {ad : Option Addr} {len g B : Nat} {f : Nat → Nat} (h : Bytes w ad len f) (hb : But B g w w') (hB : w.heap.size ≤ B) (hg : ∀ a, ad = some a → a.block ≠ g) : Bytes w' ad len f := by
  rcases h with h | ⟨b, off, rfl, hc⟩
  · exact .inl h
  · by_cases h0 : len = 0
    · exact .inl h0
    · have hlt := World.block_lt_of_cell? w _ (hc 0 (by omega))
      exact .inr ⟨b, off, rfl, fun i hi => (hb.cell (p := ⟨b, off + i, none⟩) (by simp at hlt ⊢; omega) (hg ⟨b, off, none⟩ rfl)).trans (hc i hi)⟩

/-- A row of bytes of the call's own, its slice's head at the block's. -/
def OwnB (w : World) (B g cap n : Nat) (f : Nat → Nat) : Prop := w.ownsRow B 5 1 (.slice (some ⟨g, 0, none⟩) n cap) n (vals f n)

theorem vals_congr {f f' : Nat → Nat} {n : Nat} (h : ∀ i, i < n → f i = f' i) : vals f n = vals f' n := by
  unfold vals
  apply List.map_congr_left
  intro i hi
  rw [h i (List.mem_range.1 hi)]
theorem vals_append (f fT : Nat → Nat) (n m : Nat) : vals f n ++ vals fT m = vals (fun i => if i < n then f i else fT (i - n)) (n + m) := by
  apply List.ext_getElem?
  intro i
  by_cases h : i < n
  · rw [List.getElem?_append_left (by rw [length_vals]; exact h), vals_at _ _ _ h, vals_at _ _ _ (by omega), if_pos h]
  · rw [List.getElem?_append_right (by rw [length_vals]; omega), length_vals]
    by_cases h2 : i - n < m
    · rw [vals_at _ _ _ h2, vals_at _ _ _ (by omega), if_neg h]
    · rw [List.getElem?_eq_none (by rw [length_vals]; omega), List.getElem?_eq_none (by rw [length_vals]; omega)]

theorem OwnB.row {w : World} {B g cap n : Nat} {f : Nat → Nat} (h : OwnB w B g cap n f) : Row w g n f ∧ B ≤ g ∧ n ≤ cap ∧ cap ≤ 9223372036854775807 := by
  rcases h.2 with ⟨h0, _⟩ | ⟨g', cap', cur, hv, hb, hg, hnc, hcm, hsz, htk⟩
  · cases h0
  · cases hv
    rw [Nat.mul_one] at htk hsz
    refine ⟨⟨cur.toList, by simpa using hg, by simp; omega, fun i hi => ?_⟩, hb, hnc, by simpa [maxLen] using hcm⟩
    have : (cur.toList.take n)[i]? = (vals f n)[i]? := by rw [htk]
    rw [vals_at _ _ _ hi, List.getElem?_take_of_lt hi] at this
    exact this
theorem OwnB.congr {w : World} {B g cap n : Nat} {f f' : Nat → Nat} (h : OwnB w B g cap n f) (he : ∀ i, i < n → f' i = f i) : OwnB w B g cap n f' := by
  unfold OwnB
  rw [vals_congr he]
  exact h
theorem OwnB.lt {w : World} {B g cap n : Nat} {f : Nat → Nat} (h : OwnB w B g cap n f) : B ≤ g ∧ g < w.heap.size := World.ownsRow.lt h g rfl

/-- 'append(b, x...)', b a row of the call's own, x bytes of another block. -/
theorem wpList_app (w : World) {ops : Array Oper} {rest : List Oper} {o : Oper} {a : Act} {Q : Exit → Act → World → Prop} (hgd : o.guard = none) (s x : Operand)
    (ho : o.op = .call { callee := .builtin .append, args := #[s, x], argTypes := #[22, 22] })
    (B g cap n : Nat) (f : Nat → Nat) (hs : a.eval s = .slice (some ⟨g, 0, none⟩) n cap) (hown : OwnB w B g cap n f)
    (xb xo m c : Nat) (fT : Nat → Nat) (hx : a.eval x = .slice (some ⟨xb, xo, none⟩) m c) (hcells : ∀ j, j < m → w.cell? ⟨xb, xo + j, none⟩ = some (.int .u8 (fT j : Int)))
    (h63 : n + m ≤ 4000000) (hbase : B ≤ w.heap.size)
    (h : ∀ g' cap' w', OwnB w' B g' cap' (n + m) (fun i => if i < n then f i else fT (i - n)) → Below B w w' → wpList Ybad.prog ops Q rest (a.put o.dst (.slice (some ⟨g', 0, none⟩) (n + m) cap')) w') : wpList Ybad.prog ops Q (o :: rest) a w := by
  obtain ⟨i0, hi, hz0, hz1, hz2⟩ := info_parts Ybad.info5
  refine wpList_append_own w hgd s x 22 ho B 5 i0 (.int .u8 0) 1 1 Ybad.underlying22 hi hz0 hz1 hz2 rfl (by decide) _ n (vals f n) hs hown ⟨xb, xo, none⟩ m c (vals fT m) hx (by rw [length_vals]; omega) (fun j u hj => ?_) (vals_one fT m) (by unfold maxLen; omega) (by omega) hbase ?_
  · have hjm : j < m := by
      have := (List.getElem?_eq_some_iff.1 hj).1
      rwa [length_vals] at this
    rw [vals_at fT m j hjm] at hj
    rw [show (⟨xb, xo, none⟩ : Addr).add j = ⟨xb, xo + j, none⟩ by unfold Addr.add; split <;> simp_all]
    exact (hcells j hjm).trans hj
  · intro v' w' hown' hgrow hnil
    rw [vals_append] at hown'
    have hbl : Below B w w' := (Below.refl _ _).grown hgrow hbase (fun k hk => (World.ownsRow.lt hown k hk).1)
    rcases hown'.2 with ⟨h0, _⟩ | ⟨g', cap', cur, hv, _⟩
    · have := (hnil.1 h0).1
      cases this
    · subst hv
      exact h g' cap' w' hown' hbl

/-- A literal's row. -/
theorem ownB_lit (w : World) (cs : Array Value) (n : Nat) (f : Nat → Nat) (B : Nat) (hB : B ≤ w.heap.size) (hcs : cs.toList = vals f n) (hn : n ≤ 1000) : OwnB (w.alloc (.cells cs 5)) B w.heap.size n n f := by
  have hl : cs.size = n := by rw [← Array.length_toList, hcs, length_vals]
  have := World.ownsRow_lit (base := B) (e := 5) (size := 1) w cs n hB (by unfold maxLen; omega) (by omega)
  unfold OwnB
  rw [← hcs]
  exact this
/-- 'append(nil, x...)', x bytes of some block. -/
theorem wpList_app_nil (w : World) {ops : Array Oper} {rest : List Oper} {o : Oper} {a : Act} {Q : Exit → Act → World → Prop} (hgd : o.guard = none) (s x : Operand)
    (ho : o.op = .call { callee := .builtin .append, args := #[s, x], argTypes := #[22, 22] })
    (B : Nat) (hs : a.eval s = .slice none 0 0)
    (xb xo m c : Nat) (fT : Nat → Nat) (hx : a.eval x = .slice (some ⟨xb, xo, none⟩) m c) (hcells : ∀ j, j < m → w.cell? ⟨xb, xo + j, none⟩ = some (.int .u8 (fT j : Int)))
    (hm : 0 < m) (h63 : m ≤ 4000000) (hbase : B ≤ w.heap.size)
    (h : ∀ g' cap' w', OwnB w' B g' cap' m fT → Below B w w' → wpList Ybad.prog ops Q rest (a.put o.dst (.slice (some ⟨g', 0, none⟩) m cap')) w') : wpList Ybad.prog ops Q (o :: rest) a w := by
  obtain ⟨i0, hi, hz0, hz1, hz2⟩ := info_parts Ybad.info5
  refine wpList_append_own w hgd s x 22 ho B 5 i0 (.int .u8 0) 1 1 Ybad.underlying22 hi hz0 hz1 hz2 rfl (by decide) _ 0 [] hs (World.ownsRow_nil _ _ _ _) ⟨xb, xo, none⟩ m c (vals fT m) hx (by rw [length_vals]; omega) (fun j u hj => ?_) (vals_one fT m) (by unfold maxLen; omega) (by omega) hbase ?_
  · have hjm : j < m := by
      have := (List.getElem?_eq_some_iff.1 hj).1
      rwa [length_vals] at this
    rw [vals_at fT m j hjm] at hj
    rw [show (⟨xb, xo, none⟩ : Addr).add j = ⟨xb, xo + j, none⟩ by unfold Addr.add; split <;> simp_all]
    exact (hcells j hjm).trans hj
  · intro v' w' hown' hgrow hnil
    rw [Nat.zero_add, List.nil_append] at hown'
    have hbl : Below B w w' := (Below.refl _ _).grown hgrow hbase (fun k hk => by cases hk)
    rcases hown'.2 with ⟨_, h0⟩ | ⟨g', cap', cur, hv, _⟩
    · omega
    · subst hv
      exact h g' cap' w' hown' hbl
end Go.Proofs.YbulkdlswDoor
