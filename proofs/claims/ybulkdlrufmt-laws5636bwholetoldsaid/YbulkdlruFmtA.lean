/-
  NOTIONS: bytes and rows; copies and appends.
-/
import Derived.Test.YbulkdlruFmtProg
import Derived.WalkKit
import Derived.WalkSpells
import Derived.WalkLawsBesides
import Derived.Deep.QuietTactic
import Derived.BigQuiet
import Derived.BigRegion
import Derived.Laws.CopyOwn
import Derived.Laws.OwnMore
import Derived.Shelf.RegionOpen
import Derived.Shelf.Abstract
import Derived.Deep.RegionWith
import Derived.Deep.DeepCutAuto
import Derived.Laws.BytesArg
import Derived.MapKept
import Derived.Laws.StructEq
import Derived.Laws.AppendOwnNone
import Derived.Lib.SliceRun
import Derived.Deep.CutBlock
namespace Go.Proofs.YbulkdlruFmt
open Go.RowKit Go.Shelf

/-- What can be read of a slice of bytes. -/
def Bytes (w : World) (a : Option Addr) (len : Nat) (f : Nat → Nat) : Prop :=
  len = 0 ∨ ∃ b off, a = some ⟨b, off, none⟩ ∧ ∀ i, i < len → w.cell? ⟨b, off + i, none⟩ = some (.int .u8 (f i : Int))

/-- Block g is a row of bytes, the first N of which are f 0, f 1, .. -/
def Row (w : World) (g N : Nat) (f : Nat → Nat) : Prop :=
  ∃ cur : List Value, w.heap[g]? = some (.cells cur.toArray 5 (0, 0)) ∧ N ≤ cur.length ∧ ∀ i, i < N → cur[i]? = some (.int .u8 (f i : Int))

theorem ret_int {k : IntKind} {a b : Int} (h : a = b) : Ending.returned (.int k a) = .returned (.int k b) := by rw [h]

theorem bcell {W w1 : World} (hb : Below W.heap.size W w1) : (∀ b o, b < W.heap.size → w1.cell? ⟨b, o, none⟩ = W.cell? ⟨b, o, none⟩) ∧ (∀ b o, b < W.heap.size → w1.frozen? ⟨b, o, none⟩ = W.frozen? ⟨b, o, none⟩) :=
  ⟨fun b o h => hb.cell (p := ⟨b, o, none⟩) h, fun b o h => hb.frozen (p := ⟨b, o, none⟩) h⟩

theorem below_drewN (B : Nat) (w : World) (n : Nat) : Below B w (w.drewN n) := ⟨rfl, rfl, rfl, Nat.le_refl _, fun _ _ => rfl⟩

theorem Bytes.below {w w' : World} {a : Option Addr} {len B : Nat} {f : Nat → Nat} (h : Bytes w a len f) (hb : Below B w w') (hB : w.heap.size ≤ B) : Bytes w' a len f := by
  rcases h with h | ⟨b, off, rfl, hc⟩
  · exact .inl h
  · refine .inr ⟨b, off, rfl, fun i hi => ?_⟩
    have := World.block_lt_of_cell? w _ (hc i hi)
    exact (hb.cell (p := ⟨b, off + i, none⟩) (by simp at this ⊢; omega)).trans (hc i hi)
theorem Bytes.drewN {w : World} {a : Option Addr} {len : Nat} {f : Nat → Nat} (h : Bytes w a len f) (n : Nat) : Bytes (w.drewN n) a len f := h

theorem Row.cell {w : World} {g N : Nat} {f : Nat → Nat} (h : Row w g N f) {i : Nat} (hi : i < N) : w.cell? ⟨g, i, none⟩ = some (.int .u8 (f i : Int)) := by
  obtain ⟨cur, hg, _, hc⟩ := h
  rw [cell_of_row w g i _ 5 (0, 0) hg]
  simpa using hc i hi
theorem Row.frozen {w : World} {g N : Nat} {f : Nat → Nat} (h : Row w g N f) (i : Nat) : w.frozen? ⟨g, i, none⟩ = false := by
  obtain ⟨cur, hg, _⟩ := h
  exact frozen_of_row w g i _ 5 hg
theorem Row.lt {w : World} {g N : Nat} {f : Nat → Nat} (h : Row w g N f) : g < w.heap.size := by
  obtain ⟨cur, hg, _⟩ := h
  exact (Array.getElem?_eq_some_iff.1 hg).1
theorem Row.set {w : World} {g N : Nat} {f f' : Nat → Nat} (h : Row w g N f) (k : Nat) (x : Nat) (he : ∀ i, i < N → f' i = if i = k then x else f i) : Row (w.setCell ⟨g, k, none⟩ (.int .u8 (x : Int))) g N f' := by
  obtain ⟨cur, hg, hl, hc⟩ := h
  refine ⟨cur.set k (.int .u8 x), ?_, by simpa using hl, fun i hi => ?_⟩
  · rw [heap_setCell_same w g k _ 5 _ hg]
    simp [List.setIfInBounds_toArray]
  · rw [he i hi, List.getElem?_set]
    by_cases hik : k = i
    · subst hik
      simp [show k < cur.length by omega]
    · rw [if_neg hik, if_neg (fun e => hik e.symm)]
      exact hc i hi
theorem Row.congr {w : World} {g N : Nat} {f f' : Nat → Nat} (h : Row w g N f) (he : ∀ i, i < N → f' i = f i) : Row w g N f' := by
  obtain ⟨cur, hg, hl, hc⟩ := h
  exact ⟨cur, hg, hl, fun i hi => by rw [he i hi]; exact hc i hi⟩
theorem Row.shorter {w : World} {g N M : Nat} {f : Nat → Nat} (h : Row w g N f) (hM : M ≤ N) : Row w g M f := by
  obtain ⟨cur, hg, hl, hc⟩ := h
  exact ⟨cur, hg, by omega, fun i hi => hc i (by omega)⟩
theorem Row.block {w w' : World} {g N : Nat} {f : Nat → Nat} (h : Row w g N f) (hb : w'.heap[g]? = w.heap[g]?) : Row w' g N f := by
  obtain ⟨cur, h1, h2⟩ := h
  exact ⟨cur, hb.trans h1, h2⟩
theorem Row.below {w w' : World} {g N B : Nat} {f : Nat → Nat} (h : Row w g N f) (hb : Below B w w') (hg : g < B) : Row w' g N f := h.block (hb.block g hg)
theorem Row.drewN {w : World} {g N : Nat} {f : Nat → Nat} (h : Row w g N f) (n : Nat) : Row (w.drewN n) g N f := h
theorem Row.bytes {w : World} {g N : Nat} {f : Nat → Nat} (h : Row w g N f) : Bytes w (some ⟨g, 0, none⟩) N f :=
  .inr ⟨g, 0, rfl, fun i hi => by rw [Nat.zero_add]; exact h.cell hi⟩

/-- The first 'len' numbers, as values. -/
def vals (f : Nat → Nat) (len : Nat) : List Value := (List.range len).map fun i => .int .u8 (f i : Int)
theorem length_vals (f : Nat → Nat) (len : Nat) : (vals f len).length = len := by simp [vals]
theorem vals_at (f : Nat → Nat) (len j : Nat) (h : j < len) : (vals f len)[j]? = some (.int .u8 (f j : Int)) := by simp [vals, h]
theorem vals_one (f : Nat → Nat) (len : Nat) : ∀ u ∈ vals f len, u.oneCell' = true := by
  intro u hu
  simp only [vals, List.mem_map, List.mem_range] at hu
  obtain ⟨i, _, rfl⟩ := hu
  rfl
theorem vals_snoc (f : Nat → Nat) (n : Nat) : vals f (n + 1) = vals f n ++ [.int .u8 (f n : Int)] := by simp [vals, List.range_succ]

theorem Ybaf.info5 : (Ybaf.prog.info? 5).map (fun i => (i.zero, i.size, i.bytes)) = some (some (.int .u8 0), 1, 1) := by kernel_rfl

/-- 'copy(dst[off:], src)' into a row that the call itself made. -/
theorem wpList_copy_row {w : World} {ops : Array Oper} {rest : List Oper} {o : Oper} {a : Act} {Q : Exit → Act → World → Prop} (hgd : o.guard = none) (d s : Operand)
    (ho : o.op = .call { callee := .builtin .copy, args := #[d, s], argTypes := #[33, 33] })
    (dp sp : Option Addr) (dLen dCap sLen sCap : Nat) (hd : a.eval d = .slice dp dLen dCap) (hs : a.eval s = .slice sp sLen sCap)
    (g off N m : Nat) (f fT : Nat → Nat) (hop : Row w g N f) (hm : m = Nat.min sLen dLen) (hsrc : Bytes w sp m fT) (hdp : 0 < m → dp = some ⟨g, off, none⟩)
    (hfit : off + m ≤ N) (B : Nat) (w0 : World) (hb : Below B w0 w) (hBg : B ≤ g)
    (h : ∀ w', Row w' g N (fun i => if off ≤ i ∧ i < off + m then fT (i - off) else f i) → Below B w0 w' → wpList Ybaf.prog ops Q rest (a.put o.dst (goInt m)) w') :
    wpList Ybaf.prog ops Q (o :: rest) a w := by
  obtain ⟨cur, hg, hl, hc⟩ := hop
  refine wpList_copy_splice hgd d s 33 33 ho 5 Ybaf.underlying33 (by kernel_rfl) dp sp dLen dCap sLen sCap hd hs g off cur 5 hg (vals fT m) (by rw [length_vals]; exact hm)
    (fun hp => ?_) (by rw [length_vals]; omega) (vals_one fT m) B w0 hb hBg ?_
  · rw [length_vals] at hp
    rcases hsrc with h0 | ⟨b, o', rfl, hcc⟩
    · omega
    · refine ⟨hdp hp, _, rfl, fun j v hj => ?_⟩
      have hjm : j < m := by
        have := (List.getElem?_eq_some_iff.1 hj).1
        rwa [length_vals] at this
      rw [vals_at fT m j hjm] at hj
      rw [show (⟨b, o', none⟩ : Addr).add j = ⟨b, o' + j, none⟩ by unfold Addr.add; split <;> simp_all]
      exact (hcc j hjm).trans hj
  · intro w' hw' hb'
    rw [length_vals]
    refine h w' ⟨_, hw'.out, by rw [length_splice _ _ _ (by rw [length_vals]; omega)]; exact hl, fun i hi => ?_⟩ hb'
    unfold splice
    rw [length_vals]
    show _ = some (Value.int .u8 ((if off ≤ i ∧ i < off + m then fT (i - off) else f i : Nat) : Int))
    by_cases h1 : i < off
    · rw [if_neg (by omega), List.getElem?_append_left (by simp; omega), List.getElem?_take_of_lt h1]
      exact hc i hi
    · rw [List.getElem?_append_right (by simp; omega)]
      have e1 : (cur.take off).length = off := by simp; omega
      rw [e1]
      by_cases h2 : i < off + m
      · rw [if_pos ⟨by omega, h2⟩, List.getElem?_append_left (by rw [length_vals]; omega)]
        exact vals_at fT m (i - off) (by omega)
      · rw [if_neg (by omega), List.getElem?_append_right (by rw [length_vals]; omega), length_vals, List.getElem?_drop]
        rw [show off + m + (i - off - m) = i by omega]
        exact hc i hi

theorem row_of_made {w : World} {base g N : Nat} (h : w.ownsRow base 5 1 (.slice (some ⟨g, 0, none⟩) N N) N (madeCells #[.int .u8 0] N).toList) : Row w g N (fun _ => 0) := by
  rcases h.2 with ⟨h0, _⟩ | ⟨g', cap, cur, hv, hb, hg, hnc, hcm, hsz, htk⟩
  · cases h0
  · cases hv
    rw [toList_madeCells_one, Nat.mul_one] at htk
    refine ⟨cur.toList, by simpa using hg, by simp; omega, fun i hi => ?_⟩
    rw [List.take_of_length_le (by simp; omega)] at htk
    rw [htk]
    simp [hi]

/-- Below block number B, but for block g, the world w' is as w was. -/
structure But (B g : Nat) (w w' : World) : Prop where
  os : w'.os = w.os
  tape : w'.tape = w.tape
  output : w'.output = w.output
  size : w.heap.size ≤ w'.heap.size
  block : ∀ k, k < B → k ≠ g → w'.heap[k]? = w.heap[k]?

theorem But.refl (B g : Nat) (w : World) : But B g w w := ⟨rfl, rfl, rfl, Nat.le_refl _, fun _ _ _ => rfl⟩
theorem But.trans {B g : Nat} {a b c : World} (h : But B g a b) (k : But B g b c) : But B g a c :=
  ⟨k.os.trans h.os, k.tape.trans h.tape, k.output.trans h.output, Nat.le_trans h.size k.size, fun i hi hg => (k.block i hi hg).trans (h.block i hi hg)⟩
theorem But.mono {B B' g : Nat} {w w' : World} (h : But B g w w') (hB : B' ≤ B) : But B' g w w' := ⟨h.os, h.tape, h.output, h.size, fun k hk hg => h.block k (Nat.lt_of_lt_of_le hk hB) hg⟩
theorem Below.but {B : Nat} {w w' : World} (h : Below B w w') (g : Nat) : But B g w w' := ⟨h.os, h.tape, h.output, h.size, fun k hk _ => h.block k hk⟩
theorem But.below {B g : Nat} {w w' : World} (h : But B g w w') (hB : B ≤ g) : Below B w w' := ⟨h.os, h.tape, h.output, h.size, fun k hk => h.block k hk (by omega)⟩
theorem But.setCell (B g : Nat) (w : World) (o : Nat) (v : Value) : But B g w (w.setCell ⟨g, o, none⟩ v) :=
  ⟨rfl, rfl, rfl, by simp [World.setCell], fun k _ hg => Below.heap_setCell _ _ _ _ hg⟩
theorem But.setOther {B g : Nat} {a w : World} (h : But B g a w) {p : Addr} (hp : B ≤ p.block) (v : Value) : But B g a (w.setCell p v) :=
  h.trans ⟨rfl, rfl, rfl, by simp [World.setCell], fun k hk _ => Below.heap_setCell _ _ _ _ (by omega)⟩
theorem But.cell {B g : Nat} {w w' : World} (h : But B g w w') {p : Addr} (hp : p.block < B) (hg : p.block ≠ g) : w'.cell? p = w.cell? p := World.cell?_of_block (w := w) (h.block p.block hp hg)
theorem Bytes.but {w w' : World} {b off len g B : Nat} {f : Nat → Nat} (h : Bytes w (some ⟨b, off, none⟩) len f) (hb : But B g w w') (hB : b < B) (hg : b ≠ g) : Bytes w' (some ⟨b, off, none⟩) len f := by
  rcases h with h | ⟨b', off', e, hc⟩
  · exact .inl h
  · cases e
    exact .inr ⟨b, off, rfl, fun i hi => (hb.cell (p := ⟨b, off + i, none⟩) hB hg).trans (hc i hi)⟩

theorem splice_row (cur : List Value) (f fT : Nat → Nat) (N off m : Nat) (hl : N ≤ cur.length) (hc : ∀ i, i < N → cur[i]? = some (.int .u8 (f i : Int))) (hfit : off + m ≤ N) (i : Nat) (hi : i < N) :
    (splice cur off (vals fT m))[i]? = some (.int .u8 ((if off ≤ i ∧ i < off + m then fT (i - off) else f i : Nat) : Int)) := by
  unfold splice
  rw [length_vals]
  show _ = some (Value.int .u8 ((if off ≤ i ∧ i < off + m then fT (i - off) else f i : Nat) : Int))
  by_cases h1 : i < off
  · rw [if_neg (by omega), List.getElem?_append_left (by simp; omega), List.getElem?_take_of_lt h1]
    exact hc i hi
  · rw [List.getElem?_append_right (by simp; omega)]
    have e1 : (cur.take off).length = off := by simp; omega
    rw [e1]
    by_cases h2 : i < off + m
    · rw [if_pos ⟨by omega, h2⟩, List.getElem?_append_left (by rw [length_vals]; omega)]
      exact vals_at fT m (i - off) (by omega)
    · rw [if_neg (by omega), List.getElem?_append_right (by rw [length_vals]; omega), length_vals, List.getElem?_drop]
      rw [show off + m + (i - off - m) = i by omega]
      exact hc i hi

/-- 'copy' into a row of the call's own as one step of a region that draws: of all else nothing turns. -/
theorem step_copy_but {ops : Array Oper} {o : Oper} {a : Act} {w : World} {K : Act → World → Prop} {Q : Exit → Act → World → Prop} {E : Prop} (hgd : o.guard = none) (d s : Operand)
    (ho : o.op = .call { callee := .builtin .copy, args := #[d, s], argTypes := #[33, 33] })
    (dp sp : Option Addr) (dLen dCap sLen sCap : Nat) (hd : a.eval d = .slice dp dLen dCap) (hs : a.eval s = .slice sp sLen sCap)
    (g off N m : Nat) (f fT : Nat → Nat) (hop : Row w g N f) (hm : m = Nat.min sLen dLen) (hsrc : Bytes w sp m fT) (hdp : 0 < m → dp = some ⟨g, off, none⟩) (hfit : off + m ≤ N)
    (h : ∀ w', Row w' g N (fun i => if off ≤ i ∧ i < off + m then fT (i - off) else f i) → (∀ B, But B g w w') → K (a.put o.dst (goInt m)) w') :
    if Region.wanted o (yielded ops a.tmps) = true then Oper.wp Ybaf.prog o a w K Q else E := by
  have hw : Region.wanted o (yielded ops a.tmps) = true := by simp [Region.wanted, hgd]
  rw [if_pos hw]
  obtain ⟨cur, hg, hl, hc⟩ := hop
  by_cases h0 : m = 0
  · have hrun := run_copy_none (P := Ybaf.prog) w 33 33 o.type 5 dp sp dLen dCap sLen sCap Ybaf.underlying33 (by kernel_rfl) (by rw [← hm]; exact h0)
    unfold Oper.wp
    simp [execOp, ho, resolve, invoke, builtin, hd, hs, hrun, Result.andThen]
    have := h w ⟨cur, hg, hl, fun i hi => by show cur[i]? = some (Value.int .u8 ((if off ≤ i ∧ i < off + m then fT (i - off) else f i : Nat) : Int)); rw [if_neg (by omega)]; exact hc i hi⟩ (fun B => But.refl _ _ _)
    rw [h0] at this
    exact this
  · obtain rfl := hdp (by omega)
    rcases hsrc with hz | ⟨b, o', rfl, hcc⟩
    · exact absurd hz h0
    · have hrun := run_copy_row (P := Ybaf.prog) w 33 33 o.type 5 g off dLen dCap ⟨b, o', none⟩ sLen sCap cur.toArray 5 (vals fT m) Ybaf.underlying33 (by kernel_rfl) hg (by rw [length_vals]; exact hm)
        (fun j v hj => by
          have hjm : j < m := by
            have := (List.getElem?_eq_some_iff.1 hj).1
            rwa [length_vals] at this
          rw [vals_at fT m j hjm] at hj
          rw [show (⟨b, o', none⟩ : Addr).add j = ⟨b, o' + j, none⟩ by unfold Addr.add; split <;> simp_all]
          exact (hcc j hjm).trans hj) (by rw [length_vals]; simp; omega) (vals_one fT m)
      unfold Oper.wp
      simp [execOp, ho, resolve, invoke, builtin, hd, hs, hrun, Result.andThen]
      have := h _ ⟨splice cur off (vals fT m), setRow_heap w g _ _ 5 _ hg, by rw [length_splice _ _ _ (by rw [length_vals]; omega)]; exact hl, fun i hi => splice_row cur f fT N off m hl hc hfit i hi⟩ (fun B => ⟨rfl, rfl, rfl, by simp [World.setRow], fun k _ hk => setRow_other w g k _ hk⟩)
      simp [splice, length_vals] at this
      simp [length_vals]
      exact this

theorem Bytes.but' {w w' : World} {ad : Option Addr} {len g B : Nat} {f : Nat → Nat} (h : Bytes w ad len f) (hb : But B g w w') (hB : w.heap.size ≤ B) (hg : ∀ a, ad = some a → a.block ≠ g) : Bytes w' ad len f := by
  rcases h with h | ⟨b, off, rfl, hc⟩
  · exact .inl h
  · by_cases h0 : len = 0
    · exact .inl h0
    · have hlt := World.block_lt_of_cell? w _ (hc 0 (by omega))
      exact .inr ⟨b, off, rfl, fun i hi => (hb.cell (p := ⟨b, off + i, none⟩) (by simp at hlt ⊢; omega) (hg ⟨b, off, none⟩ rfl)).trans (hc i hi)⟩

/-- A row of bytes of the call's own, its slice's head at the block's. -/
def OwnB (w : World) (B g cap n : Nat) (f : Nat → Nat) : Prop := w.ownsRow B 5 1 (.slice (some ⟨g, 0, none⟩) n cap) n (vals f n)

theorem vals_congr {f f' : Nat → Nat} {n : Nat} (h : ∀ i, i < n → f i = f' i) : vals f n = vals f' n := by
  unfold vals
  apply List.map_congr_left
  intro i hi
  rw [h i (List.mem_range.1 hi)]
theorem vals_append (f fT : Nat → Nat) (n m : Nat) : vals f n ++ vals fT m = vals (fun i => if i < n then f i else fT (i - n)) (n + m) := by
  apply List.ext_getElem?
  intro i
  by_cases h : i < n
  · rw [List.getElem?_append_left (by rw [length_vals]; exact h), vals_at _ _ _ h, vals_at _ _ _ (by omega), if_pos h]
  · rw [List.getElem?_append_right (by rw [length_vals]; omega), length_vals]
    by_cases h2 : i - n < m
    · rw [vals_at _ _ _ h2, vals_at _ _ _ (by omega), if_neg h]
    · rw [List.getElem?_eq_none (by rw [length_vals]; omega), List.getElem?_eq_none (by rw [length_vals]; omega)]

theorem OwnB.row {w : World} {B g cap n : Nat} {f : Nat → Nat} (h : OwnB w B g cap n f) : Row w g n f ∧ B ≤ g ∧ n ≤ cap ∧ cap ≤ 9223372036854775807 := by
  rcases h.2 with ⟨h0, _⟩ | ⟨g', cap', cur, hv, hb, hg, hnc, hcm, hsz, htk⟩
  · cases h0
  · cases hv
    rw [Nat.mul_one] at htk hsz
    refine ⟨⟨cur.toList, by simpa using hg, by simp; omega, fun i hi => ?_⟩, hb, hnc, by simpa [maxLen] using hcm⟩
    have : (cur.toList.take n)[i]? = (vals f n)[i]? := by rw [htk]
    rw [vals_at _ _ _ hi, List.getElem?_take_of_lt hi] at this
    exact this
theorem OwnB.congr {w : World} {B g cap n : Nat} {f f' : Nat → Nat} (h : OwnB w B g cap n f) (he : ∀ i, i < n → f' i = f i) : OwnB w B g cap n f' := by
  unfold OwnB
  rw [vals_congr he]
  exact h
theorem OwnB.lt {w : World} {B g cap n : Nat} {f : Nat → Nat} (h : OwnB w B g cap n f) : B ≤ g ∧ g < w.heap.size := World.ownsRow.lt h g rfl

/-- 'append(b, x...)', b a row of the call's own, x bytes of another block. -/
theorem wpList_app (w : World) {ops : Array Oper} {rest : List Oper} {o : Oper} {a : Act} {Q : Exit → Act → World → Prop} (hgd : o.guard = none) (s x : Operand)
    (ho : o.op = .call { callee := .builtin .append, args := #[s, x], argTypes := #[33, 33] })
    (B g cap n : Nat) (f : Nat → Nat) (hs : a.eval s = .slice (some ⟨g, 0, none⟩) n cap) (hown : OwnB w B g cap n f)
    (xb xo m c : Nat) (fT : Nat → Nat) (hx : a.eval x = .slice (some ⟨xb, xo, none⟩) m c) (hcells : ∀ j, j < m → w.cell? ⟨xb, xo + j, none⟩ = some (.int .u8 (fT j : Int)))
    (h63 : n + m ≤ 1000000000) (hbase : B ≤ w.heap.size)
    (h : ∀ g' cap' w', OwnB w' B g' cap' (n + m) (fun i => if i < n then f i else fT (i - n)) → Below B w w' → wpList Ybaf.prog ops Q rest (a.put o.dst (.slice (some ⟨g', 0, none⟩) (n + m) cap')) w') : wpList Ybaf.prog ops Q (o :: rest) a w := by
  obtain ⟨i0, hi, hz0, hz1, hz2⟩ := info_parts Ybaf.info5
  refine wpList_append_own w hgd s x 33 ho B 5 i0 (.int .u8 0) 1 1 Ybaf.underlying33 hi hz0 hz1 hz2 rfl (by decide) _ n (vals f n) hs hown ⟨xb, xo, none⟩ m c (vals fT m) hx (by rw [length_vals]; omega) (fun j u hj => ?_) (vals_one fT m) (by unfold maxLen; omega) (by omega) hbase ?_
  · have hjm : j < m := by
      have := (List.getElem?_eq_some_iff.1 hj).1
      rwa [length_vals] at this
    rw [vals_at fT m j hjm] at hj
    rw [show (⟨xb, xo, none⟩ : Addr).add j = ⟨xb, xo + j, none⟩ by unfold Addr.add; split <;> simp_all]
    exact (hcells j hjm).trans hj
  · intro v' w' hown' hgrow hnil
    rw [vals_append] at hown'
    have hbl : Below B w w' := (Below.refl _ _).grown hgrow hbase (fun k hk => (World.ownsRow.lt hown k hk).1)
    rcases hown'.2 with ⟨h0, _⟩ | ⟨g', cap', cur, hv, _⟩
    · have := (hnil.1 h0).1
      cases this
    · subst hv
      exact h g' cap' w' hown' hbl

/-- A literal's row. -/
theorem ownB_lit (w : World) (cs : Array Value) (n : Nat) (f : Nat → Nat) (B : Nat) (hB : B ≤ w.heap.size) (hcs : cs.toList = vals f n) (hn : n ≤ 1000) : OwnB (w.alloc (.cells cs 5)) B w.heap.size n n f := by
  have hl : cs.size = n := by rw [← Array.length_toList, hcs, length_vals]
  have := World.ownsRow_lit (base := B) (e := 5) (size := 1) w cs n hB (by unfold maxLen; omega) (by omega)
  unfold OwnB
  rw [← hcs]
  exact this
/-- 'append(nil, x...)', x bytes of some block. -/
theorem wpList_app_nil (w : World) {ops : Array Oper} {rest : List Oper} {o : Oper} {a : Act} {Q : Exit → Act → World → Prop} (hgd : o.guard = none) (s x : Operand)
    (ho : o.op = .call { callee := .builtin .append, args := #[s, x], argTypes := #[33, 33] })
    (B : Nat) (hs : a.eval s = .slice none 0 0)
    (xb xo m c : Nat) (fT : Nat → Nat) (hx : a.eval x = .slice (some ⟨xb, xo, none⟩) m c) (hcells : ∀ j, j < m → w.cell? ⟨xb, xo + j, none⟩ = some (.int .u8 (fT j : Int)))
    (hm : 0 < m) (h63 : m ≤ 1000000000) (hbase : B ≤ w.heap.size)
    (h : ∀ g' cap' w', OwnB w' B g' cap' m fT → Below B w w' → wpList Ybaf.prog ops Q rest (a.put o.dst (.slice (some ⟨g', 0, none⟩) m cap')) w') : wpList Ybaf.prog ops Q (o :: rest) a w := by
  obtain ⟨i0, hi, hz0, hz1, hz2⟩ := info_parts Ybaf.info5
  refine wpList_append_own w hgd s x 33 ho B 5 i0 (.int .u8 0) 1 1 Ybaf.underlying33 hi hz0 hz1 hz2 rfl (by decide) _ 0 [] hs (World.ownsRow_nil _ _ _ _) ⟨xb, xo, none⟩ m c (vals fT m) hx (by rw [length_vals]; omega) (fun j u hj => ?_) (vals_one fT m) (by unfold maxLen; omega) (by omega) hbase ?_
  · have hjm : j < m := by
      have := (List.getElem?_eq_some_iff.1 hj).1
      rwa [length_vals] at this
    rw [vals_at fT m j hjm] at hj
    rw [show (⟨xb, xo, none⟩ : Addr).add j = ⟨xb, xo + j, none⟩ by unfold Addr.add; split <;> simp_all]
    exact (hcells j hjm).trans hj
  · intro v' w' hown' hgrow hnil
    rw [Nat.zero_add, List.nil_append] at hown'
    have hbl : Below B w w' := (Below.refl _ _).grown hgrow hbase (fun k hk => by cases hk)
    rcases hown'.2 with ⟨_, h0⟩ | ⟨g', cap', cur, hv, _⟩
    · omega
    · subst hv
      exact h g' cap' w' hown' hbl
/-- Of all blocks but those listed nothing has turned. -/
structure Same (ex : List Nat) (w w' : World) : Prop where
  os : w'.os = w.os
  tape : w'.tape = w.tape
  output : w'.output = w.output
  size : w.heap.size ≤ w'.heap.size
  block : ∀ k, k < w.heap.size → k ∉ ex → w'.heap[k]? = w.heap[k]?
theorem Same.refl (ex : List Nat) (w : World) : Same ex w w := ⟨rfl, rfl, rfl, Nat.le_refl _, fun _ _ _ => rfl⟩
theorem Same.trans {ex : List Nat} {a b c : World} (h : Same ex a b) (k : Same ex b c) : Same ex a c :=
  ⟨k.os.trans h.os, k.tape.trans h.tape, k.output.trans h.output, Nat.le_trans h.size k.size, fun i hi hx => (k.block i (Nat.lt_of_lt_of_le hi h.size) hx).trans (h.block i hi hx)⟩
theorem Same.more {ex ex' : List Nat} {a b : World} (h : Same ex a b) (hx : ∀ k ∈ ex, k ∈ ex') : Same ex' a b := ⟨h.os, h.tape, h.output, h.size, fun k hk hn => h.block k hk (fun hm => hn (hx k hm))⟩
theorem Same.drewN (ex : List Nat) (w : World) (n : Nat) : Same ex w (w.drewN n) := ⟨rfl, rfl, rfl, Nat.le_refl _, fun _ _ _ => rfl⟩
theorem Same.drew (ex : List Nat) (w : World) : Same ex w w.drew := ⟨rfl, rfl, rfl, Nat.le_refl _, fun _ _ _ => rfl⟩
theorem Same.setCell (ex : List Nat) (w : World) (p : Addr) (v : Value) (h : p.block ∈ ex) : Same ex w (w.setCell p v) :=
  ⟨rfl, rfl, rfl, by simp [World.setCell], fun k _ hx => Below.heap_setCell _ _ _ _ (fun e => hx (e ▸ h))⟩
theorem Same.alloc (ex : List Nat) (w : World) (o : Obj) : Same ex w (w.alloc o) := ⟨rfl, rfl, rfl, by simp, fun k hk _ => Below.heap_alloc w o k hk⟩
theorem But.same {w w' : World} {g : Nat} (h : But w.heap.size g w w') : Same [g] w w' := ⟨h.os, h.tape, h.output, h.size, fun k hk hx => h.block k hk (fun e => hx (by simp [e]))⟩
theorem Below.same {w w' : World} {B : Nat} (h : Below B w w') (ex : List Nat) (hB : w.heap.size ≤ B) : Same ex w w' := ⟨h.os, h.tape, h.output, h.size, fun k hk _ => h.block k (by omega)⟩
theorem Same.below {ex : List Nat} {w w' : World} {B : Nat} (h : Same ex w w') (hB : B ≤ w.heap.size) (hx : ∀ k ∈ ex, B ≤ k) : Below B w w' := ⟨h.os, h.tape, h.output, h.size, fun k hk => h.block k (by omega) (fun hm => by have := hx k hm; omega)⟩
theorem Row.same {ex : List Nat} {w w' : World} {g N : Nat} {f : Nat → Nat} (h : Row w g N f) (hs : Same ex w w') (hx : g ∉ ex) : Row w' g N f := h.block (hs.block g h.lt hx)
theorem Bytes.same {ex : List Nat} {w w' : World} {a : Option Addr} {len : Nat} {f : Nat → Nat} (h : Bytes w a len f) (hs : Same ex w w') (hx : ∀ p, a = some p → p.block ∉ ex) : Bytes w' a len f := by
  rcases h with h | ⟨b, off, rfl, hc⟩
  · exact .inl h
  · refine .inr ⟨b, off, rfl, fun i hi => ?_⟩
    have := World.block_lt_of_cell? w _ (hc i hi)
    exact (World.cell?_of_block (w := w) (hs.block b this (hx _ rfl))).trans (hc i hi)

theorem Same.shed {ex ex' : List Nat} {a b c : World} (h : Same ex' a b) (k : Same ex b c) (hx : ∀ i ∈ ex, i ∈ ex' ∨ a.heap.size ≤ i) : Same ex' a c :=
  ⟨k.os.trans h.os, k.tape.trans h.tape, k.output.trans h.output, Nat.le_trans h.size k.size, fun i hi hn => (k.block i (Nat.lt_of_lt_of_le hi h.size) (fun hm => by rcases hx i hm with h1 | h1; exact hn h1; omega)).trans (h.block i hi hn)⟩

/-- The string of the first m bytes. -/
def str (f : Nat → Nat) (m : Nat) : ByteArray := strOfNums ((List.range m).map fun i => (f i : Int))

theorem under5 : Ybaf.prog.underlying 5 = some (.int .u8) := by kernel_rfl
theorem under9 : Ybaf.prog.underlying 9 = some .string := by kernel_rfl

theorem conv_bytes {w : World} {a : Option Addr} {len cap : Nat} {f : Nat → Nat} (h : Bytes w a len f) : (convert 33 9 (.slice a len cap)).run Ybaf.prog w = .ok (.string (str f len)) w := by
  by_cases h0 : len = 0
  · subst h0
    cases a with
    | none => rw [run_convert_bytes_nil w 33 5 Ybaf.underlying33 under5 0 cap 9 under9]; rfl
    | some p => rw [run_convert_bytes_string w 33 9 5 _ 0 cap Ybaf.underlying33 under5 under9, run_bytesToString w p 0 cap [] (by simpa using run_loadCells_list (P := Ybaf.prog) w p [] (by simp))]; rfl
  · rcases h with h | ⟨b, off, rfl, hc⟩
    · exact absurd h h0
    · exact run_convert_bytes_arg w 33 5 Ybaf.underlying33 under5 b off len cap _ (by simp) (fun i hi => by rw [hc i hi]; simp [List.getD, hi]) 9 under9

theorem str_eq (f g : Nat → Nat) (m m' : Nat) (hf : ∀ i, i < m → f i < 256) (hg : ∀ i, i < m' → g i < 256) : str f m = str g m' ↔ m = m' ∧ ∀ i, i < m → f i = g i := by
  constructor
  · intro h
    have h2 : (str f m).data.toList = (str g m').data.toList := by rw [h]
    rw [str, str, strOfNums_data, strOfNums_data] at h2
    have hl : m = m' := by simpa using congrArg List.length h2
    subst hl
    refine ⟨rfl, fun i hi => ?_⟩
    have h3 := congrArg (fun l => l[i]?) h2
    simp [hi] at h3
    have h4 := congrArg UInt8.toNat h3
    simpa [Nat.mod_eq_of_lt (hf i hi), Nat.mod_eq_of_lt (hg i hi)] using h4
  · rintro ⟨rfl, h⟩
    unfold str
    congr 1
    exact List.map_congr_left (fun i hi => by rw [h i (List.mem_range.1 hi)])

/-- A slice of bytes of the call's own, nil or not. -/
def OwnS (w : World) (B : Nat) (ga : Option Addr) (cap n : Nat) (f : Nat → Nat) : Prop := w.ownsRow B 5 1 (.slice ga n cap) n (vals f n)
theorem OwnS.parts {w : World} {B cap n : Nat} {ga : Option Addr} {f : Nat → Nat} (h : OwnS w B ga cap n f) : (ga = none ∧ n = 0 ∧ cap = 0) ∨ ∃ g, ga = some ⟨g, 0, none⟩ ∧ OwnB w B g cap n f := by
  rcases h.2 with ⟨h0, h1⟩ | ⟨g', cap', cur, hv, hr⟩
  · cases h0
    exact .inl ⟨rfl, rfl, rfl⟩
  · cases hv
    exact .inr ⟨g', rfl, h⟩
theorem OwnS.bytes {w : World} {B cap n : Nat} {ga : Option Addr} {f : Nat → Nat} (h : OwnS w B ga cap n f) : Bytes w ga n f := by
  rcases h.parts with ⟨rfl, rfl, rfl⟩ | ⟨g, rfl, h⟩
  · exact .inl rfl
  · exact (OwnB.row h).1.bytes
theorem OwnS.lt {w : World} {B cap n : Nat} {ga : Option Addr} {f : Nat → Nat} (h : OwnS w B ga cap n f) : ∀ p, ga = some p → p.block < w.heap.size := by
  intro p hp
  rcases h.parts with ⟨rfl, _, _⟩ | ⟨g, rfl, h⟩
  · cases hp
  · cases hp
    exact (OwnB.lt h).2
theorem OwnS.ge {w : World} {B cap n : Nat} {ga : Option Addr} {f : Nat → Nat} (h : OwnS w B ga cap n f) : ∀ p, ga = some p → B ≤ p.block := by
  intro p hp
  rcases h.parts with ⟨rfl, _, _⟩ | ⟨g, rfl, h⟩
  · cases hp
  · cases hp
    exact (OwnB.lt h).1
theorem OwnS.nil (w : World) (B : Nat) (f : Nat → Nat) : OwnS w B none 0 0 f := World.ownsRow_nil w B 5 1
theorem OwnS.congr {w : World} {B cap n : Nat} {ga : Option Addr} {f f' : Nat → Nat} (h : OwnS w B ga cap n f) (he : ∀ i, i < n → f' i = f i) : OwnS w B ga cap n f' := by
  unfold OwnS
  rw [vals_congr he]
  exact h
theorem OwnS.cap_le {w : World} {B cap n : Nat} {ga : Option Addr} {f : Nat → Nat} (h : OwnS w B ga cap n f) : n ≤ cap := by
  rcases h.parts with ⟨rfl, rfl, rfl⟩ | ⟨g, rfl, h⟩
  · exact Nat.le_refl _
  · exact (OwnB.row h).2.2.1
/-- Where nothing of its block has turned it is as it was. -/
theorem OwnS.same {ex : List Nat} {w w' : World} {B cap n : Nat} {ga : Option Addr} {f : Nat → Nat} (h : OwnS w B ga cap n f) (hs : Same ex w w') (hx : ∀ p, ga = some p → p.block ∉ ex) : OwnS w' B ga cap n f := by
  refine ⟨h.1, ?_⟩
  rcases h.2 with h0 | ⟨g', cap', cur, hv, hb, hg, hnc, hcm, hsz, htk⟩
  · exact .inl h0
  · refine .inr ⟨g', cap', cur, hv, hb, ?_, hnc, hcm, hsz, htk⟩
    rw [hs.block g' (by by_cases hl : g' < w.heap.size; exact hl; rw [Array.getElem?_eq_none (by omega)] at hg; cases hg) (by cases hv; exact hx _ rfl)]
    exact hg

/-- 'append(b, x...)', b of the call's own or nil, x bytes or nil. -/
theorem wpList_appS (w : World) {ops : Array Oper} {rest : List Oper} {o : Oper} {a : Act} {Q : Exit → Act → World → Prop} (hgd : o.guard = none) (s x : Operand)
    (ho : o.op = .call { callee := .builtin .append, args := #[s, x], argTypes := #[33, 33] })
    (B : Nat) (ga : Option Addr) (cap n : Nat) (f : Nat → Nat) (hs : a.eval s = .slice ga n cap) (hown : OwnS w B ga cap n f)
    (xa : Option Addr) (m c : Nat) (fT : Nat → Nat) (hx : a.eval x = .slice xa m c) (hxb : Bytes w xa m fT) (hxn : xa = none → m = 0 ∧ c = 0)
    (h63 : n + m ≤ 1000000000) (hbase : B ≤ w.heap.size)
    (h : ∀ g' cap' w', OwnS w' B g' cap' (n + m) (fun i => if i < n then f i else fT (i - n)) → Same (ga.toList.map (·.block)) w w' → wpList Ybaf.prog ops Q rest (a.put o.dst (.slice g' (n + m) cap')) w') : wpList Ybaf.prog ops Q (o :: rest) a w := by
  obtain ⟨i0, hi, hz0, hz1, hz2⟩ := info_parts Ybaf.info5
  cases xa with
  | none =>
    obtain ⟨rfl, rfl⟩ := hxn rfl
    refine wpList_append_own_none hgd s x 33 ho B 5 i0 1 Ybaf.underlying33 hi _ n (vals f n) hs hown hx ?_
    exact h ga cap w (hown.congr (fun i hi => by rw [if_pos (by omega)])) (Same.refl _ _)
  | some p =>
    refine wpList_append_own w hgd s x 33 ho B 5 i0 (.int .u8 0) 1 1 Ybaf.underlying33 hi hz0 hz1 hz2 rfl (by decide) _ n (vals f n) hs hown p m c (vals fT m) hx (by rw [length_vals]; omega) (fun j u hj => ?_) (vals_one fT m) (by unfold maxLen; omega) (by omega) hbase ?_
    · have hjm : j < m := by
        have := (List.getElem?_eq_some_iff.1 hj).1
        rwa [length_vals] at this
      rw [vals_at fT m j hjm] at hj
      rcases hxb with h0 | ⟨xb, xo, he, hcells⟩
      · omega
      · cases he
        rw [show (⟨xb, xo, none⟩ : Addr).add j = ⟨xb, xo + j, none⟩ by unfold Addr.add; split <;> simp_all]
        exact (hcells j hjm).trans hj
    · intro v' w' hown' hgrow hnil
      rw [vals_append] at hown'
      have hbl : Same (ga.toList.map (·.block)) w w' := by
        obtain ⟨h1, h2, h3, h4, h5⟩ := hgrow
        refine ⟨h1, h2, h3, h4, fun k hk hn => h5 k hk ?_⟩
        rcases hown.parts with ⟨rfl, rfl, rfl⟩ | ⟨g, rfl, _⟩
        · simp [Value.ownBlock]
        · simp [Value.ownBlock] at hn ⊢
          omega
      rcases hown'.2 with ⟨h0, h1⟩ | ⟨g', cap', cur, hv, _⟩
      · subst h0
        have e : Value.slice none (n + m) 0 = .slice none 0 0 := by rw [h1]
        have := h none 0 w' (by unfold OwnS; rw [e]; exact hown') hbl
        rw [e] at this
        exact this
      · subst hv
        exact h _ cap' w' hown' hbl

set_option maxHeartbeats 400000 in
theorem equal_any (a b : Option Addr) (m k ca cb : Nat) (f g : Nat → Nat) (W : World) (ha : Bytes W a m f) (hb : Bytes W b k g) (hmk : m = k) (he : ∀ i, i < m → f i = g i) :
    Calls Ybaf.prog 11 #[.slice a m ca, .slice b k cb] W fun e w' => e = .returned (.bool true) ∧ w' = W := by
  have h1 := conv_bytes (cap := ca) ha
  have h2 := conv_bytes (cap := cb) hb
  have h3 : str f m = str g k := by
    subst hmk
    unfold str
    exact congrArg strOfNums (List.map_congr_left (fun i hi => by rw [he i (List.mem_range.1 hi)]))
  rw [h3] at h1
  clear h3 he hmk
  go_enter Ybaf.func11, Ybaf.ntmps11
  go_wp2
  go_ret
  exact ⟨rfl, rfl⟩

end Go.Proofs.YbulkdlruFmt
