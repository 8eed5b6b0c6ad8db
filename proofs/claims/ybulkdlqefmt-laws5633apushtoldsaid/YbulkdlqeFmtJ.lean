/-
  (layout).write: a range over the iterator that writes the fields.
-/
import Derived.Test.YbulkdlqeFmtI
namespace Go.Proofs.YbulkdlqeFmt
open Go.RowKit Go.Shelf
attribute [local go_sem] Oper.semAt_some

/-- Byte j of a field of 'size' bytes that holds x. -/
def fb (x size j : Nat) : Nat := x / 256 ^ (size - 1 - j) % 256
/-- The row behind the last r bytes of a field at o. -/
def partF (o size x r : Nat) (f : Nat → Nat) (i : Nat) : Nat := if o + size - r ≤ i ∧ i < o + size then fb x size (i - o) else f i
theorem partF_zero (o size x : Nat) (f : Nat → Nat) (i : Nat) : partF o size x 0 f i = f i := by
  unfold partF
  rw [if_neg (by omega)]
theorem partF_succ (o size x r : Nat) (f : Nat → Nat) (i : Nat) (hr : r < size) : partF o size x (r + 1) f i = if i = o + (size - 1 - r) then x / 256 ^ r % 256 else partF o size x r f i := by
  unfold partF
  by_cases h : i = o + (size - 1 - r)
  · subst h
    rw [if_pos rfl, if_pos (by omega)]
    unfold fb
    rw [show size - 1 - (o + (size - 1 - r) - o) = r by omega]
  · rw [if_neg h]
    by_cases h2 : o + size - r ≤ i ∧ i < o + size
    · rw [if_pos h2, if_pos (by omega)]
    · rw [if_neg h2, if_neg (by omega)]
/-- The row behind a field. -/
def putF {tt : Nat} (base : Nat) (lk : ByteArray → Nat × Bool) (f : Nat → Nat) (x : FX tt) : Nat → Nat := partF (base + foff tt x.1) (fsize x.1) (vval lk x.1) (fsize x.1) f
def putAll {tt : Nat} (base : Nat) (lk : ByteArray → Nat × Bool) (f : Nat → Nat) (pre : List (FX tt)) : Nat → Nat := pre.foldl (putF base lk) f
theorem putAll_snoc {tt : Nat} (base : Nat) (lk : ByteArray → Nat × Bool) (f : Nat → Nat) (pre : List (FX tt)) (x : FX tt) : putAll base lk f (pre ++ [x]) = putF base lk (putAll base lk f pre) x := by simp [putAll]

theorem foff_mono (tt : Nat) : ∀ (a b : Nat), a ≤ b → foff tt a ≤ foff tt b := by
  intro a b h
  induction b with
  | zero => rw [show a = 0 by omega]; exact Nat.le_refl _
  | succ b ih =>
    by_cases hab : a = b + 1
    · rw [hab]; exact Nat.le_refl _
    · have := ih (by omega)
      simp only [foff]
      omega
theorem foff_end {tt : Nat} (x : FX tt) : foff tt x.1 + fsize x.1 ≤ asz tt := by
  have h1 : foff tt (x.1 + 1) = foff tt x.1 + fsize x.1 := by simp [foff, x.2.2]
  have h2 := foff_mono tt (x.1 + 1) 26 (by have := x.2.1; omega)
  rw [foff_asz] at h2
  omega

/-- 'But for g' is kept by what turns no cells. -/
theorem ownFrom_but {β : Type} {n₀ B g : Nat} {w₀ : World} (hn : n₀ ≤ w₀.heap.size) (hB : n₀ ≤ B) : OwnFrom B (fun (_ : β) W => But n₀ g w₀ W) :=
  fun _ _ _ _ hs hg hr => ⟨hg.os.trans hs.os, hg.tape.trans hs.tape, hg.output.trans hs.output, Nat.le_trans hs.size hg.size, fun k hk hkg =>
    (hg.block k (by have := hs.size; omega) (fun e => by have := (hr k e.symm).1; omega)).trans (hs.block k hk hkg)⟩
theorem row_own {β : Type} (g N : Nat) (f : β → Nat → Nat) : Own (fun s W => Row W g N (f s)) := fun s X Y row hs hg hrow => by
  obtain ⟨cur, h1, h2⟩ := hs
  refine ⟨cur, (hg.block g (Array.getElem?_eq_some_iff.1 h1).1 (fun e => ?_)).trans h1, h2⟩
  obtain ⟨o, ho, hc⟩ := hrow g e.symm
  rw [h1] at ho
  cases ho
  cases hc
theorem cell_own {β : Type} (p : Addr) (v : Value) : Own (fun (_ : β) W => W.cell? p = some v) := fun s X Y row hs hg hrow => by
  obtain ⟨o, ho, hi⟩ := isCells_of_cell hs
  refine (World.cell?_of_block (w := X) (hg.block p.block (Array.getElem?_eq_some_iff.1 ho).1 (fun e => ?_))).trans hs
  obtain ⟨o', ho', hc⟩ := hrow p.block e.symm
  rw [ho] at ho'
  cases ho'
  rw [hi] at hc
  cases hc

/-- The map's numbers are of the kind. -/
def LkOk (lk : ByteArray → Nat × Bool) : Prop := ∀ s, (lk s).1 < 18446744073709551616
theorem vval_lt {lk : ByteArray → Nat × Bool} (h : LkOk lk) (k : Nat) : vval lk k < 18446744073709551616 := by
  unfold vval
  split
  · exact h _
  · unfold allOnes; omega
theorem keeps_of_but {W W' : World} {g N : Nat} {f : Nat → Nat} (h : But W.heap.size g W W') (hr : Row W g N f) : KeepsOthers W W' :=
  ⟨h.size, fun k o hk ho => (h.block k (Array.getElem?_eq_some_iff.1 hk).1 (fun e => by obtain ⟨cur, hg, _⟩ := hr; rw [e, hg] at hk; cases hk; cases ho)).trans hk⟩

set_option maxRecDepth 100000 in
set_option maxHeartbeats 1000000 in
theorem write_in (tt F fo c g base N len cap : Nat) (mv : Value) (sp : Option Addr) (lk : ByteArray → Nat × Bool) (f : Nat → Nat) (htt : tt < 4294967296) (hlk : LkOk lk) (w : World) (ht : Tab w F fo) (hr : Row w g N f) (hFg : F ≠ g) (hF : F < w.heap.size)
    (hlen : asz tt ≤ len) (hN : base + len ≤ N) (hm : MapAt w mv lk) (hmb : ∀ b, mv = .map (some b) → b < w.heap.size ∧ b ≠ g) :
    CallsIn Fence.wide 6 Ybaf.prog 27 #[.agg #[.int .u64 24, .slice (some ⟨F, fo, none⟩) 26 c], .int .u32 tt, .slice (some ⟨g, base, none⟩) len cap, .func (.func 28) #[.agg #[mv, .pointer sp]] #[]] w fun e W' => e = .returned (.tuple #[]) ∧ Row W' g N (putAll base lk f (flds tt)) ∧ But w.heap.size g w W' := by
  refine callsIn_of_wp_marks Ybaf.func27 rfl trivial ?_ rfl
  simp only [Ybaf.ntmps27, List.size_toArray, List.length_cons, List.length_nil, Nat.reduceAdd, Nat.reduceSub, Array.replicate_succ, Array.replicate_zero, List.push_toArray, List.append_toArray, List.nil_append, List.cons_append]
  gi_wp2_with fail
  refine ⟨trivial, (callsIn_wide.2 (lay_any F fo c tt _)).mono ?_⟩
  rintro e w' ⟨rfl, rfl⟩
  gi_wp2_with fail
  have hgs := hr.lt
  have hB0 : Below w.heap.size w (((((w.alloc (Obj.cells #[.int .u64 24, .slice (some ⟨F, fo, none⟩) 26 c] 76)).alloc (Obj.cells #[.slice (some ⟨g, base, none⟩) len cap] 22)).alloc (Obj.cells #[.func (.func 28) #[.agg #[mv, .pointer sp]] #[]] 78)).alloc (Obj.cells #[.int .u64 24, .slice (some ⟨F, fo, none⟩) 26 c] 76)).alloc (Obj.cells #[.int .u32 (tt : Int)] 24)) := (((((Below.refl _ w).alloc (Nat.le_refl _) _).alloc (by simp) _).alloc (by simp; omega) _).alloc (by simp; omega) _).alloc (by simp; omega) _
  have hsz : (((((w.alloc (Obj.cells #[.int .u64 24, .slice (some ⟨F, fo, none⟩) 26 c] 76)).alloc (Obj.cells #[.slice (some ⟨g, base, none⟩) len cap] 22)).alloc (Obj.cells #[.func (.func 28) #[.agg #[mv, .pointer sp]] #[]] 78)).alloc (Obj.cells #[.int .u64 24, .slice (some ⟨F, fo, none⟩) 26 c] 76)).alloc (Obj.cells #[.int .u32 (tt : Int)] 24)).heap.size = w.heap.size + 5 := by simp
  have cd : (((((w.alloc (Obj.cells #[.int .u64 24, .slice (some ⟨F, fo, none⟩) 26 c] 76)).alloc (Obj.cells #[.slice (some ⟨g, base, none⟩) len cap] 22)).alloc (Obj.cells #[.func (.func 28) #[.agg #[mv, .pointer sp]] #[]] 78)).alloc (Obj.cells #[.int .u64 24, .slice (some ⟨F, fo, none⟩) 26 c] 76)).alloc (Obj.cells #[.int .u32 (tt : Int)] 24)).cell? ⟨w.heap.size + 1, 0, none⟩ = some (.slice (some ⟨g, base, none⟩) len cap) := by simp [go_sem]
  have cf : (((((w.alloc (Obj.cells #[.int .u64 24, .slice (some ⟨F, fo, none⟩) 26 c] 76)).alloc (Obj.cells #[.slice (some ⟨g, base, none⟩) len cap] 22)).alloc (Obj.cells #[.func (.func 28) #[.agg #[mv, .pointer sp]] #[]] 78)).alloc (Obj.cells #[.int .u64 24, .slice (some ⟨F, fo, none⟩) 26 c] 76)).alloc (Obj.cells #[.int .u32 (tt : Int)] 24)).cell? ⟨w.heap.size + 1 + 1, 0, none⟩ = some (.func (.func 28) #[.agg #[mv, .pointer sp]] #[]) := by simp [go_sem]
  have cl0 : (((((w.alloc (Obj.cells #[.int .u64 24, .slice (some ⟨F, fo, none⟩) 26 c] 76)).alloc (Obj.cells #[.slice (some ⟨g, base, none⟩) len cap] 22)).alloc (Obj.cells #[.func (.func 28) #[.agg #[mv, .pointer sp]] #[]] 78)).alloc (Obj.cells #[.int .u64 24, .slice (some ⟨F, fo, none⟩) 26 c] 76)).alloc (Obj.cells #[.int .u32 (tt : Int)] 24)).cell? ⟨w.heap.size + 1 + 1 + 1, 0, none⟩ = some (.int .u64 24) := by simp [go_sem]
  have cl1 : (((((w.alloc (Obj.cells #[.int .u64 24, .slice (some ⟨F, fo, none⟩) 26 c] 76)).alloc (Obj.cells #[.slice (some ⟨g, base, none⟩) len cap] 22)).alloc (Obj.cells #[.func (.func 28) #[.agg #[mv, .pointer sp]] #[]] 78)).alloc (Obj.cells #[.int .u64 24, .slice (some ⟨F, fo, none⟩) 26 c] 76)).alloc (Obj.cells #[.int .u32 (tt : Int)] 24)).cell? ⟨w.heap.size + 1 + 1 + 1, 1, none⟩ = some (.slice (some ⟨F, fo, none⟩) 26 c) := by simp [go_sem]
  have cv : (((((w.alloc (Obj.cells #[.int .u64 24, .slice (some ⟨F, fo, none⟩) 26 c] 76)).alloc (Obj.cells #[.slice (some ⟨g, base, none⟩) len cap] 22)).alloc (Obj.cells #[.func (.func 28) #[.agg #[mv, .pointer sp]] #[]] 78)).alloc (Obj.cells #[.int .u64 24, .slice (some ⟨F, fo, none⟩) 26 c] 76)).alloc (Obj.cells #[.int .u32 (tt : Int)] 24)).cell? ⟨w.heap.size + 1 + 1 + 1 + 1, 0, none⟩ = some (.int .u32 (tt : Int)) := by simp [go_sem]
  have ht0 := ht.block (hB0.block F hF)
  have hr0 := hr.below hB0 hgs
  obtain ⟨W0, hW0⟩ : ∃ W0, (((((w.alloc (Obj.cells #[.int .u64 24, .slice (some ⟨F, fo, none⟩) 26 c] 76)).alloc (Obj.cells #[.slice (some ⟨g, base, none⟩) len cap] 22)).alloc (Obj.cells #[.func (.func 28) #[.agg #[mv, .pointer sp]] #[]] 78)).alloc (Obj.cells #[.int .u64 24, .slice (some ⟨F, fo, none⟩) 26 c] 76)).alloc (Obj.cells #[.int .u32 (tt : Int)] 24)) = W0 := ⟨_, rfl⟩
  rw [hW0] at hB0 hsz cd cf cl0 cl1 cv ht0 hr0 ⊢
  clear hW0
  refine wpIn_rangeFunc_ownH rfl (by omega) (gf := 36) (lb := #[.pointer (some ⟨w.heap.size + 1 + 1 + 1, 0, none⟩), .pointer (some ⟨w.heap.size + 1 + 1 + 1 + 1, 0, none⟩)]) rfl trivial (enters_of Ybaf.func36 (by kernel_rfl) rfl)
    (lay_stops 5 (by omega) (w.heap.size + 1 + 1 + 1) (w.heap.size + 1 + 1 + 1 + 1) g tt F fo c htt W0 (by omega) (by omega) hFg (by omega) cl0 cl1 cv ht0) KeepC.trans (fun W l o o' _ hl ho _ => KeepC.putObj _ W l o o' hl ho) (Below.refl _ _) (fun _ => rfl)
    (fun pre W => Row W g N (putAll base lk f pre) ∧ (W.cell? ⟨w.heap.size + 1, 0, none⟩ = some (.slice (some ⟨g, base, none⟩) len cap) ∧ (W.cell? ⟨w.heap.size + 1 + 1, 0, none⟩ = some (.func (.func 28) #[.agg #[mv, .pointer sp]] #[]) ∧ But w.heap.size g w W)))
    (fun _ _ _ => False)
    (OwnFrom.and (Own.from (row_own _ _ _) _) (OwnFrom.and (Own.from (cell_own _ _) _) (OwnFrom.and (Own.from (cell_own _ _) _) (ownFrom_but (Nat.le_refl _) (by omega)))))
    (fun _ _ _ _ _ hs _ _ => hs)
    ⟨hr0, cd, cf, Below.but hB0 g⟩
    (fun x a' W => ∃ Bx, w.heap.size + 1 + 1 < Bx ∧ FBox W Bx x.1 ∧ a' = { tmps := #[.agg #[.int .u64 24, .slice (some ⟨F, fo, none⟩) 26 c], .int .u32 tt, .slice (some ⟨g, base, none⟩) len cap, .func (.func 28) #[.agg #[mv, .pointer sp]] #[], .pointer (some ⟨w.heap.size, 0, none⟩), undef, .pointer (some ⟨w.heap.size + 1, 0, none⟩), .pointer (some ⟨w.heap.size + 1 + 1, 0, none⟩), .pointer (some ⟨Bx, 0, none⟩), .int .i64 (foff tt x.1 : Int), undef, undef, .agg #[.int .u64 24, .slice (some ⟨F, fo, none⟩) 26 c], .int .u32 tt, .func (.func 36) #[] #[.pointer (some ⟨w.heap.size + 1 + 1 + 1, 0, none⟩), .pointer (some ⟨w.heap.size + 1 + 1 + 1 + 1, 0, none⟩)], fval x.1, .int .i64 (foff tt x.1 : Int), undef, undef, undef, undef, undef, undef, undef, undef, undef, undef, undef, undef, undef, undef, undef, undef, undef, undef, undef, undef], defers := [] })
    (fun x a' _ X Y row hs hg hr => by obtain ⟨Bx, h1, h2, h3⟩ := hs; exact ⟨Bx, h1, h2.kept hg (fun r e => (hr r e).2), h3⟩)
    ?assign ?body ?done ?stop
  case assign =>
    rintro l pre x W K ⟨hR, hc1, hc2, hB⟩ hK
    have hbA : Below W.heap.size W (W.alloc (.cells #[.string (fname x.1), .int .u64 (fbit x.1 : Int), .int .i64 (fsize x.1 : Int)] 85)) := (Below.refl _ W).alloc (Nat.le_refl _) _
    dsimp only [fenc, fval]
    gi_wp2
    exact hK _ _ ((KeepsOthers.alloc _ _).from _) (KeepC.of_below hbA _) ⟨hR.below hbA hR.lt, (KeepC.of_below hbA g).cell hc1 (by simp; omega), (KeepC.of_below hbA g).cell hc2 (by simp; omega), hB.trans (Below.but (hbA.mono hB.size) g)⟩ ⟨W.heap.size, World.block_lt_of_cell? W _ hc2, FBox.new W x.1, rfl⟩
  case body =>
    rintro l pre x a' W hl _ ⟨hR, hc1, hc2, hB⟩ ⟨Bx, hBx, bX, rfl⟩ hlt
    have c0 := bX.c0
    have c1 := bX.c1
    have c2 := bX.c2
    have hs2 := fsize_le x.1
    have ho := foff_le tt x.1
    have hx := x.2.1
    gi_wp2_with fail
    have hmW : MapAt W mv lk := hm.keep (fun b hb => (hB.block b (hmb b hb).1 (hmb b hb).2))
    have hmbW : ∀ b, mv = .map (some b) → b < W.heap.size := fun b hb => Nat.lt_of_lt_of_le (hmb b hb).1 hB.size
    have hval := value_any mv sp lk x.1 W hmW hmbW
    unfold fval at hval
    refine ⟨trivial, (CallsIn.inRound l (callsIn_wide.2 hval)).mono ?_⟩
    clear hval
    rintro e W1 ⟨rfl, hB1⟩
    have hXl := vval_lt hlk x.1
    have hR1 := hR.below hB1 hR.lt
    have c21 := (hB1.cell (p := ⟨Bx, 2, none⟩) (World.block_lt_of_cell? W _ c2)).trans c2
    have hf1 := hB1.cell (p := ⟨w.heap.size + 1, 0, none⟩) (World.block_lt_of_cell? W _ hc1)
    rw [hc1] at hf1
    obtain ⟨X, hX⟩ : ∃ X, vval lk x.1 = X := ⟨_, rfl⟩
    obtain ⟨off, hoff⟩ : ∃ off, foff tt x.1 = off := ⟨_, rfl⟩
    obtain ⟨sz, hszx⟩ : ∃ sz, fsize x.1 = sz := ⟨_, rfl⟩
    have hend := foff_end x
    rw [hX] at hXl ⊢
    rw [hoff] at ho hend ⊢
    rw [hszx] at hs2 hend c21
    gi_wp2_with fail
    gi_loopw [10, 11] (fun v i wr => ∃ (k y : Nat), k ≤ sz ∧ Hid (y = X / 256 ^ (sz - k)) ∧ v = .int .u64 (y : Int) ∧ i = .int .i64 ((off : Int) + (k : Int) - 1) ∧ Row wr g N (partF (base + off) sz X (sz - k) (putAll base lk f pre)) ∧ But W.heap.size g W wr)
      (fun _ i _ => match i with | .int _ n => (n + 1 - (off : Int)).toNat | _ => 0)
    case atStart =>
      refine ⟨sz, X, Nat.le_refl _, ?_, rfl, ?_, ?_, Below.but hB1 g⟩
      · show _ = _; simp
      · rfl
      · exact hR1.congr (fun i _ => by rw [Nat.sub_self, partF_zero])
    case round =>
      obtain ⟨k, y, hk, hy, rfl, rfl, hRr, hBr⟩ := hrel
      cases k with
      | zero =>
        gi_wp2_with fail
        refine ⟨(keeps_of_but hBr hR).from _, KeepC.of_but hBr, ?_, ?_, ?_, ?_⟩
        · rw [putAll_snoc]
          unfold putF
          rw [hX, hoff, hszx]
          exact hRr
        · exact (KeepC.of_but hBr).cell hc1 (by simp; omega)
        · exact (KeepC.of_but hBr).cell hc2 (by simp; omega)
        · exact hB.trans (hBr.mono hB.size)
      | succ k =>
        have cdr := (KeepC.of_but hBr).cell hc1 (by simp; omega)
        obtain ⟨j, hj⟩ : ∃ j, Hid (j = off + k) := ⟨_, rfl⟩
        have hjo : j = off + k := hj
        have e1 : (off : Int) + ((k + 1 : Nat) : Int) - 1 = (j : Int) := by rw [hjo]; omega
        have hji : (j : Int) < (len : Int) := by omega
        have hjo2 : (off : Int) ≤ (j : Int) := by omega
        have hjN : base + j < N := by omega
        have cj := hRr.cell hjN
        have fj := hRr.frozen (base + j)
        have hjb : (j : Int) ≤ 1000 := by omega
        have hwr : IntKind.u8.wrap (y : Int) = ((y % 256 : Nat) : Int) := by simp [IntKind.wrap, IntKind.bits, IntKind.signed]
        clear hjo
        rw [e1]
        gi_wp2_with fail
        have hjo : j = off + k := hj
        have hy' : y = X / 256 ^ (sz - (k + 1)) := hy
        refine ⟨⟨k, y / 256, by omega, ?_, ?_, ?_, ?_, hBr.trans (But.setCell _ _ _ _ _)⟩, ?_⟩
        · show _ = _
          rw [hy', show sz - k = sz - (k + 1) + 1 by omega, Nat.pow_succ, ← Nat.div_div_eq_div_mul]
        · simp
        · rw [hjo]; simp
        · have hy256 : (y : Int) % 256 = ((y % 256 : Nat) : Int) := by simp
          rw [hy256]
          refine hRr.set (base + j) (y % 256) (fun i _ => ?_)
          have hsu := partF_succ (base + off) sz X (sz - (k + 1)) (putAll base lk f pre) i (by omega)
          rw [show sz - (k + 1) + 1 = sz - k by omega, show base + off + (sz - 1 - (sz - (k + 1))) = base + j by omega, ← hy'] at hsu
          exact hsu
        · simp only []
          omega
  case done =>
    intro D zs W hD hz hI hK
    obtain ⟨hR, hc1, hc2, hB⟩ := hI
    rw [hz] at hR
    clear hz
    gi_wp2
    refine ⟨by simp, .inl ⟨_, _, rfl, run_takeDeferred hK, ?_⟩⟩
    refine ⟨_, results_none rfl _ _ _, rfl, ?_, ?_⟩
    · refine hR.block ?_
      refine World.putObj_heap_other (fun e => ?_)
      obtain ⟨cur, hg, _⟩ := hR
      rw [e, hK] at hg
      cases hg
    · exact hB.trans (Below.but (belowK_b (w := w) (Nat.le_refl _) W D _ _ (by omega) hK rfl rfl) g)
  case stop =>
    rintro D c pre W _ _ h _
    exact h.elim
theorem write_any (tt F fo c g base N len cap : Nat) (mv : Value) (sp : Option Addr) (lk : ByteArray → Nat × Bool) (f : Nat → Nat) (htt : tt < 4294967296) (hlk : LkOk lk) (w : World) (ht : Tab w F fo) (hr : Row w g N f) (hFg : F ≠ g) (hF : F < w.heap.size)
    (hlen : asz tt ≤ len) (hN : base + len ≤ N) (hm : MapAt w mv lk) (hmb : ∀ b, mv = .map (some b) → b < w.heap.size ∧ b ≠ g) :
    Calls Ybaf.prog 27 #[.agg #[.int .u64 24, .slice (some ⟨F, fo, none⟩) 26 c], .int .u32 tt, .slice (some ⟨g, base, none⟩) len cap, .func (.func 28) #[.agg #[mv, .pointer sp]] #[]] w fun e W' => e = .returned (.tuple #[]) ∧ Row W' g N (putAll base lk f (flds tt)) ∧ But w.heap.size g w W' :=
  callsIn_wide.1 (write_in tt F fo c g base N len cap mv sp lk f htt hlk w ht hr hFg hF hlen hN hm hmb)

end Go.Proofs.YbulkdlqeFmt
