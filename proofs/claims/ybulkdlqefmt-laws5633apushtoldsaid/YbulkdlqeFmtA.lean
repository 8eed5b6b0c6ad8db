/-
  SMALL CALLEES: zzs5633aclone, aeq, abitsize, apick; the notions.
-/
import Derived.Test.YbulkdlqeFmtProg
import Derived.WalkKit
import Derived.WalkSpells
import Derived.WalkLawsBesides
import Derived.Deep.QuietTactic
import Derived.BigQuiet
import Derived.Laws.CopyOwn
import Derived.Laws.BitsAllLaws
namespace Go.Proofs.YbulkdlqeFmt
open Go.RowKit

/-- What can be read of a slice of bytes. -/
def Bytes (w : World) (a : Option Addr) (len : Nat) (f : Nat → Nat) : Prop :=
  len = 0 ∨ ∃ b off, a = some ⟨b, off, none⟩ ∧ ∀ i, i < len → w.cell? ⟨b, off + i, none⟩ = some (.int .u8 (f i : Int))

/-- Block g is a row of bytes, the first N of which are f 0, f 1, .. -/
def Row (w : World) (g N : Nat) (f : Nat → Nat) : Prop :=
  ∃ cur : List Value, w.heap[g]? = some (.cells cur.toArray 5 (0, 0)) ∧ N ≤ cur.length ∧ ∀ i, i < N → cur[i]? = some (.int .u8 (f i : Int))

theorem ret_int {k : IntKind} {a b : Int} (h : a = b) : Ending.returned (.int k a) = .returned (.int k b) := by rw [h]

theorem bcell {W w1 : World} (hb : Below W.heap.size W w1) : (∀ b o, b < W.heap.size → w1.cell? ⟨b, o, none⟩ = W.cell? ⟨b, o, none⟩) ∧ (∀ b o, b < W.heap.size → w1.frozen? ⟨b, o, none⟩ = W.frozen? ⟨b, o, none⟩) :=
  ⟨fun b o h => hb.cell (p := ⟨b, o, none⟩) h, fun b o h => hb.frozen (p := ⟨b, o, none⟩) h⟩

theorem below_drewN (B : Nat) (w : World) (n : Nat) : Below B w (w.drewN n) := ⟨rfl, rfl, rfl, Nat.le_refl _, fun _ _ => rfl⟩

theorem Bytes.below {w w' : World} {a : Option Addr} {len B : Nat} {f : Nat → Nat} (h : Bytes w a len f) (hb : Below B w w') (hB : w.heap.size ≤ B) : Bytes w' a len f := by
  rcases h with h | ⟨b, off, rfl, hc⟩
  · exact .inl h
  · refine .inr ⟨b, off, rfl, fun i hi => ?_⟩
    have := World.block_lt_of_cell? w _ (hc i hi)
    exact (hb.cell (p := ⟨b, off + i, none⟩) (by simp at this ⊢; omega)).trans (hc i hi)
theorem Bytes.drewN {w : World} {a : Option Addr} {len : Nat} {f : Nat → Nat} (h : Bytes w a len f) (n : Nat) : Bytes (w.drewN n) a len f := h

theorem Row.cell {w : World} {g N : Nat} {f : Nat → Nat} (h : Row w g N f) {i : Nat} (hi : i < N) : w.cell? ⟨g, i, none⟩ = some (.int .u8 (f i : Int)) := by
  obtain ⟨cur, hg, _, hc⟩ := h
  rw [cell_of_row w g i _ 5 (0, 0) hg]
  simpa using hc i hi
theorem Row.frozen {w : World} {g N : Nat} {f : Nat → Nat} (h : Row w g N f) (i : Nat) : w.frozen? ⟨g, i, none⟩ = false := by
  obtain ⟨cur, hg, _⟩ := h
  exact frozen_of_row w g i _ 5 hg
theorem Row.lt {w : World} {g N : Nat} {f : Nat → Nat} (h : Row w g N f) : g < w.heap.size := by
  obtain ⟨cur, hg, _⟩ := h
  exact (Array.getElem?_eq_some_iff.1 hg).1
theorem Row.set {w : World} {g N : Nat} {f f' : Nat → Nat} (h : Row w g N f) (k : Nat) (x : Nat) (he : ∀ i, i < N → f' i = if i = k then x else f i) : Row (w.setCell ⟨g, k, none⟩ (.int .u8 (x : Int))) g N f' := by
  obtain ⟨cur, hg, hl, hc⟩ := h
  refine ⟨cur.set k (.int .u8 x), ?_, by simpa using hl, fun i hi => ?_⟩
  · rw [heap_setCell_same w g k _ 5 _ hg]
    simp [List.setIfInBounds_toArray]
  · rw [he i hi, List.getElem?_set]
    by_cases hik : k = i
    · subst hik
      simp [show k < cur.length by omega]
    · rw [if_neg hik, if_neg (fun e => hik e.symm)]
      exact hc i hi
theorem Row.congr {w : World} {g N : Nat} {f f' : Nat → Nat} (h : Row w g N f) (he : ∀ i, i < N → f' i = f i) : Row w g N f' := by
  obtain ⟨cur, hg, hl, hc⟩ := h
  exact ⟨cur, hg, hl, fun i hi => by rw [he i hi]; exact hc i hi⟩
theorem Row.shorter {w : World} {g N M : Nat} {f : Nat → Nat} (h : Row w g N f) (hM : M ≤ N) : Row w g M f := by
  obtain ⟨cur, hg, hl, hc⟩ := h
  exact ⟨cur, hg, by omega, fun i hi => hc i (by omega)⟩
theorem Row.block {w w' : World} {g N : Nat} {f : Nat → Nat} (h : Row w g N f) (hb : w'.heap[g]? = w.heap[g]?) : Row w' g N f := by
  obtain ⟨cur, h1, h2⟩ := h
  exact ⟨cur, hb.trans h1, h2⟩
theorem Row.below {w w' : World} {g N B : Nat} {f : Nat → Nat} (h : Row w g N f) (hb : Below B w w') (hg : g < B) : Row w' g N f := h.block (hb.block g hg)
theorem Row.drewN {w : World} {g N : Nat} {f : Nat → Nat} (h : Row w g N f) (n : Nat) : Row (w.drewN n) g N f := h
theorem Row.bytes {w : World} {g N : Nat} {f : Nat → Nat} (h : Row w g N f) : Bytes w (some ⟨g, 0, none⟩) N f :=
  .inr ⟨g, 0, rfl, fun i hi => by rw [Nat.zero_add]; exact h.cell hi⟩

/-- The first 'len' numbers, as values. -/
def vals (f : Nat → Nat) (len : Nat) : List Value := (List.range len).map fun i => .int .u8 (f i : Int)
theorem length_vals (f : Nat → Nat) (len : Nat) : (vals f len).length = len := by simp [vals]
theorem vals_at (f : Nat → Nat) (len j : Nat) (h : j < len) : (vals f len)[j]? = some (.int .u8 (f j : Int)) := by simp [vals, h]
theorem vals_one (f : Nat → Nat) (len : Nat) : ∀ u ∈ vals f len, u.oneCell' = true := by
  intro u hu
  simp only [vals, List.mem_map, List.mem_range] at hu
  obtain ⟨i, _, rfl⟩ := hu
  rfl
theorem vals_snoc (f : Nat → Nat) (n : Nat) : vals f (n + 1) = vals f n ++ [.int .u8 (f n : Int)] := by simp [vals, List.range_succ]

theorem Ybaf.info5 : (Ybaf.prog.info? 5).map (fun i => (i.zero, i.size, i.bytes)) = some (some (.int .u8 0), 1, 1) := by kernel_rfl

/-- 'copy(dst[off:], src)' into a row that the call itself made. -/
theorem wpList_copy_row {w : World} {ops : Array Oper} {rest : List Oper} {o : Oper} {a : Act} {Q : Exit → Act → World → Prop} (hgd : o.guard = none) (d s : Operand)
    (ho : o.op = .call { callee := .builtin .copy, args := #[d, s], argTypes := #[22, 22] })
    (dp sp : Option Addr) (dLen dCap sLen sCap : Nat) (hd : a.eval d = .slice dp dLen dCap) (hs : a.eval s = .slice sp sLen sCap)
    (g off N m : Nat) (f fT : Nat → Nat) (hop : Row w g N f) (hm : m = Nat.min sLen dLen) (hsrc : Bytes w sp m fT) (hdp : 0 < m → dp = some ⟨g, off, none⟩)
    (hfit : off + m ≤ N) (B : Nat) (w0 : World) (hb : Below B w0 w) (hBg : B ≤ g)
    (h : ∀ w', Row w' g N (fun i => if off ≤ i ∧ i < off + m then fT (i - off) else f i) → Below B w0 w' → wpList Ybaf.prog ops Q rest (a.put o.dst (goInt m)) w') :
    wpList Ybaf.prog ops Q (o :: rest) a w := by
  obtain ⟨cur, hg, hl, hc⟩ := hop
  refine wpList_copy_splice hgd d s 22 22 ho 5 Ybaf.underlying22 (by kernel_rfl) dp sp dLen dCap sLen sCap hd hs g off cur 5 hg (vals fT m) (by rw [length_vals]; exact hm)
    (fun hp => ?_) (by rw [length_vals]; omega) (vals_one fT m) B w0 hb hBg ?_
  · rw [length_vals] at hp
    rcases hsrc with h0 | ⟨b, o', rfl, hcc⟩
    · omega
    · refine ⟨hdp hp, _, rfl, fun j v hj => ?_⟩
      have hjm : j < m := by
        have := (List.getElem?_eq_some_iff.1 hj).1
        rwa [length_vals] at this
      rw [vals_at fT m j hjm] at hj
      rw [show (⟨b, o', none⟩ : Addr).add j = ⟨b, o' + j, none⟩ by unfold Addr.add; split <;> simp_all]
      exact (hcc j hjm).trans hj
  · intro w' hw' hb'
    rw [length_vals]
    refine h w' ⟨_, hw'.out, by rw [length_splice _ _ _ (by rw [length_vals]; omega)]; exact hl, fun i hi => ?_⟩ hb'
    unfold splice
    rw [length_vals]
    show _ = some (Value.int .u8 ((if off ≤ i ∧ i < off + m then fT (i - off) else f i : Nat) : Int))
    by_cases h1 : i < off
    · rw [if_neg (by omega), List.getElem?_append_left (by simp; omega), List.getElem?_take_of_lt h1]
      exact hc i hi
    · rw [List.getElem?_append_right (by simp; omega)]
      have e1 : (cur.take off).length = off := by simp; omega
      rw [e1]
      by_cases h2 : i < off + m
      · rw [if_pos ⟨by omega, h2⟩, List.getElem?_append_left (by rw [length_vals]; omega)]
        exact vals_at fT m (i - off) (by omega)
      · rw [if_neg (by omega), List.getElem?_append_right (by rw [length_vals]; omega), length_vals, List.getElem?_drop]
        rw [show off + m + (i - off - m) = i by omega]
        exact hc i hi

theorem row_of_made {w : World} {base g N : Nat} (h : w.ownsRow base 5 1 (.slice (some ⟨g, 0, none⟩) N N) N (madeCells #[.int .u8 0] N).toList) : Row w g N (fun _ => 0) := by
  rcases h.2 with ⟨h0, _⟩ | ⟨g', cap, cur, hv, hb, hg, hnc, hcm, hsz, htk⟩
  · cases h0
  · cases hv
    rw [toList_madeCells_one, Nat.mul_one] at htk
    refine ⟨cur.toList, by simpa using hg, by simp; omega, fun i hi => ?_⟩
    rw [List.take_of_length_le (by simp; omega)] at htk
    rw [htk]
    simp [hi]

set_option maxHeartbeats 400000 in
theorem clone_nil (w : World) :
    Calls Ybaf.prog 5 #[.slice none 0 0] w fun e w' => e = .returned (.slice none 0 0) ∧ w' = w := by
  have hn := fun (a : Option Addr) (n c : Nat) (w : World) => Lib.run_eql_slice_nil (P := Ybaf.prog) w 22 5 a n c 0 0 Ybaf.underlying22
  go_enter Ybaf.func5, Ybaf.ntmps5
  go_wp2
  go_ret
  exact ⟨rfl, rfl⟩

set_option maxHeartbeats 400000 in
theorem clone_some (a : Addr) (len cap : Nat) (f : Nat → Nat) (w : World) (hlen : len ≤ 4000000) (hb : Bytes w (some a) len f) :
    Calls Ybaf.prog 5 #[.slice (some a) len cap] w fun e w' => e = .returned (.slice (some ⟨w.heap.size, 0, none⟩) len len) ∧ Row w' w.heap.size len f ∧ Below w.heap.size w w' := by
  have hn := fun (a : Option Addr) (n c : Nat) (w : World) => Lib.run_eql_slice_nil (P := Ybaf.prog) w 22 5 a n c 0 0 Ybaf.underlying22
  obtain ⟨i0, hi, hz0, hz1, hz2⟩ := info_parts Ybaf.info5
  go_enter Ybaf.func5, Ybaf.ntmps5
  go_wp2_with (at_make; refine wpList_make_full _ rfl _ _ 22 rfl w.heap.size 5 i0 (.int .u8 0) 1 Ybaf.underlying22 hi hz0 hz1 .i64 .i64 _ _ len rfl rfl rfl rfl (by rw [hz2]; omega) (by simp [maxLen]; omega) (Nat.le_refl _) ?_)
  intro w1 hown hgrow
  have hrow := row_of_made hown
  have hb1 : Below w.heap.size w w1 := (Below.refl _ _).grown hgrow (Nat.le_refl _) (fun k hk => by cases hk)
  have hby := hb.below hb1 (Nat.le_refl _)
  clear hown hgrow hi hz0 hz1 hz2
  go_wp2_with (refine wpList_copy_row rfl (.tmp 9) (.tmp 10) rfl _ _ _ _ _ _ rfl rfl w.heap.size 0 len len _ f hrow ?_ hby ?_ ?_ w.heap.size w hb1 (Nat.le_refl _) ?_; (simp); (intro _; rfl); omega; intro w2 hrow2 hb2)
  go_ret
  refine ⟨rfl, hrow2.congr fun i hi => ?_, hb2⟩
  simp [hi]

set_option maxHeartbeats 400000 in
theorem pick_zero (a : Option Addr) (cap k : Nat) (w : World) (_hk : k ≤ 1000000) :
    Calls Ybaf.prog 12 #[.slice a 0 cap, .int .i64 k] w fun e w' => e = .returned (.int .u8 (((k * 37 + 5) % 256 : Nat) : Int)) ∧ w' = w := by
  go_enter Ybaf.func12, Ybaf.ntmps12
  go_wp2
  go_ret
  exact ⟨ret_int (by omega), rfl⟩

set_option maxHeartbeats 400000 in
theorem pick_some (b off len cap k : Nat) (x : Int) (w : World) (_hk : k ≤ 1000000) (hl : 0 < len) (_hlen : len ≤ 140737488351232)
   (hc : w.cell? ⟨b, off + k % len, none⟩ = some (.int .u8 x)) :
    Calls Ybaf.prog 12 #[.slice (some ⟨b, off, none⟩) len cap, .int .i64 k] w fun e w' => e = .returned (.int .u8 x) ∧ w' = w := by
  have h0 : ((len : Int) == 0) = false := beq_eq_false_iff_ne.2 (by omega)
  have h1 : (0 : Int) ≤ (k : Int) % (len : Int) := by omega
  have h2 : (k : Int) % (len : Int) < (len : Int) := Int.emod_lt_of_pos _ (by omega)
  go_enter Ybaf.func12, Ybaf.ntmps12
  go_wp2
  go_ret
  exact ⟨rfl, rfl⟩

/-- The byte at place k of the fill. -/
def pk (f : Nat → Nat) (len k : Nat) : Nat := if len = 0 then (k * 37 + 5) % 256 else f (k % len)
theorem pk_lt {f : Nat → Nat} (hf : ∀ i, f i < 256) (len k : Nat) : pk f len k < 256 := by
  unfold pk
  split
  · exact Nat.mod_lt _ (by omega)
  · exact hf _

theorem pick_any (a : Option Addr) (len cap : Nat) (K : Int) (k : Nat) (f : Nat → Nat) (w : World) (hK : K = k) (hk : k ≤ 1000000) (hlen : len ≤ 140737488351232) (hb : Bytes w a len f) :
    Calls Ybaf.prog 12 #[.slice a len cap, .int .i64 K] w fun e w' => e = .returned (.int .u8 (pk f len k : Int)) ∧ w' = w := by
  subst hK
  by_cases h0 : len = 0
  · subst h0
    exact pick_zero a cap k w hk
  · rcases hb with h | ⟨b, off, rfl, hc⟩
    · exact absurd h h0
    · have e : pk f len k = f (k % len) := by simp [pk, h0]
      rw [e]
      exact pick_some b off len cap k _ w hk (by omega) hlen (hc _ (Nat.mod_lt _ (by omega)))

/-- The size of the fixed fields of bit b. -/
def bsz (b : Nat) : Nat := if b ≤ 7 then 4 else if b ≤ 10 then 8 else 4

set_option maxHeartbeats 400000 in
theorem bitsize_any (b : Nat) (w : World) (hb : b ≤ 21) :
    Calls Ybaf.prog 19 #[.int .i64 b] w fun e w' => e = .returned (.int .i64 (bsz b : Int)) ∧ w' = w := by
  by_cases h7 : b ≤ 7
  · have e : bsz b = 4 := by simp [bsz, h7]
    go_enter Ybaf.func19, Ybaf.ntmps19
    go_wp2
    go_ret
    rw [e]
    exact ⟨rfl, rfl⟩
  · by_cases h10 : b ≤ 10
    · have e : bsz b = 8 := by simp [bsz, h7, h10]
      go_enter Ybaf.func19, Ybaf.ntmps19
      go_wp2
      go_ret
      rw [e]
      exact ⟨rfl, rfl⟩
    · have e : bsz b = 4 := by simp [bsz, h7, h10]
      go_enter Ybaf.func19, Ybaf.ntmps19
      go_wp2
      go_ret
      rw [e]
      exact ⟨rfl, rfl⟩

/-- Bit b of a Trace-Type of 24 bits, bit 0 the most significant. -/
def bt (tt b : Nat) : Bool := decide (tt / 2 ^ (23 - b) % 2 = 1)
theorem and_one (tt b : Nat) (ht : tt < 4294967296) : bits .and .u32 ((tt : Int) / 2 ^ (23 - b)) 1 = ((tt / 2 ^ (23 - b) % 2 : Nat) : Int) := by
  have hlt : tt / 2 ^ (23 - b) < 4294967296 := Nat.lt_of_le_of_lt (Nat.div_le_self _ _) ht
  have := u32_and_nat (tt / 2 ^ (23 - b)) 1 hlt (by omega)
  rw [nat_mask1] at this
  simpa using this
theorem bt_eq (tt b : Nat) (ht : tt < 4294967296) : (bits .and .u32 ((tt : Int) / 2 ^ (23 - b)) 1 == 1) = bt tt b := by
  rw [and_one tt b ht, bt, Bool.eq_iff_iff]
  simp only [beq_iff_eq, decide_eq_true_eq]
  omega
theorem bt_ne (tt b : Nat) (ht : tt < 4294967296) : (bits .and .u32 ((tt : Int) / 2 ^ (23 - b)) 1 != 0) = bt tt b := by
  rw [and_one tt b ht, bt, Bool.eq_iff_iff]
  simp only [bne_iff_ne, decide_eq_true_eq]
  omega

/-- The size of the fixed fields of the first k bits. -/
def szTo (tt : Nat) : Nat → Nat
  | 0 => 0
  | k + 1 => szTo tt k + if bt tt k then bsz k else 0
/-- The size of the fixed fields that tt asks for. -/
def asz (tt : Nat) : Nat := szTo tt 22
theorem bsz_le (b : Nat) : bsz b ≤ 8 := by
  unfold bsz
  split
  · omega
  · split <;> omega
theorem szTo_le (tt k : Nat) : szTo tt k ≤ 8 * k := by
  induction k with
  | zero => simp [szTo]
  | succ k ih =>
    have := bsz_le k
    simp only [szTo]
    split <;> omega

set_option maxHeartbeats 400000 in
theorem asize_any (tt : Nat) (w : World) (ht : tt < 4294967296) :
    Calls Ybaf.prog 10 #[.int .u32 tt] w fun e w' => e = .returned (.int .i64 (asz tt : Int)) ∧ w' = w := by
  go_enter Ybaf.func10, Ybaf.ntmps10
  go_wp2
  go_loop [3, 4] (fun s b => ∃ k : Nat, k ≤ 22 ∧ b = .int .i64 k ∧ s = .int .i64 (szTo tt k)) (fun _ b => 22 - (intOf b).toNat)
  case atStart => exact ⟨0, by omega, rfl, rfl⟩
  case round =>
    obtain ⟨k, hk, rfl, rfl⟩ := hrel
    have hs := szTo_le tt k
    have hz := bsz_le k
    by_cases hlt : k ≤ 21
    · cases hb : bt tt k with
      | true =>
        have hB := (bt_eq tt k ht).trans hb
        have HS : Hid (szTo tt (k + 1) = szTo tt k + bsz k) := by show _ = _; simp [szTo, hb]
        go_wp2_with (go_at_call 19; refine (bitsize_any k _ (by omega)).mono ?_; rintro e w' ⟨rfl, rfl⟩)
        go_round
        case rel => exact ⟨k + 1, by omega, by go_num, by rw [HS.out]; go_num⟩
        case measure => simp [intOf]; omega
      | false =>
        have hB := (bt_eq tt k ht).trans hb
        have HS : Hid (szTo tt (k + 1) = szTo tt k) := by show _ = _; simp [szTo, hb]
        go_wp2_with fail
        go_round
        case rel => exact ⟨k + 1, by omega, by go_num, by rw [HS.out]⟩
        case measure => simp [intOf]; omega
    · have hk2 : Hid (k = 22) := by show _ = _; omega
      go_wp2
      go_ret
      rw [hk2.out]
      exact ⟨rfl, rfl⟩
end Go.Proofs.YbulkdlqeFmt
