/-
  zzs5633abuild.
-/
import Derived.Test.YbulkdlqeFmtQ
import Derived.Laws.OwnMore
namespace Go.Proofs.YbulkdlqeFmt
open Go.RowKit Go.Shelf

/-- A row of bytes of the call's own, its slice's head at the block's. -/
def OwnB (w : World) (B g cap n : Nat) (f : Nat → Nat) : Prop := w.ownsRow B 5 1 (.slice (some ⟨g, 0, none⟩) n cap) n (vals f n)

theorem vals_congr {f f' : Nat → Nat} {n : Nat} (h : ∀ i, i < n → f i = f' i) : vals f n = vals f' n := by
  unfold vals
  apply List.map_congr_left
  intro i hi
  rw [h i (List.mem_range.1 hi)]
theorem vals_append (f fT : Nat → Nat) (n m : Nat) : vals f n ++ vals fT m = vals (fun i => if i < n then f i else fT (i - n)) (n + m) := by
  apply List.ext_getElem?
  intro i
  by_cases h : i < n
  · rw [List.getElem?_append_left (by rw [length_vals]; exact h), vals_at _ _ _ h, vals_at _ _ _ (by omega), if_pos h]
  · rw [List.getElem?_append_right (by rw [length_vals]; omega), length_vals]
    by_cases h2 : i - n < m
    · rw [vals_at _ _ _ h2, vals_at _ _ _ (by omega), if_neg h]
    · rw [List.getElem?_eq_none (by rw [length_vals]; omega), List.getElem?_eq_none (by rw [length_vals]; omega)]

theorem OwnB.row {w : World} {B g cap n : Nat} {f : Nat → Nat} (h : OwnB w B g cap n f) : Row w g n f ∧ B ≤ g ∧ n ≤ cap ∧ cap ≤ 9223372036854775807 := by
  rcases h.2 with ⟨h0, _⟩ | ⟨g', cap', cur, hv, hb, hg, hnc, hcm, hsz, htk⟩
  · cases h0
  · cases hv
    rw [Nat.mul_one] at htk hsz
    refine ⟨⟨cur.toList, by simpa using hg, by simp; omega, fun i hi => ?_⟩, hb, hnc, by simpa [maxLen] using hcm⟩
    have : (cur.toList.take n)[i]? = (vals f n)[i]? := by rw [htk]
    rw [vals_at _ _ _ hi, List.getElem?_take_of_lt hi] at this
    exact this
theorem OwnB.congr {w : World} {B g cap n : Nat} {f f' : Nat → Nat} (h : OwnB w B g cap n f) (he : ∀ i, i < n → f' i = f i) : OwnB w B g cap n f' := by
  unfold OwnB
  rw [vals_congr he]
  exact h
theorem OwnB.lt {w : World} {B g cap n : Nat} {f : Nat → Nat} (h : OwnB w B g cap n f) : B ≤ g ∧ g < w.heap.size := World.ownsRow.lt h g rfl

/-- 'append(b, x...)', b a row of the call's own, x bytes of another block. -/
theorem wpList_app (w : World) {ops : Array Oper} {rest : List Oper} {o : Oper} {a : Act} {Q : Exit → Act → World → Prop} (hgd : o.guard = none) (s x : Operand)
    (ho : o.op = .call { callee := .builtin .append, args := #[s, x], argTypes := #[22, 22] })
    (B g cap n : Nat) (f : Nat → Nat) (hs : a.eval s = .slice (some ⟨g, 0, none⟩) n cap) (hown : OwnB w B g cap n f)
    (xb xo m c : Nat) (fT : Nat → Nat) (hx : a.eval x = .slice (some ⟨xb, xo, none⟩) m c) (hcells : ∀ j, j < m → w.cell? ⟨xb, xo + j, none⟩ = some (.int .u8 (fT j : Int)))
    (h63 : n + m ≤ 4000000) (hbase : B ≤ w.heap.size)
    (h : ∀ g' cap' w', OwnB w' B g' cap' (n + m) (fun i => if i < n then f i else fT (i - n)) → Below B w w' → wpList Ybaf.prog ops Q rest (a.put o.dst (.slice (some ⟨g', 0, none⟩) (n + m) cap')) w') : wpList Ybaf.prog ops Q (o :: rest) a w := by
  obtain ⟨i0, hi, hz0, hz1, hz2⟩ := info_parts Ybaf.info5
  refine wpList_append_own w hgd s x 22 ho B 5 i0 (.int .u8 0) 1 1 Ybaf.underlying22 hi hz0 hz1 hz2 rfl (by decide) _ n (vals f n) hs hown ⟨xb, xo, none⟩ m c (vals fT m) hx (by rw [length_vals]; omega) (fun j u hj => ?_) (vals_one fT m) (by unfold maxLen; omega) (by omega) hbase ?_
  · have hjm : j < m := by
      have := (List.getElem?_eq_some_iff.1 hj).1
      rwa [length_vals] at this
    rw [vals_at fT m j hjm] at hj
    rw [show (⟨xb, xo, none⟩ : Addr).add j = ⟨xb, xo + j, none⟩ by unfold Addr.add; split <;> simp_all]
    exact (hcells j hjm).trans hj
  · intro v' w' hown' hgrow hnil
    rw [vals_append] at hown'
    have hbl : Below B w w' := (Below.refl _ _).grown hgrow hbase (fun k hk => (World.ownsRow.lt hown k hk).1)
    rcases hown'.2 with ⟨h0, _⟩ | ⟨g', cap', cur, hv, _⟩
    · have := (hnil.1 h0).1
      cases this
    · subst hv
      exact h g' cap' w' hown' hbl

/-- A literal's row. -/
theorem ownB_lit (w : World) (cs : Array Value) (n : Nat) (f : Nat → Nat) (B : Nat) (hB : B ≤ w.heap.size) (hcs : cs.toList = vals f n) (hn : n ≤ 1000) : OwnB (w.alloc (.cells cs 5)) B w.heap.size n n f := by
  have hl : cs.size = n := by rw [← Array.length_toList, hcs, length_vals]
  have := World.ownsRow_lit (base := B) (e := 5) (size := 1) w cs n hB (by unfold maxLen; omega) (by omega)
  unfold OwnB
  rw [← hcs]
  exact this

theorem and24 (x : Nat) (hx : x < 4294967296) : bits .and .u32 (x : Int) 16777215 = ((x % 16777216 : Nat) : Int) := by
  have := u32_and_nat x 16777215 hx (by omega)
  rw [show (16777215 : Nat) = 2 ^ 24 - 1 from rfl, Nat.and_two_pow_sub_one_eq_mod] at this
  exact this
theorem and15 (x : Nat) (hx : x < 256) : bits .and .u8 (x : Int) 15 = ((x % 16 : Nat) : Int) := by
  have := u8_and_nat x 15 hx (by omega)
  rw [show (15 : Nat) = 2 ^ 4 - 1 from rfl, Nat.and_two_pow_sub_one_eq_mod] at this
  exact this
theorem and1 (x : Nat) (hx : x < 256) : bits .and .u8 (x : Int) 1 = ((x % 2 : Nat) : Int) := by
  have := u8_and_nat x 1 hx (by omega)
  rw [show (1 : Nat) = 2 ^ 1 - 1 from rfl, Nat.and_two_pow_sub_one_eq_mod] at this
  exact this
theorem xb_le (tt b : Nat) : xb tt b ≤ 1 := by
  unfold xb
  split <;> omega
theorem asz_le100 (tt : Nat) : asz tt ≤ 100 := by
  simp only [asz, szTo, ite_xb, bsz]
  have h := xb_le tt
  have := h 0; have := h 1; have := h 2; have := h 3; have := h 4; have := h 5; have := h 6; have := h 7; have := h 8; have := h 9; have := h 10; have := h 11
  have := h 12; have := h 13; have := h 14; have := h 15; have := h 16; have := h 17; have := h 18; have := h 19; have := h 20; have := h 21
  simp
  omega

/-- The header that abuild lays. -/
def hdB (tt nl rm fl ns b7 : Nat) : List Nat := [ns / 256, ns % 256, nl * 8 + fl / 2, fl % 2 * 128 + rm, tt / 65536, tt / 256 % 256, tt % 256, b7]

/-- What abuild hands back. -/
def BuildSaid (tt rm fl el : Nat) (w : World) (e : Ending) (w' : World) : Prop :=
  ∃ g cap n f, e = .returned (.slice (some ⟨g, 0, none⟩) n cap) ∧ w.heap.size ≤ g ∧ Row w' g n f ∧ n ≤ cap ∧ cap ≤ 9223372036854775807 ∧ 8 ≤ n ∧ n ≤ 2000 ∧ (∀ i, f i < 256) ∧ Below w.heap.size w w' ∧
    hNl f = asz (tt % 16777216) / 4 ∧ hFl f = fl % 16 ∧ hRm f = rm % 128 ∧ hTt f = tt % 16777216 ∧ (el % 4 = 0 → n = 8 + rm % 128 * 4)

theorem OwnB.alloc {w : World} {B g cap n : Nat} {f : Nat → Nat} (h : OwnB w B g cap n f) (o : Obj) : OwnB (w.alloc o) B g cap n f := World.ownsRow.alloc h o

/-- The body as far as it is built. -/
def Bld (B : Nat) (w0 : World) (hd : List Nat) (n : Nat) (v : Value) (wr : World) : Prop :=
  ∃ g cap f, v = .slice (some ⟨g, 0, none⟩) n cap ∧ OwnB wr B g cap n f ∧ (∀ i, f i < 256) ∧ (∀ i, i < 8 → f i = hd.getD i 0) ∧ Below B w0 wr
theorem Bld.more {B : Nat} {w0 wr w' : World} {hd : List Nat} {n m g' cap' : Nat} {f fT : Nat → Nat} (o : Obj) (hB : B ≤ wr.heap.size) (hf : ∀ i, f i < 256) (hh : ∀ i, i < 8 → f i = hd.getD i 0) (hb : Below B w0 wr) (hn : 8 ≤ n) (hT : ∀ i, fT i < 256)
    (hown : OwnB w' B g' cap' (n + m) (fun i => if i < n then f i else fT (i - n))) (hb' : Below B (wr.alloc o) w') : Bld B w0 hd (n + m) (.slice (some ⟨g', 0, none⟩) (n + m) cap') w' := by
  refine ⟨g', cap', _, rfl, hown, fun i => ?_, fun i hi => ?_, (hb.alloc hB o).trans hb'⟩
  · show (if i < n then f i else fT (i - n)) < 256
    split
    · exact hf _
    · exact hT _
  · show (if i < n then f i else fT (i - n)) = _
    rw [if_pos (by omega)]
    exact hh i hi

theorem or_r (x R : Nat) (hR : R < 128) : bits .or .u8 ((x : Int) % 2 * 128) (R : Int) = ((x % 2 * 128 + R : Nat) : Int) := by
  have e1 := u8_or_nat (x % 2 * 128) R (by omega) (by omega)
  rw [nat_join 7 _ _ (by omega) (by omega)] at e1
  have e3 : ((x % 2 * 128 : Nat) : Int) = (x : Int) % 2 * 128 := by omega
  rw [e3] at e1
  exact e1

set_option maxRecDepth 100000 in
set_option maxHeartbeats 1000000 in
theorem build_any (tt rm fl ns b7 el nf cf : Nat) (a : Option Addr) (ff : Nat → Nat) (w : World) (htt : tt < 4294967296) (hrm : rm < 256) (hfl : fl < 256) (hns : ns < 65536) (hb7 : b7 < 256) (hel : el < 256) (hnf : nf ≤ 140737488351232) (hb : Bytes w a nf ff) (hff : ∀ i, ff i < 256) :
    Calls Ybaf.prog 6 #[.int .u32 tt, .int .u8 rm, .int .u8 fl, .int .u16 ns, .int .u8 b7, .int .u8 el, .slice a nf cf] w (BuildSaid tt rm fl el w) := by
  have e1 := and24 tt htt
  have e2 := and127 rm hrm
  have e3 := and15 fl hfl
  have t1 : tt % 16777216 < 16777216 := by omega
  have t2 : rm % 128 < 128 := by omega
  have t3 : fl % 16 < 16 := by omega
  obtain ⟨T, hT⟩ : ∃ T, tt % 16777216 = T := ⟨_, rfl⟩
  obtain ⟨R, hR⟩ : ∃ R, rm % 128 = R := ⟨_, rfl⟩
  obtain ⟨L, hL⟩ : ∃ L, fl % 16 = L := ⟨_, rfl⟩
  have hsz := asz_le100 T
  have hez : ((asz T : Nat) : Int) / 4 = ((asz T / 4 : Nat) : Int) := by simp
  obtain ⟨nl, hnl⟩ : ∃ nl, asz T / 4 = nl := ⟨_, rfl⟩
  rw [hnl] at hez
  rw [hT] at e1 t1
  rw [hR] at e2 t2
  rw [hL] at e3 t3
  have hnl26 : nl < 26 := by omega
  have e4 := h2_or nl L (by omega) (by omega)
  have e5 := and1 L (by omega)
  have has := fun X => asize_any T X (by omega)
  have HT : Hid (tt % 16777216 = T ∧ rm % 128 = R ∧ fl % 16 = L ∧ asz T / 4 = nl ∧ T < 16777216) := ⟨hT, hR, hL, hnl, t1⟩
  have T1 : (T : Int) / 65536 < 256 := by omega
  clear hT hR hL hnl htt t1 hsz
  go_enter Ybaf.func6, Ybaf.ntmps6
  go_wp2_with (go_at_call 10; refine (has _).mono ?_; rintro e w' ⟨rfl, hw'⟩; subst w')
  rw [or_r L R t2]
  have hB0 : Bld w.heap.size w (hdB T nl R L ns b7) 8 (.slice (some ⟨w.heap.size, 0, none⟩) 8 8) (w.alloc (.cells #[.int .u8 ((ns : Int) / 256), .int .u8 ((ns : Int) % 256), .int .u8 ((nl : Int) * 8 + (L : Int) / 2), .int .u8 ((L % 2 * 128 + R : Nat) : Int), .int .u8 ((T : Int) / 65536), .int .u8 ((T : Int) / 256 % 256), .int .u8 ((T : Int) % 256), .int .u8 (b7 : Int)] 5)) := by
    refine ⟨w.heap.size, 8, fun i => (hdB T nl R L ns b7).getD i 0, rfl, ownB_lit w _ 8 _ _ (Nat.le_refl _) ?_ (by omega), fun i => ?_, fun i hi => rfl, (Below.refl _ _).alloc (Nat.le_refl _) _⟩
    · simp [vals, hdB, List.range_succ]
    · have := HT.out.2.2.2.2
      match i with
      | 0 => simp [hdB]; omega
      | 1 => simp [hdB]; omega
      | 2 => simp [hdB]; omega
      | 3 => simp [hdB]; omega
      | 4 => simp [hdB]; omega
      | 5 => simp [hdB]; omega
      | 6 => simp [hdB]; omega
      | 7 => simp [hdB]; omega
      | i + 8 => simp [hdB]
  obtain ⟨hd, hhd⟩ : ∃ hd, Hid (hdB T nl R L ns b7 = hd) := ⟨_, rfl⟩
  rw [hhd.out] at hB0
  obtain ⟨h3, hh3⟩ : ∃ h3, L % 2 * 128 + R = h3 := ⟨_, rfl⟩
  rw [hh3] at hB0 ⊢
  clear hh3
  obtain ⟨sb, hsb⟩ : ∃ sb, (bits .and .u32 ((T : Int) / 2) 1 == 1) = sb := ⟨_, rfl⟩
  clear e1 e2 e3 e4 e5 hez has T1
  go_loopw [18, 19, 20] (fun v j i wr => ∃ k : Nat, k ≤ R * 4 ∧ j = .int .i64 k ∧ i = .int .i64 k ∧ Bld w.heap.size w hd (8 + k) v wr) (fun _ _ i _ => R * 4 - (intOf i).toNat)
  case atStart => exact ⟨0, Nat.zero_le _, rfl, rfl, hB0⟩
  case round =>
    obtain ⟨k, hk, rfl, rfl, g, cap, f, rfl, hown, hf, hh, hbw⟩ := hrel
    by_cases hlt : k < R * 4
    · have hbr := hb.below hbw (Nat.le_refl _)
      have hx := pk_lt hff nf k
      have hpk := fun X hX => pick_any a nf cf _ k ff X rfl (by omega) hnf hX
      obtain ⟨x, hxx⟩ : ∃ x, pk ff nf k = x := ⟨_, rfl⟩
      rw [hxx] at hx hpk
      have i1 : (k : Int) < (R : Int) * 4 := by omega
      go_wp2_with (first
        | (go_at_call 12; refine (hpk wr hbr).mono ?_; rintro e w' ⟨rfl, hw'⟩; subst w')
        | (at_builtin; refine wpList_app _ rfl (.tmp 70) (.tmp 74) rfl w.heap.size g cap (8 + k) f rfl (hown.alloc _) wr.heap.size 0 1 1 (fun _ => x) rfl (fun j hj => by (obtain rfl : j = 0 := by omega); simp [go_sem]) (by omega) (by have := hbw.size; simp; omega) ?_; intro g' cap' w1 hown1 hb1))
      have R1 := Bld.more (hd := hd) (w0 := w) _ hbw.size hf hh hbw (by omega) (fun _ => hx) hown1 hb1
      go_roundw
      case rel => first | exact ⟨k + 1, by omega, by go_num, by go_num, R1⟩ | ((repeat apply Exists.intro); exact ⟨⟨k + 1, by omega, by go_num, by go_num, R1⟩, rfl⟩)
      case measure => simp [intOf]; omega
    · have HK : Hid (k = R * 4) := by show _ = _; omega
      have hk5 : (k : Int) ≤ 508 := by omega
      have hk6 : (R : Int) * 4 ≤ (k : Int) := by omega
      have hk7 : k ≤ 508 := by omega
      obtain ⟨ke, hke⟩ : ∃ ke : Nat, Hid (el % 4 = ke) := ⟨_, rfl⟩
      have hke2 : (el : Int) % 4 = (ke : Int) := by have := hke.out; omega
      have hke3 : ke ≤ 3 := by have := hke.out; omega
      have hB1 : Bld w.heap.size w hd (8 + k) (.slice (some ⟨g, 0, none⟩) (8 + k) cap) wr := ⟨g, cap, f, rfl, hown, hf, hh, hbw⟩
      clear hk hlt hB0 hown hf hh hbw
      go_wp2
      rw [show decide ((k : Int) < (R : Int) * 4) = false from decide_eq_false (by omega), hke2]
      clear hke2
      go_loopw [18, 19, 23] (fun v j e wr => ∃ (q ix n : Nat), q ≤ ke ∧ e = .int .i64 q ∧ j = .int .i64 ix ∧ ix ≤ 508 + q * 200 ∧ n ≤ 516 + q * 200 ∧ 8 ≤ n ∧ (q = 0 → n = 8 + k) ∧ Bld w.heap.size w hd n v wr) (fun _ _ e _ => ke - (intOf e).toNat)
      case atStart => exact ⟨0, k, 8 + k, Nat.zero_le _, rfl, rfl, by omega, by omega, by omega, fun _ => rfl, hB1⟩
      case round =>
        obtain ⟨q, ix, n, hq, rfl, rfl, hix, hn, hn8, hq0, hB2⟩ := hrel
        by_cases hlt : q < ke
        · have i1 : (q : Int) < (ke : Int) := by omega
          have hix2 : (ix : Int) ≤ 1200 := by omega
          obtain ⟨g, cap, f, rfl, hown, hf, hh, hbw⟩ := hB2
          have hB3 : Bld w.heap.size w hd n (.slice (some ⟨g, 0, none⟩) n cap) wr := ⟨g, cap, f, rfl, hown, hf, hh, hbw⟩
          clear hown hf hh hbw
          go_wp2
          go_loopw [18, 19, 24] (fun v j i wr => ∃ (t y m : Nat), t ≤ nl * 4 ∧ Hid (y = ix + t ∧ m = n + t) ∧ i = .int .i64 t ∧ j = .int .i64 y ∧ Bld w.heap.size w hd m v wr) (fun _ _ i _ => nl * 4 - (intOf i).toNat)
          case atStart => exact ⟨0, ix, n, Nat.zero_le _, ⟨rfl, rfl⟩, rfl, rfl, hB3⟩
          case round =>
            obtain ⟨t, y, m, ht, hym, rfl, rfl, g, cap, f, rfl, hown, hf, hh, hbw⟩ := hrel
            have hy : (y : Int) ≤ 1400 := by have := hym.out; omega
            have hm : m ≤ 1400 := by have := hym.out; omega
            have hm8 : 8 ≤ m := by have := hym.out; omega
            have hbr := hb.below hbw (Nat.le_refl _)
            have hx := pk_lt hff nf y
            have hpk := fun X hX => pick_any a nf cf _ y ff X rfl (by omega) hnf hX
            obtain ⟨x, hxx⟩ : ∃ x, pk ff nf y = x := ⟨_, rfl⟩
            rw [hxx] at hx hpk
            by_cases hlt2 : t < nl * 4
            · have i2 : (t : Int) < (nl : Int) * 4 := by omega
              go_wp2_with (first
                | (go_at_call 12; refine (hpk wr hbr).mono ?_; rintro e w' ⟨rfl, hw'⟩; subst w')
                | (at_builtin; refine wpList_app _ rfl (.tmp 96) (.tmp 100) rfl w.heap.size g cap m f rfl (hown.alloc _) wr.heap.size 0 1 1 (fun _ => x) rfl (fun j hj => by (obtain rfl : j = 0 := by omega); simp [go_sem]) (by omega) (by have := hbw.size; simp; omega) ?_; intro g' cap' w1 hown1 hb1))
              have R1 := Bld.more (hd := hd) (w0 := w) _ hbw.size hf hh hbw hm8 (fun _ => hx) hown1 hb1
              have R2 : Hid (y + 1 = ix + (t + 1) ∧ m + 1 = n + (t + 1)) := by have := hym.out; exact ⟨by omega, by omega⟩
              go_roundw
              case rel => first | exact ⟨t + 1, y + 1, m + 1, by omega, R2, by go_num, by go_num, R1⟩ | ((repeat apply Exists.intro); exact ⟨⟨t + 1, y + 1, m + 1, by omega, R2, by go_num, by go_num, R1⟩, rfl⟩)
              case measure => simp [intOf]; omega
            · have i2 : (nl : Int) * 4 ≤ (t : Int) := by omega
              have hye : Hid (y ≤ 508 + q * 200 + 100 ∧ m ≤ 516 + q * 200 + 100) := by have := hym.out; exact ⟨by omega, by omega⟩
              have hB4 : Bld w.heap.size w hd m (.slice (some ⟨g, 0, none⟩) m cap) wr := ⟨g, cap, f, rfl, hown, hf, hh, hbw⟩
              cases sb with
              | false =>
                clear hpk
                go_wp2
                go_roundw
                case rel => first | exact ⟨q + 1, y, m, by omega, by go_num, rfl, by have := hye.out; omega, by have := hye.out; omega, hm8, (fun h => by omega), hB4⟩ | ((repeat apply Exists.intro); exact ⟨⟨q + 1, y, m, by omega, by go_num, rfl, by have := hye.out; omega, by have := hye.out; omega, hm8, (fun h => by omega), hB4⟩, rfl⟩)
                case measure => simp [intOf]; omega
              | true =>
                obtain ⟨l, hl⟩ : ∃ l : Nat, (x : Int) % 3 = (l : Int) := ⟨x % 3, by omega⟩
                have hl2 : l ≤ 2 := by omega
                have hql : q ≤ 2 := by omega
                go_wp2_with (first
                  | (go_at_call 12; refine (hpk wr hbr).mono ?_; rintro e w' ⟨rfl, hw'⟩; subst w')
                  | (at_builtin; refine wpList_app _ rfl (.tmp 112) (.tmp 117) rfl w.heap.size g cap m f rfl (hown.alloc _) wr.heap.size 0 4 4 (fun j => [l, 171, 205, q].getD j 0) rfl (fun j hj => by (rcases (show j = 0 ∨ j = 1 ∨ j = 2 ∨ j = 3 by omega) with rfl | rfl | rfl | rfl) <;> simp [go_sem]) (by omega) (by have := hbw.size; simp; omega) ?_; intro g' cap' w1 hown1 hb1))
                have R1 := Bld.more (hd := hd) (w0 := w) _ hbw.size hf hh hbw hm8 (fun i => by (show [l, 171, 205, q].getD i 0 < 256); (match i with | 0 => (simp; omega) | 1 => simp | 2 => simp | 3 => (simp; omega) | i + 4 => simp)) hown1 hb1
                clear hown hf hh hbw hB4 hbr hown1 hb1
                try rw [show decide (t < nl * 4) = false from decide_eq_false hlt2]
                go_loopw [18, 19, 26] (fun v j i wr => ∃ (s z p : Nat), s ≤ l * 4 ∧ Hid (z = y + 1 + s ∧ p = m + 4 + s) ∧ i = .int .i64 s ∧ j = .int .i64 z ∧ Bld w.heap.size w hd p v wr) (fun _ _ i _ => l * 4 - (intOf i).toNat)
                case atStart => exact ⟨0, y + 1, m + 4, Nat.zero_le _, ⟨rfl, rfl⟩, rfl, by go_num, R1⟩
                case round =>
                  obtain ⟨s, z, p, hs, hzp, rfl, rfl, g, cap, f, rfl, hown, hf, hh, hbw⟩ := hrel
                  have hz : (z : Int) ≤ 1500 := by have := hzp.out; omega
                  have hp : p ≤ 1500 := by have := hzp.out; omega
                  have hp8 : 8 ≤ p := by have := hzp.out; omega
                  have hbr := hb.below hbw (Nat.le_refl _)
                  have hx2 := pk_lt hff nf z
                  have hpk2 := fun X hX => pick_any a nf cf _ z ff X rfl (by omega) hnf hX
                  obtain ⟨x2, hxx2⟩ : ∃ x, pk ff nf z = x := ⟨_, rfl⟩
                  rw [hxx2] at hx2 hpk2
                  clear hpk
                  by_cases hlt3 : s < l * 4
                  · have i3 : (s : Int) < (l : Int) * 4 := by omega
                    go_wp2_with (first
                      | (go_at_call 12; refine (hpk2 wr hbr).mono ?_; rintro e w' ⟨rfl, hw'⟩; subst w')
                      | (at_builtin; refine wpList_app _ rfl (.tmp 125) (.tmp 129) rfl w.heap.size g cap p f rfl (hown.alloc _) wr.heap.size 0 1 1 (fun _ => x2) rfl (fun j hj => by (obtain rfl : j = 0 := by omega); simp [go_sem]) (by omega) (by have := hbw.size; simp; omega) ?_; intro g' cap' w1 hown1 hb1))
                    have R3 := Bld.more (hd := hd) (w0 := w) _ hbw.size hf hh hbw hp8 (fun _ => hx2) hown1 hb1
                    have R2 : Hid (z + 1 = y + 1 + (s + 1) ∧ p + 1 = m + 4 + (s + 1)) := by have := hzp.out; exact ⟨by omega, by omega⟩
                    go_roundw
                    case rel => first | exact ⟨s + 1, z + 1, p + 1, by omega, R2, by go_num, by go_num, R3⟩ | ((repeat apply Exists.intro); exact ⟨⟨s + 1, z + 1, p + 1, by omega, R2, by go_num, by go_num, R3⟩, rfl⟩)
                    case measure => simp [intOf]; omega
                  · have i3 : (l : Int) * 4 ≤ (s : Int) := by omega
                    have hB5 : Bld w.heap.size w hd p (.slice (some ⟨g, 0, none⟩) p cap) wr := ⟨g, cap, f, rfl, hown, hf, hh, hbw⟩
                    have hz2 : Hid (z ≤ 508 + (q + 1) * 200 ∧ p ≤ 516 + (q + 1) * 200) := by have := hzp.out; have := hye.out; exact ⟨by omega, by omega⟩
                    clear hown hf hh hbw hpk2
                    go_wp2
                    go_roundw
                    case rel => first | exact ⟨q + 1, z, p, by omega, by go_num, rfl, hz2.out.1, hz2.out.2, hp8, (fun h => by omega), hB5⟩ | ((repeat apply Exists.intro); exact ⟨⟨q + 1, z, p, by omega, by go_num, rfl, hz2.out.1, hz2.out.2, hp8, (fun h => by omega), hB5⟩, rfl⟩)
                    case measure => simp [intOf]; omega
        · obtain ⟨g, cap, f, rfl, hown, hf, hh, hbw⟩ := hB2
          obtain ⟨hrow, hBg, hnc, hcm⟩ := hown.row
          have i1 : (ke : Int) ≤ (q : Int) := by omega
          go_wp2
          go_ret
          have h8 := fun i hi => (hh i hi).trans (by rw [← hhd.out])
          have g2 : f 2 = nl * 8 + L / 2 := h8 2 (by omega)
          have g3 : f 3 = L % 2 * 128 + R := h8 3 (by omega)
          have g4 : f 4 = T / 65536 := h8 4 (by omega)
          have g5 : f 5 = T / 256 % 256 := h8 5 (by omega)
          have g6 : f 6 = T % 256 := h8 6 (by omega)
          obtain ⟨u1, u2, u3, u4, u5⟩ := HT.out
          refine ⟨g, cap, n, f, rfl, hBg, hrow, hnc, hcm, hn8, by omega, hf, hbw, ?_, ?_, ?_, ?_, ?_⟩
          · rw [u1, u4]; unfold hNl; omega
          · rw [u3]; unfold hFl; omega
          · rw [u2]; unfold hRm; omega
          · rw [u1]; unfold hTt; omega
          · intro h0
            rw [u2]
            have := hke.out
            have := HK.out
            have := hq0 (by omega)
            omega
end Go.Proofs.YbulkdlqeFmt
