/-
  SMALL CALLEES, second part: aeq, errors.New, putHeader, IsTrace, traceType, has.
-/
import Derived.Test.YbulkdlqeFmtA
import Derived.BigRegion
namespace Go.Proofs.YbulkdlqeFmt
open Go.RowKit

/-- Below block number B, but for block g, the world w' is as w was. -/
structure But (B g : Nat) (w w' : World) : Prop where
  os : w'.os = w.os
  tape : w'.tape = w.tape
  output : w'.output = w.output
  size : w.heap.size ≤ w'.heap.size
  block : ∀ k, k < B → k ≠ g → w'.heap[k]? = w.heap[k]?

theorem But.refl (B g : Nat) (w : World) : But B g w w := ⟨rfl, rfl, rfl, Nat.le_refl _, fun _ _ _ => rfl⟩
theorem But.trans {B g : Nat} {a b c : World} (h : But B g a b) (k : But B g b c) : But B g a c :=
  ⟨k.os.trans h.os, k.tape.trans h.tape, k.output.trans h.output, Nat.le_trans h.size k.size, fun i hi hg => (k.block i hi hg).trans (h.block i hi hg)⟩
theorem But.mono {B B' g : Nat} {w w' : World} (h : But B g w w') (hB : B' ≤ B) : But B' g w w' := ⟨h.os, h.tape, h.output, h.size, fun k hk hg => h.block k (Nat.lt_of_lt_of_le hk hB) hg⟩
theorem Below.but {B : Nat} {w w' : World} (h : Below B w w') (g : Nat) : But B g w w' := ⟨h.os, h.tape, h.output, h.size, fun k hk _ => h.block k hk⟩
theorem But.below {B g : Nat} {w w' : World} (h : But B g w w') (hB : B ≤ g) : Below B w w' := ⟨h.os, h.tape, h.output, h.size, fun k hk => h.block k hk (by omega)⟩
theorem But.setCell (B g : Nat) (w : World) (o : Nat) (v : Value) : But B g w (w.setCell ⟨g, o, none⟩ v) :=
  ⟨rfl, rfl, rfl, by simp [World.setCell], fun k _ hg => Below.heap_setCell _ _ _ _ hg⟩
theorem But.setOther {B g : Nat} {a w : World} (h : But B g a w) {p : Addr} (hp : B ≤ p.block) (v : Value) : But B g a (w.setCell p v) :=
  h.trans ⟨rfl, rfl, rfl, by simp [World.setCell], fun k hk _ => Below.heap_setCell _ _ _ _ (by omega)⟩
theorem But.cell {B g : Nat} {w w' : World} (h : But B g w w') {p : Addr} (hp : p.block < B) (hg : p.block ≠ g) : w'.cell? p = w.cell? p := World.cell?_of_block (w := w) (h.block p.block hp hg)
theorem Bytes.but {w w' : World} {b off len g B : Nat} {f : Nat → Nat} (h : Bytes w (some ⟨b, off, none⟩) len f) (hb : But B g w w') (hB : b < B) (hg : b ≠ g) : Bytes w' (some ⟨b, off, none⟩) len f := by
  rcases h with h | ⟨b', off', e, hc⟩
  · exact .inl h
  · cases e
    exact .inr ⟨b, off, rfl, fun i hi => (hb.cell (p := ⟨b, off + i, none⟩) hB hg).trans (hc i hi)⟩

set_option maxHeartbeats 400000 in
theorem eq_len (a a' : Option Addr) (n n' c c' : Nat) (w : World) (h : n ≠ n') :
    Calls Ybaf.prog 9 #[.slice a n c, .slice a' n' c'] w fun e w' => e = .returned (.bool false) ∧ w' = w := by
  have hd : ((n : Int) != (n' : Int)) = true := by rw [bne_iff_ne]; omega
  go_enter Ybaf.func9, Ybaf.ntmps9
  go_wp2
  go_ret
  exact ⟨rfl, rfl⟩

set_option maxHeartbeats 400000 in
theorem eq_zero (a a' : Option Addr) (c c' : Nat) (w : World) :
    Calls Ybaf.prog 9 #[.slice a 0 c, .slice a' 0 c'] w fun e w' => e = .returned (.bool true) ∧ w' = w := by
  go_enter Ybaf.func9, Ybaf.ntmps9
  go_wp2
  refine wp_loop_rounds 1 ?_; rw [rounds_succ]
  go_wp2
  go_ret
  exact ⟨rfl, rfl⟩

/-- What aeq answers: some bool; true where the bytes are the same. -/
def EqSaid (same : Prop) (w : World) (e : Ending) (w' : World) : Prop := ∃ b n, e = .returned (.bool b) ∧ w' = w.drewN n ∧ (same → b = true)

set_option maxHeartbeats 800000 in
theorem eq_some (b off b' off' len c c' : Nat) (f f' : Nat → Nat) (w : World) (_hlen : len ≤ 4000000)
    (h1 : ∀ i, i < len → w.cell? ⟨b, off + i, none⟩ = some (.int .u8 (f i : Int))) (h2 : ∀ i, i < len → w.cell? ⟨b', off' + i, none⟩ = some (.int .u8 (f' i : Int))) :
    Calls Ybaf.prog 9 #[.slice (some ⟨b, off, none⟩) len c, .slice (some ⟨b', off', none⟩) len c'] w (EqSaid (∀ i, i < len → f i = f' i) w) := by
  go_enter Ybaf.func9, Ybaf.ntmps9
  go_wp2
  go_loopw [5] (fun i wr => ∃ k : Nat, k ≤ len ∧ i = .int .i64 k ∧ ∃ n, wr = w.drewN n) (fun i _ => len - (intOf i).toNat)
  case atStart => exact ⟨0, Nat.zero_le _, rfl, 0, rfl⟩
  case round =>
    obtain ⟨k, hk, rfl, n, rfl⟩ := hrel
    by_cases hlt : k < len
    · have g1 : w.cell? ⟨b, off + k, none⟩ = some (.int .u8 (f k : Int)) := h1 k hlt
      have g2 : w.cell? ⟨b', off' + k, none⟩ = some (.int .u8 (f' k : Int)) := h2 k hlt
      have i1 : (0 : Int) ≤ (k : Int) := by omega
      have i2 : (k : Int) < (len : Int) := by omega
      clear h1 h2
      by_cases he : f k = f' k
      · have hd : ((f k : Int) != (f' k : Int)) = false := by simp [he]
        have HE : Hid (f k = f' k) := he
        clear he
        go_wp2
        go_quiet (fail)
        go_wp2
        go_roundw
        case rel => exact ⟨k + 1, by omega, by go_num, _, rfl⟩
        case measure => simp [intOf]; omega
      · have hd : ((f k : Int) != (f' k : Int)) = true := by rw [bne_iff_ne]; omega
        go_wp2
        go_quiet (fail)
        go_wp2
        go_ret
        exact ⟨false, n + nq, rfl, World.drewN_drewN _ _ _, fun h => absurd (h k hlt) he⟩
    · clear h1 h2
      go_wp2
      go_ret
      exact ⟨true, n, rfl, rfl, fun _ => rfl⟩

/-- zzs5633aeq, whatever the slices. -/
theorem eq_any (a a' : Option Addr) (n n' c c' : Nat) (f f' : Nat → Nat) (w : World) (hlen : n ≤ 4000000) (h1 : Bytes w a n f) (h2 : Bytes w a' n' f') :
    Calls Ybaf.prog 9 #[.slice a n c, .slice a' n' c'] w (EqSaid (n = n' ∧ ∀ i, i < n → f i = f' i) w) := by
  by_cases hne : n = n'
  · subst hne
    by_cases h0 : n = 0
    · subst h0
      refine (eq_zero a a' c c' w).mono ?_
      rintro e w' ⟨rfl, rfl⟩
      exact ⟨true, 0, rfl, rfl, fun _ => rfl⟩
    · rcases h1 with h | ⟨b, off, rfl, hc⟩
      · exact absurd h h0
      · rcases h2 with h | ⟨b', off', rfl, hc'⟩
        · exact absurd h h0
        · refine (eq_some b off b' off' n c c' f f' w hlen hc hc').mono ?_
          rintro e w' ⟨x, m, rfl, rfl, h⟩
          exact ⟨x, m, rfl, rfl, fun hh => h hh.2⟩
  · refine (eq_len a a' n n' c c' w hne).mono ?_
    rintro e w' ⟨rfl, rfl⟩
    exact ⟨false, 0, rfl, rfl, fun h => absurd h.1 hne⟩

theorem ret_bool {a b : Bool} (h : a = b) : Ending.returned (.bool a) = .returned (.bool b) := by rw [h]
theorem tt_or (a b c : Nat) (ha : a < 256) (hb : b < 256) (hc : c < 256) :
    bits .or .u32 (bits .or .u32 ((a : Int) * 65536) ((b : Int) * 256)) (c : Int) = ((a * 65536 + b * 256 + c : Nat) : Int) := by
  have e1 := u32_or_nat (a * 65536) (b * 256) (by omega) (by omega)
  rw [nat_join 16 _ _ (by omega) (by omega)] at e1
  have e2 := u32_or_nat (a * 65536 + b * 256) c (by omega) (by omega)
  rw [nat_join 8 _ _ (by omega) (by omega)] at e2
  have e3 : ((a * 65536 : Nat) : Int) = (a : Int) * 65536 := Int.natCast_mul _ _
  have e4 : ((b * 256 : Nat) : Int) = (b : Int) * 256 := Int.natCast_mul _ _
  rw [e3, e4] at e1
  rw [e1, e2]
theorem h2_or (nl fl : Nat) (h1 : nl < 32) (h2 : fl < 16) : bits .or .u8 ((nl : Int) * 8) ((fl : Int) / 2) = ((nl * 8 + fl / 2 : Nat) : Int) := by
  have e1 := u8_or_nat (nl * 8) (fl / 2) (by omega) (by omega)
  rw [nat_join 3 _ _ (by omega) (by omega)] at e1
  have e3 : ((nl * 8 : Nat) : Int) = (nl : Int) * 8 := by omega
  have e4 : ((fl / 2 : Nat) : Int) = (fl : Int) / 2 := by omega
  rw [e3, e4] at e1
  exact e1
theorem h3_or (fl rm : Nat) (h3 : rm < 128) : bits .or .u8 ((fl : Int) * 128 % 256) (rm : Int) = ((fl % 2 * 128 + rm : Nat) : Int) := by
  have e1 := u8_or_nat (fl % 2 * 128) rm (by omega) (by omega)
  rw [nat_join 7 _ _ (by omega) (by omega)] at e1
  have e3 : ((fl % 2 * 128 : Nat) : Int) = (fl : Int) * 128 % 256 := by omega
  rw [e3] at e1
  exact e1

set_option maxHeartbeats 400000 in
theorem new_any (s : ByteArray) (w : World) :
    Calls Ybaf.prog 14 #[.string s] w fun e w' => e = .returned (.iface 65 (.pointer (some ⟨w.heap.size, 0, none⟩))) ∧ Below w.heap.size w w' := by
  go_enter Ybaf.func14, Ybaf.ntmps14
  go_wp2
  go_ret
  exact ⟨rfl, (Below.refl _ _).alloc (Nat.le_refl _) _⟩

set_option maxHeartbeats 400000 in
theorem isTrace_yes (t : Nat) (w : World) (h : t ≤ 1) :
    Calls Ybaf.prog 20 #[.int .u8 t] w fun e w' => e = .returned (.bool true) ∧ w' = w := by
  by_cases h0 : t = 0
  · subst h0
    go_enter Ybaf.func20, Ybaf.ntmps20
    go_wp2
    go_ret
    exact ⟨rfl, rfl⟩
  · obtain rfl : t = 1 := by omega
    go_enter Ybaf.func20, Ybaf.ntmps20
    go_wp2
    go_ret
    exact ⟨rfl, rfl⟩

set_option maxHeartbeats 400000 in
theorem ttype_any (b off len cap b4 b5 b6 : Nat) (w : World) (_h4 : b4 < 256) (_h5 : b5 < 256) (_h6 : b6 < 256) (hl : 8 ≤ len)
    (c4 : w.cell? ⟨b, off + 4, none⟩ = some (.int .u8 (b4 : Int))) (c5 : w.cell? ⟨b, off + 5, none⟩ = some (.int .u8 (b5 : Int))) (c6 : w.cell? ⟨b, off + 6, none⟩ = some (.int .u8 (b6 : Int))) :
    Calls Ybaf.prog 21 #[.slice (some ⟨b, off, none⟩) len cap] w fun e w' => e = .returned (.int .u32 (b4 * 65536 + b5 * 256 + b6 : Nat)) ∧ ∃ n, w' = w.drewN n := by
  have HB := tt_or b4 b5 b6 _h4 _h5 _h6
  have HB' : Hid (bits .or .u32 (bits .or .u32 ((b4 : Int) * 65536) ((b5 : Int) * 256)) (b6 : Int) = ((b4 * 65536 + b5 * 256 + b6 : Nat) : Int)) := HB
  clear HB
  have i4 : (4 : Int) < (len : Int) := by omega
  have i5 : (5 : Int) < (len : Int) := by omega
  have i6 : (6 : Int) < (len : Int) := by omega
  go_enter Ybaf.func21, Ybaf.ntmps21
  go_wp2
  go_quiet (fail)
  go_wp2
  go_ret
  exact ⟨ret_int HB'.out, _, rfl⟩

set_option maxHeartbeats 400000 in
theorem lhas_any (v b : Nat) (f : Value) (w : World) (_hv : v < 4294967296) (_hb : b ≤ 22) :
    Calls Ybaf.prog 31 #[.agg #[.int .u64 24, f], .int .u32 v, .int .u64 b] w fun e w' => e = .returned (.bool (bt v b)) ∧ Below w.heap.size w w' := by
  have HB : Hid ((bits .and .u32 ((v : Int) / 2 ^ (23 - b)) 1 != 0) = bt v b) := bt_ne v b _hv
  go_enter Ybaf.func31, Ybaf.ntmps31
  go_wp2
  go_ret
  exact ⟨ret_bool HB.out, (Below.refl _ _).alloc (Nat.le_refl _) _⟩

set_option maxHeartbeats 400000 in
theorem thas_any (a0 a1 a2 v b : Nat) (f wr : Value) (w : World) (hv : v < 4294967296) (hb : b ≤ 22) (h0 : w.cell? ⟨6, 0, none⟩ = some (.int .u64 24)) (h1 : w.cell? ⟨6, 1, none⟩ = some f) :
    Calls Ybaf.prog 24 #[.agg #[.int .u8 a0, .int .u8 a1, .int .u8 a2, .int .u32 v, wr], .int .u64 b] w fun e w' => e = .returned (.bool (bt v b)) ∧ Below w.heap.size w w' := by
  have hlt : 6 < w.heap.size := World.block_lt_of_cell? w _ h0
  go_enter Ybaf.func24, Ybaf.ntmps24
  go_wp2_with fail
  refine (lhas_any v b f _ hv hb).mono ?_
  rintro e w' ⟨rfl, hb⟩
  go_wp2
  go_ret
  exact ⟨rfl, ((Below.refl _ _).alloc (Nat.le_refl _) _).trans (hb.mono (by simp))⟩

set_option maxHeartbeats 400000 in
theorem putHeader_any (nl fl rm ty g o len cap N : Nat) (wr : Value) (f : Nat → Nat) (w : World) (_h1 : nl < 32) (_h2 : fl < 16) (_h3 : rm < 128) (hl : 4 ≤ len) (hN : o + 4 ≤ N) (hr : Row w g N f) :
    Calls Ybaf.prog 18 #[.agg #[.int .u8 nl, .int .u8 fl, .int .u8 rm, .int .u32 ty, wr], .slice (some ⟨g, o, none⟩) len cap] w fun e w' => e = .returned (.tuple #[]) ∧ Row w' g N (fun i => if i = o + 3 then fl % 2 * 128 + rm else if i = o + 2 then nl * 8 + fl / 2 else f i) ∧ But w.heap.size g w w' := by
  have hg := hr.lt
  have c2 := hr.cell (i := o + 2) (by omega)
  have c3 := hr.cell (i := o + 3) (by omega)
  have f2 := hr.frozen (o + 2)
  have f3 := hr.frozen (o + 3)
  have i2 : (2 : Int) < (len : Int) := by omega
  have i3 : (3 : Int) < (len : Int) := by omega
  go_enter Ybaf.func18, Ybaf.ntmps18
  go_wp2
  go_end0
  refine ⟨rfl, ?_, ?_⟩
  · rw [h2_or nl fl _h1 _h2, h3_or fl rm _h3]
    exact ((hr.set (o + 2) (nl * 8 + fl / 2) (fun _ _ => rfl)).set (o + 3) (fl % 2 * 128 + rm) (fun _ _ => rfl)).below (B := w.heap.size) ((Below.refl w.heap.size _).alloc (by simp) _) hg
  · exact ((But.setCell _ _ _ _ _).trans (But.setCell _ _ _ _ _)).trans (Below.but ((Below.refl w.heap.size _).alloc (by simp) _) g)
end Go.Proofs.YbulkdlqeFmt
