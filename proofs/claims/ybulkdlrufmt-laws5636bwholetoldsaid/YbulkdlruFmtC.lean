/-
  The reader's numbers.
-/
import Derived.Test.YbulkdlruFmtB
namespace Go.Proofs.YbulkdlruFmt
open Go.RowKit Go.Shelf
set_option linter.unusedVariables false

/-- What is fixed while the reader reads: the text, errEndsEarly. -/
structure Env (T N cap : Nat) (f : Nat → Nat) (ee : Addr) (w : World) : Prop where
  row : Row w T N f
  g0 : w.cell? ⟨0, 0, none⟩ = some (.iface 118 (.pointer (some ee)))
  lt : ee.block < w.heap.size
  hf : ∀ i, f i < 256
  hN : N ≤ cap
  hN2 : (N : Int) ≤ 200000000
theorem Env.same {T N cap : Nat} {f : Nat → Nat} {ee : Addr} {ex : List Nat} {w w' : World} (h : Env T N cap f ee w) (hs : Same ex w w') (hT : T ∉ ex) (h0 : 0 ∉ ex) : Env T N cap f ee w' :=
  ⟨h.row.same hs hT, (World.cell?_of_block (w := w) (hs.block 0 (World.block_lt_of_cell? w _ h.g0) h0)).trans h.g0, Nat.lt_of_lt_of_le h.lt hs.size, h.hf, h.hN, h.hN2⟩

/-- The number read. -/
def num (f : Nat → Nat) (N n : Nat) (s : St) : Nat := if Ok N n s then be f s.p n else 0
theorem neqNil (a : Addr) (n c : Nat) (w : World) : (binOp .neq 33 (.slice (some a) n c) (.slice none 0 0)).run Ybaf.prog w = .ok (.bool true) w := by kernel_rfl
theorem neqNil0 (w : World) : (binOp .neq 33 (.slice none 0 0) (.slice none 0 0)).run Ybaf.prog w = .ok (.bool false) w := by kernel_rfl

set_option maxHeartbeats 1000000 in
theorem u16_any (I T N cap : Nat) (f : Nat → Nat) (ee : Addr) (s : St) (W : World) (hE : Env T N cap f ee W) (h : Rd I T N cap ee s W) (hI : I ≠ T) :
    Calls Ybaf.prog 36 #[.pointer (some ⟨I, 0, none⟩)] W fun e w' => e = .returned (.int .u16 (num f N 2 s : Nat)) ∧ Rd I T N cap ee (tk N 2 s) w' ∧ Same [I] W w' := by
  have htk := rtake I T N cap 2 ee s W h (by omega) (by omega) hE.hN hE.hN2 hE.g0
  have hn1 := neqNil
  have hn0 := neqNil0
  by_cases hok : Ok N 2 s
  · have hV : tkV T N 2 2 s = .slice (some ⟨T, s.p, none⟩) 2 2 := by unfold tkV; rw [if_pos hok]
    have hn : num f N 2 s = be f s.p 2 := by unfold num; rw [if_pos hok]
    rw [hV] at htk
    rw [hn]
    have HO : Hid (Ok N 2 s) := hok
    clear hok hV hn
    go_enter Ybaf.func36, Ybaf.ntmps36
    go_wp2_with (go_at_call 21; refine htk.mono ?_; rintro e w1 ⟨rfl, h1, hs1⟩)
    refine (be16 T s.p 2 N f w1 (hE.row.same hs1 (by simp; omega)) hE.hf HO.out.2).mono ?_
    rintro e w2 ⟨rfl, hb2⟩
    go_wp2
    go_ret
    have hs2 : Same [I] w1 w2 := Below.same hb2 _ (Nat.le_refl _)
    have h2 : Rd I T N cap ee (tk N 2 s) w2 := h1.same (Below.same hb2 [] (Nat.le_refl _)) (by simp)
    exact ⟨rfl, h2, hs1.trans hs2⟩
  · have hV : tkV T N 2 2 s = .slice none 0 0 := by unfold tkV; rw [if_neg hok]
    have hn : num f N 2 s = 0 := by unfold num; rw [if_neg hok]
    rw [hV] at htk
    rw [hn]
    clear hok hV hn
    go_enter Ybaf.func36, Ybaf.ntmps36
    go_wp2_with (go_at_call 21; refine htk.mono ?_; rintro e w1 ⟨rfl, h1, hs1⟩)
    go_ret
    exact ⟨rfl, h1, hs1⟩
set_option maxHeartbeats 1000000 in
theorem u32_any (I T N cap : Nat) (f : Nat → Nat) (ee : Addr) (s : St) (W : World) (hE : Env T N cap f ee W) (h : Rd I T N cap ee s W) (hI : I ≠ T) :
    Calls Ybaf.prog 39 #[.pointer (some ⟨I, 0, none⟩)] W fun e w' => e = .returned (.int .u32 (num f N 4 s : Nat)) ∧ Rd I T N cap ee (tk N 4 s) w' ∧ Same [I] W w' := by
  have htk := rtake I T N cap 4 ee s W h (by omega) (by omega) hE.hN hE.hN2 hE.g0
  have hn1 := neqNil
  have hn0 := neqNil0
  by_cases hok : Ok N 4 s
  · have hV : tkV T N 4 4 s = .slice (some ⟨T, s.p, none⟩) 4 4 := by unfold tkV; rw [if_pos hok]
    have hn : num f N 4 s = be f s.p 4 := by unfold num; rw [if_pos hok]
    rw [hV] at htk
    rw [hn]
    have HO : Hid (Ok N 4 s) := hok
    clear hok hV hn
    go_enter Ybaf.func39, Ybaf.ntmps39
    go_wp2_with (go_at_call 21; refine htk.mono ?_; rintro e w1 ⟨rfl, h1, hs1⟩)
    refine (be32 T s.p 4 N f w1 (hE.row.same hs1 (by simp; omega)) hE.hf HO.out.2).mono ?_
    rintro e w2 ⟨rfl, hb2⟩
    go_wp2
    go_ret
    have hs2 : Same [I] w1 w2 := Below.same hb2 _ (Nat.le_refl _)
    have h2 : Rd I T N cap ee (tk N 4 s) w2 := h1.same (Below.same hb2 [] (Nat.le_refl _)) (by simp)
    exact ⟨rfl, h2, hs1.trans hs2⟩
  · have hV : tkV T N 4 4 s = .slice none 0 0 := by unfold tkV; rw [if_neg hok]
    have hn : num f N 4 s = 0 := by unfold num; rw [if_neg hok]
    rw [hV] at htk
    rw [hn]
    clear hok hV hn
    go_enter Ybaf.func39, Ybaf.ntmps39
    go_wp2_with (go_at_call 21; refine htk.mono ?_; rintro e w1 ⟨rfl, h1, hs1⟩)
    go_ret
    exact ⟨rfl, h1, hs1⟩
set_option maxHeartbeats 1000000 in
theorem u64_any (I T N cap : Nat) (f : Nat → Nat) (ee : Addr) (s : St) (W : World) (hE : Env T N cap f ee W) (h : Rd I T N cap ee s W) (hI : I ≠ T) :
    Calls Ybaf.prog 38 #[.pointer (some ⟨I, 0, none⟩)] W fun e w' => e = .returned (.int .u64 (num f N 8 s : Nat)) ∧ Rd I T N cap ee (tk N 8 s) w' ∧ Same [I] W w' := by
  have htk := rtake I T N cap 8 ee s W h (by omega) (by omega) hE.hN hE.hN2 hE.g0
  have hn1 := neqNil
  have hn0 := neqNil0
  by_cases hok : Ok N 8 s
  · have hV : tkV T N 8 8 s = .slice (some ⟨T, s.p, none⟩) 8 8 := by unfold tkV; rw [if_pos hok]
    have hn : num f N 8 s = be f s.p 8 := by unfold num; rw [if_pos hok]
    rw [hV] at htk
    rw [hn]
    have HO : Hid (Ok N 8 s) := hok
    clear hok hV hn
    go_enter Ybaf.func38, Ybaf.ntmps38
    go_wp2_with (go_at_call 21; refine htk.mono ?_; rintro e w1 ⟨rfl, h1, hs1⟩)
    refine (be64 T s.p 8 N f w1 (hE.row.same hs1 (by simp; omega)) hE.hf HO.out.2).mono ?_
    rintro e w2 ⟨rfl, hb2⟩
    go_wp2
    go_ret
    have hs2 : Same [I] w1 w2 := Below.same hb2 _ (Nat.le_refl _)
    have h2 : Rd I T N cap ee (tk N 8 s) w2 := h1.same (Below.same hb2 [] (Nat.le_refl _)) (by simp)
    exact ⟨rfl, h2, hs1.trans hs2⟩
  · have hV : tkV T N 8 8 s = .slice none 0 0 := by unfold tkV; rw [if_neg hok]
    have hn : num f N 8 s = 0 := by unfold num; rw [if_neg hok]
    rw [hV] at htk
    rw [hn]
    clear hok hV hn
    go_enter Ybaf.func38, Ybaf.ntmps38
    go_wp2_with (go_at_call 21; refine htk.mono ?_; rintro e w1 ⟨rfl, h1, hs1⟩)
    go_ret
    exact ⟨rfl, h1, hs1⟩

theorem num_lt (f : Nat → Nat) (N n : Nat) (s : St) (hf : ∀ i, f i < 256) : num f N n s < 256 ^ n := by
  unfold num
  split
  · exact be_lt f _ hf n
  · exact Nat.pow_pos (by omega)

set_option maxHeartbeats 400000 in
theorem index_any (I T N cap : Nat) (f : Nat → Nat) (ee : Addr) (s : St) (W : World) (hE : Env T N cap f ee W) (h : Rd I T N cap ee s W) (hI : I ≠ T) :
    Calls Ybaf.prog 51 #[.pointer (some ⟨I, 0, none⟩)] W fun e w' => e = .returned (.int .i64 (num f N 2 s : Nat)) ∧ Rd I T N cap ee (tk N 2 s) w' ∧ Same [I] W w' := by
  have hu := u16_any I T N cap f ee s W hE h hI
  have hl := num_lt f N 2 s hE.hf
  obtain ⟨x, hx⟩ : ∃ x, num f N 2 s = x := ⟨_, rfl⟩
  rw [hx] at hu hl ⊢
  have i1 : (x : Int) < 65536 := by omega
  have i2 : IntKind.i64.wrap (x : Int) = (x : Int) := IntWalk.i64_in _ (by omega)
  clear hl hx
  go_enter Ybaf.func51, Ybaf.ntmps51
  go_wp2_with (go_at_call 36; refine hu.mono ?_; rintro e w1 ⟨rfl, h1, hs1⟩)
  go_ret
  exact ⟨rfl, h1, hs1⟩
set_option maxHeartbeats 400000 in
theorem sig_any (I T N cap : Nat) (f : Nat → Nat) (ee : Addr) (s : St) (W : World) (hE : Env T N cap f ee W) (h : Rd I T N cap ee s W) :
    Calls Ybaf.prog 52 #[.pointer (some ⟨I, 0, none⟩)] W fun e w' => e = .returned (tkV T N 64 64 s) ∧ Rd I T N cap ee (tk N 64 s) w' ∧ Same [I] W w' := by
  have htk := rtake I T N cap 64 ee s W h (by omega) (by omega) hE.hN hE.hN2 hE.g0
  obtain ⟨v, hv⟩ : ∃ v, tkV T N 64 64 s = v := ⟨_, rfl⟩
  rw [hv] at htk ⊢
  clear hv
  go_enter Ybaf.func52, Ybaf.ntmps52
  go_wp2_with (go_at_call 21; refine htk.mono ?_; rintro e w1 ⟨rfl, h1, hs1⟩)
  go_ret
  exact ⟨rfl, h1, hs1⟩
end Go.Proofs.YbulkdlruFmt
