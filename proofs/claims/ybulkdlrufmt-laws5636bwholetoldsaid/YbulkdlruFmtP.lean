/-
  The law's own parser: take, other, num, count.
-/
import Derived.Test.YbulkdlruFmtO
namespace Go.Proofs.YbulkdlruFmt
open Go.RowKit Go.Shelf
set_option linter.unusedVariables false
set_option linter.unusedSimpArgs false

/-- The parser's cells. -/
def Md (M T N cap : Nat) (s : St) (w : World) : Prop := s.p ≤ N ∧ w.heap[M]? = some (.cells #[.slice (some ⟨T, 0, none⟩) N cap, .int .i64 (s.p : Int), .int .i64 (s.k : Int)] 133 (0, 0))
theorem mcells {w : World} {M : Nat} {a0 a1 a2 : Value} (h : w.heap[M]? = some (.cells #[a0, a1, a2] 133 (0, 0))) :
    w.cell? ⟨M, 0, none⟩ = some a0 ∧ w.cell? ⟨M, 1, none⟩ = some a1 ∧ w.cell? ⟨M, 2, none⟩ = some a2 ∧ ∀ j, w.frozen? ⟨M, j, none⟩ = false := by
  refine ⟨?_, ?_, ?_, fun j => frozen_of_row w M j _ 133 h⟩ <;> rw [cell_of_row w M _ _ 133 (0, 0) h] <;> rfl
theorem m_set {W : World} {M : Nat} {a0 a1 a2 : Value} (h : W.heap[M]? = some (.cells #[a0, a1, a2] 133 (0, 0))) (k : Nat) (v : Value) :
    (W.setCell ⟨M, k, none⟩ v).heap[M]? = some (.cells (#[a0, a1, a2].setIfInBounds k v) 133 (0, 0)) := by
  rw [heap_setCell_same W M k _ 133 _ h]
theorem Md.same {M T N cap : Nat} {s : St} {ex : List Nat} {w w' : World} (h : Md M T N cap s w) (hs : Same ex w w') (hM : M ∉ ex) : Md M T N cap s w' := ⟨h.1, (hs.block M (Array.getElem?_eq_some_iff.1 h.2).1 hM).trans h.2⟩

set_option maxHeartbeats 1000000 in
theorem other_any (M T N cap : Nat) (s : St) (W : World) (h : Md M T N cap s W) :
    Calls Ybaf.prog 28 #[.pointer (some ⟨M, 0, none⟩)] W fun e w' => e = .returned (.tuple #[]) ∧ Md M T N cap (oth s) w' ∧ Same [M] W w' := by
  obtain ⟨hp, hM⟩ := h
  obtain ⟨c0, c1, c2, cf⟩ := mcells hM
  by_cases hk : s.k = 0
  · have e1 : oth s = ⟨s.p, 2⟩ := if_pos hk
    rw [e1]
    rw [hk] at c2
    have hM2 := m_set hM 2 (.int .i64 2)
    go_enter Ybaf.func28, Ybaf.ntmps28
    go_wp2
    go_end0
    exact ⟨rfl, ⟨hp, hM2⟩, Same.setCell _ _ _ _ (by simp)⟩
  · have e1 : oth s = s := if_neg hk
    rw [e1]
    obtain ⟨k, ek⟩ : ∃ k, s.k = k := ⟨_, rfl⟩
    rw [ek] at hk c2
    have j1 : ((k : Int) == 0) = false := beq_eq_false_iff_ne.2 (by omega)
    have HM : Hid (Md M T N cap s W) := ⟨hp, hM⟩
    clear hM ek hp
    go_enter Ybaf.func28, Ybaf.ntmps28
    go_wp2
    go_end0
    exact ⟨rfl, HM.out, Same.refl _ _⟩

set_option maxHeartbeats 2000000 in
theorem mtake (M T N cap n : Nat) (s : St) (W : World) (h : Md M T N cap s W) (hn : 1 ≤ n) (hn2 : (n : Int) ≤ 5000000000) (hN : N ≤ cap) (hN2 : (N : Int) ≤ 200000000) :
    Calls Ybaf.prog 29 #[.pointer (some ⟨M, 0, none⟩), .int .i64 (n : Int)] W fun e w' => e = .returned (tkV T N n (cap - s.p) s) ∧ Md M T N cap (tk N n s) w' ∧ Same [M] W w' := by
  obtain ⟨hp, hM⟩ := h
  obtain ⟨c0, c1, c2, cf⟩ := mcells hM
  obtain ⟨p, k⟩ := s
  simp only at hp hM c1 c2 ⊢
  by_cases hk : k = 0
  · subst hk
    have e1 : IntKind.i64.wrap ((N : Int) - (p : Int)) = (N : Int) - (p : Int) := IntWalk.i64_in _ (by omega)
    have e2 : IntKind.i64.wrap ((p : Int) + (n : Int)) = (p : Int) + (n : Int) := IntWalk.i64_in _ (by omega)
    by_cases hok : p + n ≤ N
    · have hO : Ok N n ⟨p, 0⟩ := ⟨rfl, hok⟩
      have hV : tkV T N n (cap - p) ⟨p, 0⟩ = .slice (some ⟨T, p, none⟩) n (cap - p) := by unfold tkV; rw [if_pos hO]
      rw [hV, tk_ok hO]
      have i1 : ¬ (N : Int) - (p : Int) < (n : Int) := by omega
      have i2 : decide ((N : Int) - (p : Int) < (n : Int)) = false := decide_eq_false i1
      obtain ⟨q, hq⟩ : ∃ q, p + n = q := ⟨_, rfl⟩
      have e3 : (p : Int) + (n : Int) = (q : Int) := by omega
      have e4 : IntKind.i64.wrap (q : Int) = (q : Int) := IntWalk.i64_in _ (by omega)
      have i3 : (0 : Int) ≤ (p : Int) := by omega
      have i4 : (p : Int) ≤ (q : Int) := by omega
      have i5 : (q : Int) ≤ (cap : Int) := by omega
      have i6 : ¬ cap = p := by omega
      have i7 : q - p = n := by omega
      have HQ : Hid (p + n = q ∧ q ≤ N) := ⟨hq, by omega⟩
      clear hq hok hV hO hn hn2 hN hN2 hp e2
      go_enter Ybaf.func29, Ybaf.ntmps29
      go_wp2
      go_quiet (fail)
      go_wp2
      go_quiet (fail)
      go_wp2
      go_ret
      have hq := HQ.out
      refine ⟨rfl, ⟨by show p + n ≤ N; omega, ?_⟩, ?_⟩
      · show (World.setCell _ ⟨M, 1, none⟩ (.int .i64 (q : Int))).heap[M]? = _
        rw [← hq.1]
        exact m_set (by exact hM) 1 (.int .i64 ((p + n : Nat) : Int))
      · first
          | exact (Same.drewN _ _ _).trans (Same.setCell _ _ _ _ (by simp))
          | exact ((Same.drewN _ _ _).trans (Same.drewN _ _ _)).trans (Same.setCell _ _ _ _ (by simp))
    · have hV : tkV T N n (cap - p) ⟨p, 0⟩ = .slice none 0 0 := by unfold tkV; rw [if_neg (fun x => hok x.2)]
      rw [hV, tk_short rfl hok]
      have i1 : (N : Int) - (p : Int) < (n : Int) := by omega
      have hM2 := m_set hM 2 (.int .i64 1)
      clear hok hV hn hn2 hN hN2 e2
      go_enter Ybaf.func29, Ybaf.ntmps29
      go_wp2
      go_quiet (fail)
      go_wp2
      go_ret
      exact ⟨rfl, ⟨hp, by exact hM2⟩, (Same.drewN _ _ _).trans (Same.setCell _ _ _ _ (by simp))⟩
  · have hV : tkV T N n (cap - p) ⟨p, k⟩ = .slice none 0 0 := by unfold tkV; rw [if_neg (fun x => hk x.1)]
    rw [hV, tk_bad hk]
    have j1 : ((k : Int) == 0) = false := beq_eq_false_iff_ne.2 (by omega)
    have j2 : ((k : Int) != 0) = true := by rw [bne_iff_ne]; omega
    have HM : Hid (Md M T N cap ⟨p, k⟩ W) := ⟨hp, hM⟩
    clear hM hp hV hn hn2 hN hN2
    go_enter Ybaf.func29, Ybaf.ntmps29
    go_wp2
    go_ret
    exact ⟨rfl, HM.out, Same.refl _ _⟩

theorem or_step (x y : Nat) (hy : y < 256) (h : x * 256 + y < 18446744073709551616) : bits .or .u64 (IntKind.u64.wrap ((x : Int) * 256)) (IntKind.u64.wrap (y : Int)) = ((x * 256 + y : Nat) : Int) := by
  rw [IntWalk.u64_in _ (by omega), IntWalk.u64_in _ (by omega)]
  have hc : bits .or .u64 ((x : Int) * 256) (y : Int) = bits .or .u64 (y : Int) ((x : Int) * 256) := by simp only [bits, BitVec.or_comm]
  rw [hc, Go.u64_or8 _ _ (by omega) (by omega) (by omega) (by omega) (by omega)]
  omega

set_option maxHeartbeats 2000000 in
theorem mnum (M T N cap n : Nat) (f : Nat → Nat) (s : St) (W : World) (h : Md M T N cap s W) (hn : 1 ≤ n) (hn2 : n ≤ 8) (hN : N ≤ cap) (hN2 : (N : Int) ≤ 200000000) (hT : Row W T N f) (hf : ∀ i, f i < 256) (hMT : M ≠ T) :
    Calls Ybaf.prog 27 #[.pointer (some ⟨M, 0, none⟩), .int .i64 (n : Int)] W fun e w' => e = .returned (.int .u64 (num f N n s : Nat)) ∧ Md M T N cap (tk N n s) w' ∧ Same [M] W w' := by
  have htk := mtake M T N cap n s W h hn (by omega) hN hN2
  by_cases hok : Ok N n s
  · have hV : tkV T N n (cap - s.p) s = .slice (some ⟨T, s.p, none⟩) n (cap - s.p) := by unfold tkV; rw [if_pos hok]
    have hnm : num f N n s = be f s.p n := by unfold num; rw [if_pos hok]
    rw [hV] at htk
    rw [hnm]
    obtain ⟨cq, hcq⟩ : ∃ cq, cap - s.p = cq := ⟨_, rfl⟩
    rw [hcq] at htk
    have HO : Hid (s.p + n ≤ N) := hok.2
    have hnI : (n : Int) ≤ 8 := by omega
    clear hok hV hnm hcq
    go_enter Ybaf.func27, Ybaf.ntmps27
    go_wp2_with (go_at_call 29; refine htk.mono ?_; rintro e w1 ⟨rfl, h1, hs1⟩)
    have hT1 := hT.same hs1 (by simp; omega)
    clear htk
    go_loopw [6, 7] (fun v i wr => ∃ k : Nat, k ≤ n ∧ v = .int .u64 (be f s.p k : Nat) ∧ i = .int .i64 (k : Int) ∧ ∃ q, wr = w1.drewN q) (fun _ i _ => n - (intOf i).toNat)
    case atStart => exact ⟨0, Nat.zero_le _, rfl, rfl, 0, rfl⟩
    case round =>
      obtain ⟨k, hk, rfl, rfl, q, rfl⟩ := hrel
      by_cases hlt : k < n
      · have i1 : (k : Int) < (n : Int) := by omega
        have hcell := hT1.cell (i := s.p + k) (by have := HO.out; omega)
        have hbl := be_lt f s.p hf k
        have hfl := hf (s.p + k)
        have hb7 : be f s.p k * 256 + f (s.p + k) < 18446744073709551616 := by
          have : (256 : Nat) ^ k ≤ 256 ^ 7 := Nat.pow_le_pow_right (by omega) (by omega)
          omega
        obtain ⟨x, hx⟩ : ∃ x, be f s.p k = x := ⟨_, rfl⟩
        obtain ⟨y, hy⟩ : ∃ y, f (s.p + k) = y := ⟨_, rfl⟩
        rw [hx] at hb7 hbl
        rw [hy] at hb7 hfl hcell
        have HK : Hid (k < n ∧ n ≤ 8 ∧ be f s.p k = x ∧ f (s.p + k) = y ∧ y < 256 ∧ x * 256 + y < 18446744073709551616) := ⟨hlt, hn2, hx, hy, hfl, hb7⟩
        rw [hx]
        have i2 : (0 : Int) ≤ (k : Int) := by omega
        have i3 : IntKind.i64.wrap ((k : Int) + 1) = (k : Int) + 1 := IntWalk.i64_in _ (by omega)
        clear hx hy hbl hfl hb7 hk hlt hn hn2 hN hN2 hnI hf hT h
        go_wp2
        obtain ⟨g1, g2, g3, g4, g5, g6⟩ := HK.out
        have hor := or_step x y g5 g6
        rw [hor]
        refine ⟨⟨k + 1, by omega, ?_, by go_num, q, rfl⟩, ?_⟩
        · simp only [be, g3, g4]
        · simp [intOf]
          omega
      · have hkn : k = n := by omega
        subst hkn
        have i1 : ¬ (k : Int) < (k : Int) := by omega
        clear hk hlt hn hn2 hN hN2 hnI hf hT h
        go_wp2
        go_ret
        exact ⟨rfl, h1.same (Same.drewN [] w1 q) (by simp), hs1.trans (Same.drewN _ _ _)⟩
  · have hV : tkV T N n (cap - s.p) s = .slice none 0 0 := by unfold tkV; rw [if_neg hok]
    have hnm : num f N n s = 0 := by unfold num; rw [if_neg hok]
    rw [hV] at htk
    rw [hnm]
    clear hok hV hnm
    go_enter Ybaf.func27, Ybaf.ntmps27
    go_wp2_with (go_at_call 29; refine htk.mono ?_; rintro e w1 ⟨rfl, h1, hs1⟩)
    refine wp_loop_rounds 1 ?_; rw [rounds_succ]
    go_wp2
    go_ret
    exact ⟨rfl, h1, hs1⟩
end Go.Proofs.YbulkdlruFmt
