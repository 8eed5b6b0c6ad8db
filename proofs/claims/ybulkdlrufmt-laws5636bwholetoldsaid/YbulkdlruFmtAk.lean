/-
  The law's own writer: sigs.
-/
import Derived.Test.YbulkdlruFmtAj
namespace Go.Proofs.YbulkdlruFmt
open Go.RowKit Go.Shelf
set_option linter.unusedVariables false
set_option linter.unusedSimpArgs false

/-- The law's signatures in memory: two cells each, below the base. -/
def SigV (B : Nat) (w : World) (v : Value) (m : Nat) : Prop :=
  ∃ a c, v = .slice a m c ∧ (m = 0 ∨ ∃ b o, a = some ⟨b, o, none⟩ ∧ b < B ∧ ∀ i, i < m → ∃ x y : Nat, w.cell? ⟨b, o + i * 2, none⟩ = some (.int .u16 (x : Int)) ∧ w.cell? ⟨b, o + i * 2 + 1, none⟩ = some (.int .u8 (y : Int)))
theorem SigV.below {B : Nat} {w w' : World} {v : Value} {m : Nat} (h : SigV B w v m) (hb : Below B w w') : SigV B w' v m := by
  obtain ⟨a, c, rfl, h⟩ := h
  refine ⟨a, c, rfl, ?_⟩
  rcases h with h | ⟨b, o, rfl, hbB, h⟩
  · exact .inl h
  · refine .inr ⟨b, o, rfl, hbB, fun i hi => ?_⟩
    obtain ⟨x, y, h1, h2⟩ := h i hi
    exact ⟨x, y, (World.cell?_of_block (w := w) (hb.block b hbB)).trans h1, (World.cell?_of_block (w := w) (hb.block b hbB)).trans h2⟩
def SgRel (B N m : Nat) (W : World) (s i : Value) (wr : World) : Prop := ∃ k : Nat, i = .int .i64 (k : Int) ∧ k ≤ m ∧ Str wr B s (N + 66 * k) ∧ Below B W wr
def SjRel (B N : Nat) (W : World) (s i : Value) (wr : World) : Prop := ∃ k : Nat, i = .int .i64 (k : Int) ∧ k ≤ 64 ∧ Str wr B s (N + k) ∧ Below B W wr

set_option maxHeartbeats 2000000 in
theorem sigs_any (B N m : Nat) (sv v : Value) (W : World) (hs : Str W B sv N) (hv : SigV B W v m) (hN : N + 2 + 66 * m ≤ 200000000) (hB : B ≤ W.heap.size) :
    Calls Ybaf.prog 8 #[sv, v] W fun e w' => ∃ sv', e = .returned sv' ∧ Str w' B sv' (N + 2 + 66 * m) ∧ Below B W w' := by
  obtain ⟨a, c, rfl, hv⟩ := hv
  have hp := put_any B N 2 (m : Int) sv W hs (by omega) (by omega) hB
  have i0 : IntKind.u64.wrap (m : Int) = (m : Int) := IntWalk.u64_in _ (by omega)
  have i9 : (m : Int) ≤ 4000000 := by omega
  have HN : Hid (N + 2 + 66 * m ≤ 200000000 ∧ B ≤ W.heap.size) := ⟨hN, hB⟩
  clear hN hB hs
  go_enter Ybaf.func8, Ybaf.ntmps8
  go_upto_block 0 with (go_at_call 7; refine hp.mono ?_; rintro e w1 ⟨s1, rfl, hs1, hb1⟩)
  have hst : SgRel B (N + 2) m W s1 (.int .i64 0) w1 := ⟨0, rfl, Nat.zero_le _, hs1, hb1⟩
  clear hp hs1 hb1
  go_wp2
  go_loopw [0, 14] (fun s i wr => SgRel B (N + 2) m W s i wr) (fun s i _ => m - (intOf i).toNat)
  case atStart => exact hst
  case round =>
    obtain ⟨k, rfl, hk, hstr, hb⟩ := hrel
    clear hst
    by_cases hlt : k < m
    · rcases hv with hv | ⟨b, o, rfl, hbB, hv⟩
      · omega
      obtain ⟨x, y, h1, h2⟩ := hv k hlt
      have i1 : (k : Int) < (m : Int) := by omega
      have c1 := (World.cell?_of_block (w := W) (hb.block b hbB)).trans h1
      have hp := fun (z : Int) => put_any B (N + 2 + 66 * k) 2 z _ wr hstr (by have := HN.out; omega) (by omega) (Nat.le_trans HN.out.2 hb.size)
      have HK : Hid (k < m ∧ Below B W wr) := ⟨hlt, hb⟩
      clear h1 hstr hk hlt hv hb
      go_upto_block 2 with (go_at_call 7; refine (hp _).mono ?_; rintro e w2 ⟨s2, rfl, hs2, hb2⟩)
      have hst2 : SjRel B (N + 2 + 66 * k + 2) W s2 (.int .i64 0) w2 := ⟨0, rfl, Nat.zero_le _, hs2, HK.out.2.trans hb2⟩
      clear hp hs2 hb2 c1
      go_wp2
      go_loopw [0, 6] (fun s i wr => SjRel B (N + 2 + 66 * k + 2) W s i wr) (fun s i _ => 64 - (intOf i).toNat)
      case atStart => exact hst2
      case round =>
        obtain ⟨j, rfl, hj, ⟨g, cap, f, rfl, hf, hown⟩, hb⟩ := hrel
        clear hst2
        by_cases hjl : j < 64
        · have i2 : (j : Int) < 64 := by omega
          have c2 := (World.cell?_of_block (w := W) (hb.block b hbB)).trans h2
          have i2' : IntKind.i64.wrap ((j : Int) + 1) = (j : Int) + 1 := IntWalk.i64_in _ (by omega)
          obtain ⟨d, hd⟩ : ∃ d, N + 2 + 66 * k + 2 + j = d := ⟨_, rfl⟩
          rw [hd] at hown ⊢
          obtain ⟨z, hz, hzl⟩ : ∃ z : Nat, ((y : Int) + (j : Int)) % 256 = (z : Int) ∧ z < 256 := ⟨(((y : Int) + (j : Int)) % 256).toNat, by omega, by omega⟩
          have HJ : Hid (j < 64 ∧ N + 2 + 66 * k + 2 + j = d ∧ z < 256) := ⟨hjl, hd, hzl⟩
          clear hj hjl hd h2 hzl
          go_wp2_with (at_builtin; refine wpList_appB _ rfl (.tmp 29) (.tmp 38) rfl B g cap d f rfl hf (hown.alloc _) (some ⟨wr.heap.size, 0, none⟩) 1 1 (fun _ => z) rfl (.inr ⟨wr.heap.size, 0, rfl, fun i hi => by (obtain rfl : i = 0 := by omega); simp [go_sem]⟩) (fun _ => HJ.out.2.2) (fun h => by cases h) (by have := HJ.out; have := HK.out; have := HN.out; omega) (by have := hb.size; have := HN.out; simp; omega) ?_; intro g' cap' w3 f1 hf1 hown1 hb1)
          have hrel2 : SjRel B (N + 2 + 66 * k + 2) W (.slice (some ⟨g', 0, none⟩) (d + 1) cap') (.int .i64 ((j + 1 : Nat) : Int)) w3 := by
            obtain ⟨h1, h2, h3⟩ := HJ.out
            refine ⟨j + 1, rfl, by omega, ⟨g', cap', f1, ?_, hf1, ?_⟩, ?_⟩
            · rw [show N + 2 + 66 * k + 2 + (j + 1) = d + 1 by omega]
            · rw [show N + 2 + 66 * k + 2 + (j + 1) = d + 1 by omega]
              exact hown1
            · exact (hb.alloc (by have := hb.size; have := HN.out; omega) _).trans hb1
          clear hown1 hb1 hown hb
          go_roundw
          case rel =>
            rw [show ((j + 1 : Nat) : Int) = (j : Int) + 1 by omega] at hrel2
            first | exact hrel2 | ((repeat apply Exists.intro); exact ⟨hrel2, rfl⟩)
          case measure =>
            have := HJ.out.1
            simp [intOf]
            omega
        · obtain rfl : j = 64 := by omega
          have i3 : IntKind.i64.wrap ((k : Int) + 1) = (k : Int) + 1 := IntWalk.i64_in _ (by omega)
          have hrel2 : SgRel B (N + 2) m W (.slice (some ⟨g, 0, none⟩) (N + 2 + 66 * k + 2 + 64) cap) (.int .i64 ((k + 1 : Nat) : Int)) wr := by
            refine ⟨k + 1, rfl, HK.out.1, ⟨g, cap, f, ?_, hf, ?_⟩, hb⟩
            · rw [show N + 2 + 66 * (k + 1) = N + 2 + 66 * k + 2 + 64 by omega]
            · rw [show N + 2 + 66 * (k + 1) = N + 2 + 66 * k + 2 + 64 by omega]
              exact hown
          clear hown hb hj
          go_wp2
          go_roundw
          case rel =>
            rw [show ((k + 1 : Nat) : Int) = (k : Int) + 1 by omega] at hrel2
            first | exact hrel2 | ((repeat apply Exists.intro); exact ⟨hrel2, rfl⟩)
          case measure =>
            have := HK.out.1
            simp [intOf]
            omega
    · obtain rfl : k = m := by omega
      have i1 : ¬ (k : Int) < (k : Int) := by omega
      have HX : Hid (Str wr B u0 (N + 2 + 66 * k) ∧ Below B W wr) := ⟨hstr, hb⟩
      clear hstr hb hv
      go_wp2
      go_ret
      exact ⟨_, rfl, HX.out.1, HX.out.2⟩
end Go.Proofs.YbulkdlruFmt
