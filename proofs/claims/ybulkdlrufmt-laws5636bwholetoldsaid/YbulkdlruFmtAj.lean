/-
  The law's own writer: put.
-/
import Derived.Test.YbulkdlruFmtAi
namespace Go.Proofs.YbulkdlruFmt
open Go.RowKit Go.Shelf
set_option linter.unusedVariables false
set_option linter.unusedSimpArgs false

/-- A byte string of the law's own, whatever its bytes. -/
def Str (w : World) (B : Nat) (v : Value) (n : Nat) : Prop := ∃ g cap f, v = .slice (some ⟨g, 0, none⟩) n cap ∧ (∀ i, f i < 256) ∧ OwnB w B g cap n f
def PutRel (B N n : Nat) (W : World) (s i : Value) (wr : World) : Prop := ∃ j : Nat, i = .int .i64 ((j : Int) - 1) ∧ j ≤ n ∧ Str wr B s (N + (n - j)) ∧ Below B W wr

/-- 'append(b, x...)', b of the law's own, x bytes or nil. -/
theorem wpList_appB (w : World) {ops : Array Oper} {rest : List Oper} {o : Oper} {a : Act} {Q : Exit → Act → World → Prop} (hgd : o.guard = none) (s x : Operand)
    (ho : o.op = .call { callee := .builtin .append, args := #[s, x], argTypes := #[33, 33] })
    (B g cap n : Nat) (f : Nat → Nat) (hs : a.eval s = .slice (some ⟨g, 0, none⟩) n cap) (hf : ∀ i, f i < 256) (hown : OwnB w B g cap n f)
    (xa : Option Addr) (m c : Nat) (fT : Nat → Nat) (hx : a.eval x = .slice xa m c) (hxb : Bytes w xa m fT) (hfT : ∀ i, fT i < 256) (hxn : xa = none → m = 0 ∧ c = 0)
    (h63 : n + m ≤ 1000000000) (hbase : B ≤ w.heap.size)
    (h : ∀ g' cap' w' f', (∀ i, f' i < 256) → OwnB w' B g' cap' (n + m) f' → Below B w w' → wpList Ybaf.prog ops Q rest (a.put o.dst (.slice (some ⟨g', 0, none⟩) (n + m) cap')) w') : wpList Ybaf.prog ops Q (o :: rest) a w := by
  obtain ⟨i0, hi, hz0, hz1, hz2⟩ := info_parts Ybaf.info5
  have hff : ∀ i, (if i < n then f i else fT (i - n)) < 256 := fun i => by split; exact hf _; exact hfT _
  cases xa with
  | none =>
    obtain ⟨rfl, rfl⟩ := hxn rfl
    refine wpList_append_own_none hgd s x 33 ho B 5 i0 1 Ybaf.underlying33 hi _ n (vals f n) hs hown hx ?_
    exact h g cap w f hf hown (Below.refl _ _)
  | some p =>
    rcases hxb with h0 | ⟨xb, xo, he, hcells⟩
    · subst h0
      obtain ⟨pb, po, pp⟩ := p
      refine wpList_append_own w hgd s x 33 ho B 5 i0 (.int .u8 0) 1 1 Ybaf.underlying33 hi hz0 hz1 hz2 rfl (by decide) _ n (vals f n) hs hown ⟨pb, po, pp⟩ 0 c (vals fT 0) hx (by rw [length_vals]) (fun j u hj => by simp [vals] at hj) (vals_one fT 0) (by unfold maxLen; omega) (by omega) hbase ?_
      intro v' w' hown' hgrow hnil
      rw [vals_append] at hown'
      have hbl : Below B w w' := (Below.refl _ _).grown hgrow hbase (fun k hk => (World.ownsRow.lt hown k hk).1)
      rcases hown'.2 with ⟨h0, _⟩ | ⟨g', cap', cur, hv, _⟩
      · have := (hnil.1 h0).1
        cases this
      · subst hv
        exact h g' cap' w' _ hff hown' hbl
    · cases he
      exact wpList_app w hgd s x ho B g cap n f hs hown xb xo m c fT hx hcells h63 hbase (fun g' cap' w' h1 h2 => h g' cap' w' _ hff h1 h2)

set_option maxHeartbeats 1000000 in
theorem put_any (B N n : Nat) (x : Int) (sv : Value) (W : World) (hs : Str W B sv N) (hN : N + n ≤ 200000100) (hn : n ≤ 8) (hB : B ≤ W.heap.size) :
    Calls Ybaf.prog 7 #[sv, .int .u64 x, .int .i64 (n : Int)] W fun e w' => ∃ sv', e = .returned sv' ∧ Str w' B sv' (N + n) ∧ Below B W w' := by
  have hst : PutRel B N n W sv (.int .i64 ((n : Int) - 1)) W := ⟨n, rfl, Nat.le_refl _, by rw [Nat.sub_self]; exact hs, Below.refl _ _⟩
  have i0 : IntKind.i64.wrap ((n : Int) - 1) = (n : Int) - 1 := IntWalk.i64_in _ (by omega)
  have hnI : (n : Int) ≤ 8 := by omega
  have HN : Hid (N + n ≤ 200000100 ∧ n ≤ 8 ∧ B ≤ W.heap.size) := ⟨hN, hn, hB⟩
  clear hN hn hB hs
  go_enter Ybaf.func7, Ybaf.ntmps7
  go_wp2
  go_loopw [0, 7] (fun s i wr => PutRel B N n W s i wr) (fun s i _ => (intOf i + 1).toNat)
  case atStart => exact hst
  case round =>
    obtain ⟨j, rfl, hk, ⟨g, cap, f, rfl, hf, hown⟩, hb⟩ := hrel
    clear hst
    cases j with
    | succ m =>
      rw [show ((m + 1 : Nat) : Int) - 1 = (m : Int) by omega]
      obtain ⟨y, hy, hyl⟩ : ∃ y : Nat, x / 2 ^ (8 * m) % 256 = (y : Int) ∧ y < 256 := ⟨(x / 2 ^ (8 * m) % 256).toNat, by omega, by omega⟩
      have i1 : IntKind.i64.wrap ((m : Int) - 1) = (m : Int) - 1 := IntWalk.i64_in _ (by omega)
      have i2 : (m : Int) ≤ 7 := by omega
      obtain ⟨d, hd⟩ : ∃ d, N + (n - (m + 1)) = d := ⟨_, rfl⟩
      rw [hd] at hown ⊢
      have HK : Hid (m + 1 ≤ n ∧ y < 256 ∧ N + (n - (m + 1)) = d) := ⟨hk, hyl, hd⟩
      clear hk hyl hd
      go_wp2_with (at_builtin; refine wpList_appB _ rfl (.tmp 14) (.tmp 21) rfl B g cap d f rfl hf (hown.alloc _) (some ⟨wr.heap.size, 0, none⟩) 1 1 (fun _ => y) rfl (.inr ⟨wr.heap.size, 0, rfl, fun i hi => by (obtain rfl : i = 0 := by omega); simp [go_sem]⟩) (fun _ => HK.out.2.1) (fun h => by cases h) (by have := HK.out; have := HN.out; omega) (by have := hb.size; have := HN.out; simp; omega) ?_; intro g' cap' w1 f1 hf1 hown1 hb1)
      have hrel2 : PutRel B N n W (.slice (some ⟨g', 0, none⟩) (d + 1) cap') (.int .i64 ((m : Int) - 1)) w1 := by
        obtain ⟨h1, h2, h3⟩ := HK.out
        refine ⟨m, rfl, by omega, ⟨g', cap', f1, ?_, hf1, ?_⟩, ?_⟩
        · rw [show N + (n - m) = d + 1 by omega]
        · rw [show N + (n - m) = d + 1 by omega]
          exact hown1
        · exact (hb.alloc (by have := hb.size; have := HN.out; omega) _).trans hb1
      clear hown1 hb1 hown hb
      go_roundw
      case rel => first | exact hrel2 | ((repeat apply Exists.intro); exact ⟨hrel2, rfl⟩)
      case measure =>
        simp [intOf]
    | zero =>
      have HX : Hid (Str wr B (.slice (some ⟨g, 0, none⟩) (N + (n - 0)) cap) (N + n) ∧ Below B W wr) := ⟨⟨g, cap, f, rfl, hf, hown⟩, hb⟩
      clear hown hb
      go_wp2
      go_ret
      exact ⟨_, rfl, HX.out.1, HX.out.2⟩
end Go.Proofs.YbulkdlruFmt
