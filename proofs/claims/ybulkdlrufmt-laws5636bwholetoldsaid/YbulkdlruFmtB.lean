/-
  The wire reader's state; fail, take.
-/
import Derived.Test.YbulkdlruFmtA
import Derived.Test.YbulkdlruFmtS
namespace Go.Proofs.YbulkdlruFmt
open Go.RowKit Go.Shelf
set_option linter.unusedVariables false

/-- The plain parser's state: the place; the kind: 0 all well, 1 the bytes ended early, 2 another error. -/
structure St where
  p : Nat
  k : Nat
/-- n bytes can be had. -/
abbrev Ok (N n : Nat) (s : St) : Prop := s.k = 0 ∧ s.p + n ≤ N
/-- The state behind taking n bytes. -/
def tk (N n : Nat) (s : St) : St := if Ok N n s then ⟨s.p + n, 0⟩ else if s.k = 0 then ⟨s.p, 1⟩ else s
/-- The state behind another error. -/
def oth (s : St) : St := if s.k = 0 then ⟨s.p, 2⟩ else s
theorem tk_ok {N n : Nat} {s : St} (h : Ok N n s) : tk N n s = ⟨s.p + n, 0⟩ := if_pos h
theorem tk_short {N n : Nat} {s : St} (h : s.k = 0) (h2 : ¬ s.p + n ≤ N) : tk N n s = ⟨s.p, 1⟩ := by unfold tk; rw [if_neg (fun x => h2 x.2), if_pos h]
theorem tk_bad {N n : Nat} {s : St} (h : ¬ s.k = 0) : tk N n s = s := by unfold tk; rw [if_neg (fun x => h x.1), if_neg h]

/-- Blocks of another type are none of these. -/
def Apart (w : World) (t : Nat) (ex : List Nat) : Prop := ∀ p c, w.heap[p]? = some (.cells c t (0, 0)) → p ∉ ex
theorem apart_one {w : World} {t t' g : Nat} {c : Array Value} (hg : w.heap[g]? = some (.cells c t' (0, 0))) (ht : t ≠ t') : Apart w t [g] := by
  intro p c' hp hm
  obtain rfl : p = g := by simpa using hm
  rw [hp] at hg
  injection hg with hg
  injection hg with _ h2 _
  exact ht h2
/-- The blocks of errors are as they were. -/
def Errs (w w' : World) : Prop := ∀ (k : Nat) (c : Array Value), w.heap[k]? = some (.cells c 120 (0, 0)) → w'.heap[k]? = some (.cells c 120 (0, 0))
theorem Errs.refl (w : World) : Errs w w := fun _ _ h => h
theorem Errs.trans {a b c : World} (h : Errs a b) (k : Errs b c) : Errs a c := fun i x hi => k i x (h i x hi)
theorem Same.errs {ex : List Nat} {w w' : World} (h : Same ex w w') (hA : Apart w 120 ex := by intro _ _ _; simp) : Errs w w' :=
  fun k c hk => (h.block k (Array.getElem?_eq_some_iff.1 hk).1 (hA k c hk)).trans hk
/-- An error in memory. -/
def ErrB (w : World) (a : Addr) : Prop := ∃ c, w.heap[a.block]? = some (.cells c 120 (0, 0))
theorem ErrB.errs {w w' : World} {a : Addr} (h : ErrB w a) (he : Errs w w') : ErrB w' a := by
  obtain ⟨c, hc⟩ := h
  exact ⟨c, he _ _ hc⟩
/-- The reader's cells fit the state. -/
def RdV (w : World) (T N cap : Nat) (ee : Addr) (s : St) (rv ev : Value) : Prop :=
  (s.k = 0 ∧ s.p ≤ N ∧ ev = .nilIface ∧ ∃ o, rv = .slice (some ⟨T, o, none⟩) (N - s.p) (cap - s.p) ∧ (o = s.p ∨ cap = s.p)) ∨
  (s.k = 1 ∧ rv = .slice none 0 0 ∧ ev = .iface 118 (.pointer (some ee))) ∨ (s.k = 2 ∧ rv = .slice none 0 0 ∧ ∃ a, ev = .iface 118 (.pointer (some a)) ∧ a ≠ ee ∧ ErrB w a)
def Rd (I T N cap : Nat) (ee : Addr) (s : St) (w : World) : Prop :=
  ∃ rv ev, w.heap[I]? = some (.cells #[rv, ev] 90 (0, 0)) ∧ RdV w T N cap ee s rv ev
theorem icells {w : World} {I : Nat} {a0 a1 : Value} (h : w.heap[I]? = some (.cells #[a0, a1] 90 (0, 0))) :
    w.cell? ⟨I, 0, none⟩ = some a0 ∧ w.cell? ⟨I, 1, none⟩ = some a1 ∧ ∀ j, w.frozen? ⟨I, j, none⟩ = false := by
  refine ⟨?_, ?_, fun j => frozen_of_row w I j _ 90 h⟩ <;> rw [cell_of_row w I _ _ 90 (0, 0) h] <;> rfl
theorem i_set {W : World} {R : Nat} {a0 a1 : Value} (h : W.heap[R]? = some (.cells #[a0, a1] 90 (0, 0))) (k : Nat) (v : Value) :
    (W.setCell ⟨R, k, none⟩ v).heap[R]? = some (.cells (#[a0, a1].setIfInBounds k v) 90 (0, 0)) := by
  rw [heap_setCell_same W R k _ 90 _ h]
theorem RdV.errs {w w' : World} {T N cap : Nat} {ee : Addr} {s : St} {rv ev : Value} (h : RdV w T N cap ee s rv ev) (he : Errs w w') : RdV w' T N cap ee s rv ev := by
  rcases h with h | h | ⟨hk, hr, a, hv, hn, hb⟩
  · exact .inl h
  · exact .inr (.inl h)
  · exact .inr (.inr ⟨hk, hr, a, hv, hn, hb.errs he⟩)
theorem Rd.same {I T N cap : Nat} {ee : Addr} {s : St} {ex : List Nat} {w w' : World} (h : Rd I T N cap ee s w) (hs : Same ex w w') (hI : I ∉ ex) (hA : Apart w 120 ex := by intro _ _ _; simp) : Rd I T N cap ee s w' := by
  obtain ⟨rv, ev, h1, h2⟩ := h
  exact ⟨rv, ev, (hs.block I (World.block_lt_of_cell? w _ (icells h1).1) hI).trans h1, h2.errs (hs.errs hA)⟩
theorem Rd.lt {I T N cap : Nat} {ee : Addr} {s : St} {w : World} (h : Rd I T N cap ee s w) : I < w.heap.size := by
  obtain ⟨rv, ev, h1, h2⟩ := h
  exact World.block_lt_of_cell? w _ (icells h1).1

set_option maxHeartbeats 400000 in
/-- fail, at a reader without an error. -/
theorem fail_fresh (I : Nat) (rv : Value) (a : Addr) (W : World) (h : W.heap[I]? = some (.cells #[rv, .nilIface] 90 (0, 0))) :
    Calls Ybaf.prog 23 #[.pointer (some ⟨I, 0, none⟩), .iface 118 (.pointer (some a))] W fun e w' => e = .returned (.tuple #[]) ∧ w'.heap[I]? = some (.cells #[.slice none 0 0, .iface 118 (.pointer (some a))] 90 (0, 0)) ∧ Same [I] W w' := by
  obtain ⟨c0, c1, cf⟩ := icells h
  go_enter Ybaf.func23, Ybaf.ntmps23
  go_wp2
  go_end0
  exact ⟨rfl, i_set (i_set h 1 _) 0 _, (Same.setCell _ _ _ _ (by simp)).trans (Same.setCell _ _ _ _ (by simp))⟩
set_option maxHeartbeats 400000 in
/-- fail, at a reader that has one. -/
theorem fail_old (I : Nat) (b a : Addr) (W : World) (h : W.heap[I]? = some (.cells #[.slice none 0 0, .iface 118 (.pointer (some b))] 90 (0, 0))) :
    Calls Ybaf.prog 23 #[.pointer (some ⟨I, 0, none⟩), .iface 118 (.pointer (some a))] W fun e w' => e = .returned (.tuple #[]) ∧ w'.heap[I]? = some (.cells #[.slice none 0 0, .iface 118 (.pointer (some b))] 90 (0, 0)) ∧ Same [I] W w' := by
  obtain ⟨c0, c1, cf⟩ := icells h
  go_enter Ybaf.func23, Ybaf.ntmps23
  go_wp2
  go_end0
  exact ⟨rfl, i_set h 0 _, Same.setCell _ _ _ _ (by simp)⟩
/-- fail with an error that is not errEndsEarly. -/
theorem fail_oth (I T N cap : Nat) (ee a : Addr) (s : St) (W : World) (h : Rd I T N cap ee s W) (ha : a ≠ ee) (hb : ErrB W a) :
    Calls Ybaf.prog 23 #[.pointer (some ⟨I, 0, none⟩), .iface 118 (.pointer (some a))] W fun e w' => e = .returned (.tuple #[]) ∧ Rd I T N cap ee (oth s) w' ∧ Same [I] W w' := by
  obtain ⟨rv, ev, h1, h2⟩ := h
  have hA : Apart W 120 [I] := apart_one h1 (by omega)
  rcases h2 with ⟨hk, hp, rfl, _⟩ | ⟨hk, rfl, rfl⟩ | ⟨hk, rfl, b, rfl, hb', hc⟩
  · refine (fail_fresh I rv a W h1).mono ?_
    rintro e w' ⟨rfl, h3, h4⟩
    exact ⟨rfl, ⟨_, _, h3, .inr (.inr ⟨by unfold oth; rw [if_pos hk], rfl, a, rfl, ha, hb.errs (h4.errs hA)⟩)⟩, h4⟩
  · refine (fail_old I ee a W h1).mono ?_
    rintro e w' ⟨rfl, h3, h4⟩
    exact ⟨rfl, ⟨_, _, h3, .inr (.inl ⟨by unfold oth; rw [if_neg (by omega)]; exact hk, rfl, rfl⟩)⟩, h4⟩
  · refine (fail_old I b a W h1).mono ?_
    rintro e w' ⟨rfl, h3, h4⟩
    exact ⟨rfl, ⟨_, _, h3, .inr (.inr ⟨by unfold oth; rw [if_neg (by omega)]; exact hk, rfl, b, rfl, hb', hc.errs (h4.errs hA)⟩)⟩, h4⟩

/-- What take hands back. -/
def tkV (T N n c : Nat) (s : St) : Value := if Ok N n s then .slice (some ⟨T, s.p, none⟩) n c else .slice none 0 0

set_option maxHeartbeats 1000000 in
theorem rtake (I T N cap n : Nat) (ee : Addr) (s : St) (W : World) (h : Rd I T N cap ee s W) (hn : 1 ≤ n) (hn2 : (n : Int) ≤ 5000000000) (hN : N ≤ cap) (hN2 : (N : Int) ≤ 200000000) (hg : W.cell? ⟨0, 0, none⟩ = some (.iface 118 (.pointer (some ee)))) :
    Calls Ybaf.prog 21 #[.pointer (some ⟨I, 0, none⟩), .int .i64 (n : Int)] W fun e w' => e = .returned (tkV T N n n s) ∧ Rd I T N cap ee (tk N n s) w' ∧ Same [I] W w' := by
  obtain ⟨rv, ev, h1, h2⟩ := h
  obtain ⟨c0, c1, cf⟩ := icells h1
  rcases h2 with ⟨hk, hp, rfl, o, rfl, ho⟩ | h2
  · by_cases hok : s.p + n ≤ N
    · have ho2 : o = s.p := by omega
      subst ho2
      obtain ⟨p, k⟩ := s
      simp only at *
      subst hk
      have i1 : ¬ ((N - p : Nat) : Int) < (n : Int) := by omega
      have i2 : decide (((N - p : Nat) : Int) < (n : Int)) = false := decide_eq_false i1
      have i3 : (n : Int) ≤ ((N - p : Nat) : Int) := by omega
      have i4 : (n : Int) ≤ ((cap - p : Nat) : Int) := by omega
      have i5 : (0 : Int) ≤ (n : Int) := by omega
      have hO : Ok N n ⟨p, 0⟩ := ⟨rfl, hok⟩
      obtain ⟨d, hd⟩ : ∃ d, N - p = d := ⟨_, rfl⟩
      obtain ⟨c, hc⟩ : ∃ c, cap - p = c := ⟨_, rfl⟩
      rw [hd] at c0 h1 i1 i2 i3
      rw [hc] at c0 h1 i4
      have HI : Hid (N - p = d ∧ cap - p = c ∧ p + n ≤ N ∧ N ≤ cap ∧ 1 ≤ n) := ⟨hd, hc, hok, hN, hn⟩
      clear hd hc hp hok hn hn2 hN hN2 ho hg
      have hHI := HI.out
      by_cases hcn : c = n
      · subst hcn
        clear hHI
        go_enter Ybaf.func21, Ybaf.ntmps21
        go_wp2
        go_ret
        have hHI := HI.out
        refine ⟨by unfold tkV; rw [if_pos hO]; rfl, ⟨_, _, i_set h1 0 _, .inl ?_⟩, Same.setCell _ _ _ _ (by simp)⟩
        rw [tk_ok hO]
        refine ⟨rfl, hHI.2.2.1, rfl, p, ?_, .inr ?_⟩
        · simp; omega
        · show cap = p + c; omega
      · have i6 : ¬ (c : Int) = (n : Int) := by omega
        clear hHI
        go_enter Ybaf.func21, Ybaf.ntmps21
        go_wp2
        go_ret
        have hHI := HI.out
        refine ⟨by unfold tkV; rw [if_pos hO]; rfl, ⟨_, _, i_set h1 0 _, .inl ?_⟩, Same.setCell _ _ _ _ (by simp)⟩
        rw [tk_ok hO]
        refine ⟨rfl, hHI.2.2.1, rfl, p + n, ?_, .inl rfl⟩
        simp
        omega
    · obtain ⟨p, k⟩ := s
      simp only at *
      subst hk
      have i1 : ((N - p : Nat) : Int) < (n : Int) := by omega
      obtain ⟨d, hd⟩ : ∃ d, N - p = d := ⟨_, rfl⟩
      rw [hd] at c0 h1 i1
      have hfl := fail_fresh I _ ee W h1
      have hV : tkV T N n n ⟨p, 0⟩ = .slice none 0 0 := by unfold tkV; rw [if_neg (fun x => hok x.2)]
      rw [hV, tk_short rfl hok]
      clear hd hp hok hn hn2 hN hN2 ho hV
      go_enter Ybaf.func21, Ybaf.ntmps21
      go_wp2_with (go_at_call 23; refine hfl.mono ?_; rintro e w1 ⟨rfl, h3, h4⟩)
      go_ret
      exact ⟨rfl, ⟨_, _, h3, .inr (.inl ⟨rfl, rfl, rfl⟩)⟩, h4⟩
  · have hk : ¬ s.k = 0 := by rcases h2 with ⟨hk, _⟩ | ⟨hk, _⟩ <;> omega
    have hV : tkV T N n n s = .slice none 0 0 := by unfold tkV; rw [if_neg (fun x => hk x.1)]
    rw [hV, tk_bad hk]
    have hrd : Rd I T N cap ee s W := ⟨_, _, h1, .inr h2⟩
    obtain ⟨a, ha⟩ : ∃ a, ev = .iface 118 (.pointer (some a)) := by rcases h2 with ⟨_, _, rfl⟩ | ⟨_, _, a, rfl, _⟩ <;> exact ⟨_, rfl⟩
    subst ha
    clear h2 hV hk
    go_enter Ybaf.func21, Ybaf.ntmps21
    go_wp2
    go_ret
    exact ⟨rfl, hrd, Same.refl _ _⟩
end Go.Proofs.YbulkdlruFmt
