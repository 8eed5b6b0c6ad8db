/-
  certified; the reader's finalization; the notarization's readBody.
-/
import Derived.Test.YbulkdlruFmtH
namespace Go.Proofs.YbulkdlruFmt
open Go.RowKit Go.Shelf Go.Extern.Stop Go.Stop Go.Extern
set_option linter.unusedVariables false
set_option linter.unusedSimpArgs false

/-- One signed word as the plain parser reads it. -/
def cElem (f : Nat → Nat) (N : Nat) (s : St) : Nat × Option Nat := (num f N 2 s, if Ok N 64 (tk N 2 s) then some (tk N 2 s).p else none)
def cSt (N : Nat) (s : St) : Nat → St
  | 0 => s
  | k + 1 => tk N 64 (tk N 2 (cSt N s k))
def cList (f : Nat → Nat) (N : Nat) (s : St) : Nat → List (Nat × Option Nat)
  | 0 => []
  | k + 1 => cList f N s k ++ [cElem f N (cSt N s k)]
theorem cList_length (f : Nat → Nat) (N : Nat) (s : St) : ∀ k, (cList f N s k).length = k
  | 0 => rfl
  | k + 1 => by simp [cList, cList_length f N s k]
theorem sig_elem (T : Nat) (f : Nat → Nat) (N : Nat) (s : St) : sigV T (fun _ => 64) (cElem f N s).2 = tkV T N 64 64 (tk N 2 s) := by
  unfold cElem tkV
  by_cases h : Ok N 64 (tk N 2 s)
  · simp only [if_pos h]
    rfl
  · simp only [if_neg h]
    rfl
theorem own_same {ex : List Nat} {w w' : World} {B e k n : Nat} {v : Value} {xs : List Value} (h : w.ownsRow B e k v n xs) (hs : Same ex w w') (hx : ∀ i ∈ ex, i < B) : w'.ownsRow B e k v n xs := by
  refine ⟨h.1, ?_⟩
  rcases h.2 with h0 | ⟨g, cap, cur, hv, hb, hg, hr⟩
  · exact .inl h0
  · refine .inr ⟨g, cap, cur, hv, hb, ?_, hr⟩
    rw [hs.block g (Array.getElem?_eq_some_iff.1 hg).1 (fun hm => by have := hx g hm; omega)]
    exact hg
theorem CertAt.same {w w' : World} {tS tE B T : Nat} {cf : Nat → Nat} {b v : Nat} {h : Nat → Nat} {l : List (Nat × Option Nat)} {ex : List Nat} (hc : CertAt w tS tE B T cf b v h l) (hs : Same ex w w') (hb : b ∉ ex) (hx : ∀ i ∈ ex, i < B) : CertAt w' tS tE B T cf b v h l := by
  obtain ⟨ga, gc, h1, h2⟩ := hc
  exact ⟨ga, gc, (hs.block b (Array.getElem?_eq_some_iff.1 h1).1 hb).trans h1, own_same h2 hs hx⟩
theorem cnt_le (f : Nat → Nat) (N limit : Nat) (s : St) : cnt f N limit s ≤ limit := by
  unfold cnt
  split
  · assumption
  · exact Nat.zero_le _

/-- certified's state behind k words. -/
def CertRel (tS tE I T N cap C b B : Nat) (f : Nat → Nat) (ee : Addr) (v : Nat) (h : Nat → Nat) (s0 : St) (W : World) (i : Value) (wr : World) : Prop :=
  ∃ k : Nat, i = .int .i64 (k : Int) ∧ k ≤ cnt f N 256 s0 ∧ CertAt wr tS tE B T (fun _ => 64) b v h (cList f N (cntS f N 256 s0) k) ∧ Rd I T N cap ee (cSt N (cntS f N 256 s0) k) wr ∧ Kp B [I, b] W wr

set_option maxRecDepth 100000 in
set_option maxHeartbeats 2000000 in
theorem cert42 (F : Interp) (I T N cap C b B : Nat) (f : Nat → Nat) (ee : Addr) (what : ByteArray) (v : Nat) (h : Nat → Nat) (s : St) (W : World) (hF : F.answers W.tape) (hE : Env T N cap f ee W) (hr : Rd I T N cap ee s W) (hA : CertAt W 141 147 B T (fun _ => 64) b v h []) (hC : W.heap[C]? = some (.cells #[.pointer (some ⟨b, 0, none⟩)] 123 (0, 0)))
    (hB : B ≤ W.heap.size) (hIB : I < B) (hTB : T < B) (hbB : b < B) (hCB : C < B) (hIT : I ≠ T) (hI0 : 0 ≠ I) (hbI : b ≠ I) (hbT : b ≠ T) (hb0 : 0 ≠ b) (hCb : C ≠ b) (hCI : C ≠ I) :
    Calls Ybaf.prog 41 #[.pointer (some ⟨I, 0, none⟩), .string what, .func (.func 42) #[] #[.pointer (some ⟨C, 0, none⟩)]] W fun e w' => e = .returned (.tuple #[]) ∧ CertAt w' 141 147 B T (fun _ => 64) b v h (cList f N (cntS f N 256 s) (cnt f N 256 s)) ∧ Rd I T N cap ee (cSt N (cntS f N 256 s) (cnt f N 256 s)) w' ∧ Kp B [I, b] W w' := by
  have hct := count_any F I T N cap 256 f ee what s W hF hE hr hIT (by omega)
  have hTI : T ∉ [I] := by simp; omega
  have h0I : 0 ∉ [I] := by simp; omega
  go_enter Ybaf.func41, Ybaf.ntmps41
  go_wp2_with (go_at_call 18; refine hct.mono ?_; rintro e w1 ⟨rfl, r1, hs1⟩)
  have hst : CertRel 141 147 I T N cap C b B f ee v h s W (.int .i64 0) w1 := ⟨0, rfl, Nat.zero_le _, hA.same hs1 (by simp; omega) (by simp; omega), r1, (hs1.kp hB).more (by simp)⟩
  obtain ⟨c, ec⟩ : ∃ c, cnt f N 256 s = c := ⟨_, rfl⟩
  have hc256 : c ≤ 256 := by rw [← ec]; exact cnt_le _ _ _ _
  rw [ec]
  have hcI : (c : Int) ≤ 256 := by omega
  clear hct r1 hr hA
  go_loopw [9] (fun i wr => CertRel 141 147 I T N cap C b B f ee v h s W i wr) (fun i _ => c - (intOf i).toNat)
  case atStart => exact hst
  case round =>
    obtain ⟨k, rfl, hk, hA, hr, hkp⟩ := hrel
    rw [ec] at hk
    by_cases hlt : k < c
    · have i1 : (k : Int) < (c : Int) := by omega
      have hEr := hE.kp hkp hTB (by simp; omega) (by simp; omega)
      have hix := index_any I T N cap f ee _ wr hEr hr hIT
      have HK : Hid (k < c ∧ k ≤ 256) := ⟨hlt, by omega⟩
      obtain ⟨x, hx⟩ : ∃ x, num f N 2 (cSt N (cntS f N 256 s) k) = x := ⟨_, rfl⟩
      rw [hx] at hix
      clear hk hlt hst hs1
      go_wp2_with fail
      refine hix.mono ?_
      rintro e w2 ⟨rfl, r2, hs2⟩
      have hE2 := hEr.same hs2 hTI h0I
      have hsg := sig_any I T N cap f ee _ w2 hE2 r2
      rw [← sig_elem T f N] at hsg
      clear hix
      go_wp2_with fail
      refine hsg.mono ?_
      rintro e w3 ⟨rfl, r3, hs3⟩
      have hA3 := (hA.same hs2 (by simp; omega) (by simp; omega)).same hs3 (by simp; omega) (by simp; omega)
      have hk3 : Kp B [I, b] W w3 := (hkp.trans ((hs2.kp (Nat.le_trans hB hkp.size)).more (by simp))).trans ((hs3.kp (Nat.le_trans hB (Nat.le_trans hkp.size hs2.size))).more (by simp))
      have hadd := add42 C b B T (fun _ => 64) v h _ (cElem f N (cSt N (cntS f N 256 s) k)) w3 ((hk3.block C hCB (by simp; omega)).trans hC) hA3 (by rw [cList_length]; have := HK.out; omega) (Nat.le_trans hB hk3.size) hbB hCB hCb
      have hx2 : (cElem f N (cSt N (cntS f N 256 s) k)).1 = x := hx
      rw [hx2] at hadd
      clear hsg
      go_wp2_with fail
      refine hadd.mono ?_
      rintro e w4 ⟨rfl, hA4, hk4, he4⟩
      have hrel4 : CertRel 141 147 I T N cap C b B f ee v h s W (.int .i64 ((k + 1 : Nat) : Int)) w4 := ⟨k + 1, rfl, by rw [ec]; have := HK.out; omega, hA4, r3.kp hk4 hIB (by simp; omega) he4, hk3.trans (hk4.more (by simp))⟩
      clear hadd
      go_wp2
      go_roundw
      case rel =>
        rw [show ((k + 1 : Nat) : Int) = (k : Int) + 1 by omega] at hrel4
        first | exact hrel4 | ((repeat apply Exists.intro); exact ⟨hrel4, rfl⟩)
      case measure =>
        have := HK.out
        simp [intOf]
        omega
    · have hkc : k = c := by omega
      subst hkc
      have i1 : ¬ (k : Int) < (k : Int) := by omega
      have HE : Hid (cnt f N 256 s = k) := ec
      clear ec hst hs1
      go_wp2
      go_end0
      rw [HE.out]
      exact ⟨rfl, hA, hr, hkp⟩

set_option maxRecDepth 100000 in
set_option maxHeartbeats 2000000 in
theorem cert43 (F : Interp) (I T N cap C b B : Nat) (f : Nat → Nat) (ee : Addr) (what : ByteArray) (v : Nat) (h : Nat → Nat) (s : St) (W : World) (hF : F.answers W.tape) (hE : Env T N cap f ee W) (hr : Rd I T N cap ee s W) (hA : CertAt W 128 148 B T (fun _ => 64) b v h []) (hC : W.heap[C]? = some (.cells #[.pointer (some ⟨b, 0, none⟩)] 95 (0, 0)))
    (hB : B ≤ W.heap.size) (hIB : I < B) (hTB : T < B) (hbB : b < B) (hCB : C < B) (hIT : I ≠ T) (hI0 : 0 ≠ I) (hbI : b ≠ I) (hbT : b ≠ T) (hb0 : 0 ≠ b) (hCb : C ≠ b) (hCI : C ≠ I) :
    Calls Ybaf.prog 41 #[.pointer (some ⟨I, 0, none⟩), .string what, .func (.func 43) #[] #[.pointer (some ⟨C, 0, none⟩)]] W fun e w' => e = .returned (.tuple #[]) ∧ CertAt w' 128 148 B T (fun _ => 64) b v h (cList f N (cntS f N 256 s) (cnt f N 256 s)) ∧ Rd I T N cap ee (cSt N (cntS f N 256 s) (cnt f N 256 s)) w' ∧ Kp B [I, b] W w' := by
  have hct := count_any F I T N cap 256 f ee what s W hF hE hr hIT (by omega)
  have hTI : T ∉ [I] := by simp; omega
  have h0I : 0 ∉ [I] := by simp; omega
  go_enter Ybaf.func41, Ybaf.ntmps41
  go_wp2_with (go_at_call 18; refine hct.mono ?_; rintro e w1 ⟨rfl, r1, hs1⟩)
  have hst : CertRel 128 148 I T N cap C b B f ee v h s W (.int .i64 0) w1 := ⟨0, rfl, Nat.zero_le _, hA.same hs1 (by simp; omega) (by simp; omega), r1, (hs1.kp hB).more (by simp)⟩
  obtain ⟨c, ec⟩ : ∃ c, cnt f N 256 s = c := ⟨_, rfl⟩
  have hc256 : c ≤ 256 := by rw [← ec]; exact cnt_le _ _ _ _
  rw [ec]
  have hcI : (c : Int) ≤ 256 := by omega
  clear hct r1 hr hA
  go_loopw [9] (fun i wr => CertRel 128 148 I T N cap C b B f ee v h s W i wr) (fun i _ => c - (intOf i).toNat)
  case atStart => exact hst
  case round =>
    obtain ⟨k, rfl, hk, hA, hr, hkp⟩ := hrel
    rw [ec] at hk
    by_cases hlt : k < c
    · have i1 : (k : Int) < (c : Int) := by omega
      have hEr := hE.kp hkp hTB (by simp; omega) (by simp; omega)
      have hix := index_any I T N cap f ee _ wr hEr hr hIT
      have HK : Hid (k < c ∧ k ≤ 256) := ⟨hlt, by omega⟩
      obtain ⟨x, hx⟩ : ∃ x, num f N 2 (cSt N (cntS f N 256 s) k) = x := ⟨_, rfl⟩
      rw [hx] at hix
      clear hk hlt hst hs1
      go_wp2_with fail
      refine hix.mono ?_
      rintro e w2 ⟨rfl, r2, hs2⟩
      have hE2 := hEr.same hs2 hTI h0I
      have hsg := sig_any I T N cap f ee _ w2 hE2 r2
      rw [← sig_elem T f N] at hsg
      clear hix
      go_wp2_with fail
      refine hsg.mono ?_
      rintro e w3 ⟨rfl, r3, hs3⟩
      have hA3 := (hA.same hs2 (by simp; omega) (by simp; omega)).same hs3 (by simp; omega) (by simp; omega)
      have hk3 : Kp B [I, b] W w3 := (hkp.trans ((hs2.kp (Nat.le_trans hB hkp.size)).more (by simp))).trans ((hs3.kp (Nat.le_trans hB (Nat.le_trans hkp.size hs2.size))).more (by simp))
      have hadd := add43 C b B T (fun _ => 64) v h _ (cElem f N (cSt N (cntS f N 256 s) k)) w3 ((hk3.block C hCB (by simp; omega)).trans hC) hA3 (by rw [cList_length]; have := HK.out; omega) (Nat.le_trans hB hk3.size) hbB hCB hCb
      have hx2 : (cElem f N (cSt N (cntS f N 256 s) k)).1 = x := hx
      rw [hx2] at hadd
      clear hsg
      go_wp2_with fail
      refine hadd.mono ?_
      rintro e w4 ⟨rfl, hA4, hk4, he4⟩
      have hrel4 : CertRel 128 148 I T N cap C b B f ee v h s W (.int .i64 ((k + 1 : Nat) : Int)) w4 := ⟨k + 1, rfl, by rw [ec]; have := HK.out; omega, hA4, r3.kp hk4 hIB (by simp; omega) he4, hk3.trans (hk4.more (by simp))⟩
      clear hadd
      go_wp2
      go_roundw
      case rel =>
        rw [show ((k + 1 : Nat) : Int) = (k : Int) + 1 by omega] at hrel4
        first | exact hrel4 | ((repeat apply Exists.intro); exact ⟨hrel4, rfl⟩)
      case measure =>
        have := HK.out
        simp [intOf]
        omega
    · have hkc : k = c := by omega
      subst hkc
      have i1 : ¬ (k : Int) < (k : Int) := by omega
      have HE : Hid (cnt f N 256 s = k) := ec
      clear ec hst hs1
      go_wp2
      go_end0
      rw [HE.out]
      exact ⟨rfl, hA, hr, hkp⟩
end Go.Proofs.YbulkdlruFmt
