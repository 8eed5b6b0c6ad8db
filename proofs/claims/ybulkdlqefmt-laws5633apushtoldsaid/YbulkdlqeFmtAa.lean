/-
  Fill's contract for the law APart, all ways in one.
-/
import Derived.Test.YbulkdlqeFmtT
namespace Go.Proofs.YbulkdlqeFmt
open Go.RowKit Go.Shelf Go.Extern.Stop Go.Stop Go.Extern

/-- The body behind a Fill that set the overflow flag. -/
structure OverF (n : Nat) (f f1 : Nat → Nat) : Prop where
  s0 : f1 0 = f 0
  s1 : f1 1 = f 1
  s4 : f1 4 = f 4
  s5 : f1 5 = f 5
  s6 : f1 6 = f 6
  nl : hNl f1 = hNl f
  b2 : f1 2 < 256
  b3 : f1 3 < 256
  fl : hFl f1 = hFl f ||| 8
  rm : hRm f1 = hRm f
  same : ∀ i, 8 ≤ i → i < n → f1 i = f i
/-- The body behind a Fill that wrote an element. -/
structure WroteF (n : Nat) (f f1 : Nat → Nat) : Prop where
  s0 : f1 0 = f 0
  s1 : f1 1 = f 1
  s4 : f1 4 = f 4
  s5 : f1 5 = f 5
  s6 : f1 6 = f 6
  nl : hNl f1 = hNl f
  b2 : f1 2 < 256
  b3 : f1 3 < 256
  fl : hFl f1 = hFl f
  rm : hRm f1 ≤ hRm f
  nlr : hNl f ≤ hRm f
  rem : hRm f1 = hRm f ∨ hNl f ≤ hRm f - hRm f1
  same1 : ∀ i, 8 ≤ i → i < 8 + hRm f1 * 4 → f1 i = f i
  same2 : ∀ i, 8 + hRm f * 4 ≤ i → i < n → f1 i = f i

theorem hdr2 (nl fl rm : Nat) (f : Nat → Nat) : hdrF 0 nl fl rm f 2 = nl * 8 + fl / 2 := by simp [hdrF]
theorem hdr3 (nl fl rm : Nat) (f : Nat → Nat) : hdrF 0 nl fl rm f 3 = fl % 2 * 128 + rm := by simp [hdrF]
theorem hdrO (nl fl rm : Nat) (f : Nat → Nat) {i : Nat} (h2 : i ≠ 2) (h3 : i ≠ 3) : hdrF 0 nl fl rm f i = f i := by
  unfold hdrF
  rw [if_neg (by omega), if_neg (by omega)]
theorem hdr_nums (nl fl rm : Nat) (f : Nat → Nat) (h1 : nl < 32) (h2 : fl < 16) (h3 : rm < 128) :
    hNl (hdrF 0 nl fl rm f) = nl ∧ hFl (hdrF 0 nl fl rm f) = fl ∧ hRm (hdrF 0 nl fl rm f) = rm ∧ hdrF 0 nl fl rm f 2 < 256 ∧ hdrF 0 nl fl rm f 3 < 256 := by
  unfold hNl hFl hRm
  rw [hdr2, hdr3]
  omega

theorem over_ok (n : Nat) (f : Nat → Nat) (hf : ∀ i, f i < 256) : OverF n f (hdrF 0 (hNl f) (hFl f ||| 8) (hRm f) f) := by
  have h8 := (or8 (hFl f) (hFl_lt hf)).2
  obtain ⟨e1, e2, e3, e4, e5⟩ := hdr_nums (hNl f) (hFl f ||| 8) (hRm f) f (hNl_lt hf) h8 (hRm_lt f)
  exact ⟨hdrO _ _ _ _ (by omega) (by omega), hdrO _ _ _ _ (by omega) (by omega), hdrO _ _ _ _ (by omega) (by omega), hdrO _ _ _ _ (by omega) (by omega), hdrO _ _ _ _ (by omega) (by omega), e1, e4, e5, e2, e3, fun i h8 hi => hdrO _ _ _ _ (by omega) (by omega)⟩

theorem elen_mod {nl tt sch dl : Nat} (hok : bt tt 22 = true → SnOk sch dl) : elen nl tt dl % 4 = 0 ∧ nl * 4 ≤ elen nl tt dl := by
  unfold elen
  cases hb : bt tt 22 with
  | true =>
    have := hok hb
    have := this.2.1
    simp only [if_true]
    omega
  | false =>
    simp only [Bool.false_eq_true, if_false]
    omega

theorem wrote_ok (n : Nat) (f df : Nat → Nat) (lk : ByteArray → Nat × Bool) (sch dl : Nat) (hf : ∀ i, f i < 256) (h4 : asz (hTt f) = hNl f * 4) (hok : bt (hTt f) 22 = true → SnOk sch dl) (hn : elen (hNl f) (hTt f) dl ≤ hRm f * 4) :
    WroteF n f (hdrF 0 (hNl f) (hFl f) (hRm f - elen (hNl f) (hTt f) dl / 4) (elF (8 + hRm f * 4 - elen (hNl f) (hTt f) dl) (hNl f) (hTt f) sch dl lk df f)) := by
  obtain ⟨m1, m2⟩ := elen_mod (nl := hNl f) hok
  have hr := hRm_lt f
  obtain ⟨e1, e2, e3, e4, e5⟩ := hdr_nums (hNl f) (hFl f) (hRm f - elen (hNl f) (hTt f) dl / 4) (elF (8 + hRm f * 4 - elen (hNl f) (hTt f) dl) (hNl f) (hTt f) sch dl lk df f) (hNl_lt hf) (hFl_lt hf) (by omega)
  have out : ∀ i, i ≠ 2 → i ≠ 3 → (i < 8 + hRm f * 4 - elen (hNl f) (hTt f) dl ∨ 8 + hRm f * 4 - elen (hNl f) (hTt f) dl + elen (hNl f) (hTt f) dl ≤ i) → hdrF 0 (hNl f) (hFl f) (hRm f - elen (hNl f) (hTt f) dl / 4) (elF (8 + hRm f * 4 - elen (hNl f) (hTt f) dl) (hNl f) (hTt f) sch dl lk df f) i = f i := by
    intro i a b c
    rw [hdrO _ _ _ _ a b, elF_out h4 c]
  refine ⟨out 0 (by omega) (by omega) (by omega), out 1 (by omega) (by omega) (by omega), out 4 (by omega) (by omega) (by omega), out 5 (by omega) (by omega) (by omega), out 6 (by omega) (by omega) (by omega), e1, e4, e5, e2, by rw [e3]; omega, by omega, ?_, ?_, ?_⟩
  · rw [e3]; omega
  · rw [e3]
    intro i a b
    exact out i (by omega) (by omega) (by omega)
  · intro i a b
    exact out i (by omega) (by omega) (by omega)

/-- What Fill comes to. -/
def FillRel (ea : Nat → Addr) (us : Bool) (ty n : Nat) (a : Option Addr) (f : Nat → Nat) (v : Value) (X w' : World) : Prop :=
  (ty ≠ 0 ∧ (∃ pe, v = .iface 65 (.pointer (some pe))) ∧ Below X.heap.size X w') ∨
  (ty = 0 ∧ n < 8 ∧ v = .iface 65 (.pointer (some (ea 0))) ∧ Below X.heap.size X w') ∨
  (ty = 0 ∧ 8 ≤ n ∧ tcode 0 n f ≠ 9 ∧ v = .iface 65 (.pointer (some (ea (tcode 0 n f)))) ∧ Below X.heap.size X w') ∨
  (ty = 0 ∧ 8 ≤ n ∧ tcode 0 n f = 9 ∧ us = true ∧ (∃ pe, v = .iface 65 (.pointer (some pe))) ∧ Below X.heap.size X w') ∨
  (ty = 0 ∧ 8 ≤ n ∧ tcode 0 n f = 9 ∧ v = .nilIface ∧ ∃ g f1, a = some ⟨g, 0, none⟩ ∧ Row w' g n f1 ∧ (OverF n f f1 ∨ WroteF n f f1) ∧ But X.heap.size g X w')

theorem fill_rel (I : Interp) (us : Bool) (ty ns rs F fo c n cap sch dl dc : Nat) (a : Option Addr) (f df : Nat → Nat) (lk : ByteArray → Nat × Bool) (ea : Nat → Addr) (ad : Option Addr) (mv : Value) (sp : Option Addr) (B G : Nat) (X : World) (hI : I.answers X.tape) (hE : Env X F fo c ea)
    (hrow : ∀ p, a = some p → ∃ g, p = ⟨g, 0, none⟩ ∧ G ≤ g ∧ g < B ∧ Row X g n f) (hanil : a = none → n = 0) (hf : ∀ i, f i < 256) (hnc : n ≤ cap) (hcm : cap ≤ 9223372036854775807) (hn : n ≤ 65536) (hG : 6 < G) (hFG : F < G)
    (hD : DataAt X B mv sp lk sch dl ad dc df) (hus : us = false → sch = 16777215 ∧ dl = 0) (hdl : dl ≤ 65536) :
    Calls Ybaf.prog 8 #[.agg #[.int .u8 ty, .int .u16 ns, .slice a n cap, .int .u8 rs], .agg #[mv, .pointer sp]] X (fun e w' => ∃ v, e = .returned v ∧ FillRel ea us ty n a f v X w') := by
  by_cases hty : ty = 0
  · subst hty
    by_cases h8 : n < 8
    · refine (fill_short ns rs F fo c n cap a ea mv sp X hE h8).mono ?_
      rintro e w' ⟨rfl, hb⟩
      exact ⟨_, rfl, .inr (.inl ⟨rfl, h8, rfl, hb⟩)⟩
    · cases a with
      | none => have := hanil rfl; omega
      | some p =>
        obtain ⟨g, rfl, hGg, hgB, hr⟩ := hrow p rfl
        by_cases h9 : tcode 0 n f = 9
        · by_cases hok : bt (hTt f) 22 = true → SnOk sch dl
          · by_cases hov : hRm f * 4 < elen (hNl f) (hTt f) dl
            · refine (fill_over ns rs F fo c g n cap sch dl dc ad f ea mv sp X hE (by omega) hr hf hnc hcm (by omega) h9 hD.snap hok hov).mono ?_
              rintro e w' ⟨rfl, hR, hB⟩
              exact ⟨_, rfl, .inr (.inr (.inr (.inr ⟨rfl, by omega, h9, rfl, g, _, rfl, hR, .inl (over_ok n f hf), hB⟩)))⟩
            · refine (fill_wrote ns rs F fo c g n cap sch dl dc ad f df lk ea mv sp B X hE (by omega) hr hf hnc hcm (by omega) h9 hD hgB hok (by omega) (by omega) (by omega)).mono ?_
              rintro e w' ⟨rfl, hR, hB⟩
              exact ⟨_, rfl, .inr (.inr (.inr (.inr ⟨rfl, by omega, h9, rfl, g, _, rfl, hR, .inr (wrote_ok n f df lk sch dl hf (code9 h9).1 hok (by omega)), hB⟩)))⟩
          · have hs : bt (hTt f) 22 = true := Classical.byContradiction fun h => hok fun h' => absurd h' h
            have hbad : ¬ SnOk sch dl := fun h => hok fun _ => h
            refine (fill_bad I ns rs F fo c g n cap sch dl dc ad f ea mv sp X hI hE (by omega) hr hf hnc hcm (by omega) h9 hs hD.snap (by omega) hbad).mono ?_
            rintro e w' ⟨pe, rfl, hb⟩
            refine ⟨_, rfl, .inr (.inr (.inr (.inl ⟨rfl, by omega, h9, ?_, ⟨pe, rfl⟩, hb⟩)))⟩
            cases us with
            | true => rfl
            | false =>
              obtain ⟨h1, h2⟩ := hus rfl
              exact absurd (by subst h1; subst h2; exact ⟨by omega, by omega, by omega⟩) hbad
        · refine (fill_code ns rs F fo c g n cap _ f ea mv sp X hE (by omega) hr hf hnc hcm (by omega) rfl h9).mono ?_
          rintro e w' ⟨rfl, hb⟩
          exact ⟨_, rfl, .inr (.inr (.inl ⟨rfl, by omega, h9, rfl, hb⟩))⟩
  · refine (fill_type ty ns rs n cap a mv sp X hty).mono ?_
    rintro e w' ⟨pe, rfl, hb⟩
    exact ⟨_, rfl, .inl ⟨hty, ⟨pe, rfl⟩, hb⟩⟩
end Go.Proofs.YbulkdlqeFmt
