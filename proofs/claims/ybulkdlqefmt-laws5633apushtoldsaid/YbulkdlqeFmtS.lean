/-
  PLAIN: what an element's bytes are, and what is left as it was; Fill's contract for the laws.
-/
import Derived.Test.YbulkdlqeFmtR
namespace Go.Proofs.YbulkdlqeFmt
open Go.RowKit Go.Shelf

theorem putF_eq {tt : Nat} (base : Nat) (lk : ByteArray → Nat × Bool) (f : Nat → Nat) (x : FX tt) (i : Nat) :
    putF base lk f x i = if base + foff tt x.1 ≤ i ∧ i < base + foff tt x.1 + fsize x.1 then fb (vval lk x.1) (fsize x.1) (i - (base + foff tt x.1)) else f i := by
  unfold putF partF
  rw [show base + foff tt x.1 + fsize x.1 - fsize x.1 = base + foff tt x.1 by omega]

theorem putAll_out {tt : Nat} (base : Nat) (lk : ByteArray → Nat × Bool) (i : Nat) (h : i < base ∨ base + asz tt ≤ i) : ∀ (pre : List (FX tt)) (f : Nat → Nat), putAll base lk f pre i = f i := by
  intro pre
  induction pre with
  | nil => intro f; rfl
  | cons x pre ih =>
    intro f
    have e : putAll base lk f (x :: pre) = putAll base lk (putF base lk f x) pre := rfl
    rw [e, ih, putF_eq, if_neg]
    have := foff_end x
    omega

/-- Byte j of the element belongs to a field of the list. -/
def covered {tt : Nat} (j : Nat) (pre : List (FX tt)) : Prop := ∃ x ∈ pre, foff tt x.1 ≤ j ∧ j < foff tt x.1 + fsize x.1
theorem putAll_in {tt : Nat} (base : Nat) (lk : ByteArray → Nat × Bool) (j : Nat) : ∀ (pre : List (FX tt)) (f f' : Nat → Nat), (covered j pre ∨ f (base + j) = f' j) → putAll base lk f pre (base + j) = putAll 0 lk f' pre j := by
  intro pre
  induction pre with
  | nil =>
    intro f f' h
    rcases h with ⟨x, hx, _⟩ | h
    · cases hx
    · exact h
  | cons x pre ih =>
    intro f f' h
    show putAll base lk (putF base lk f x) pre (base + j) = putAll 0 lk (putF 0 lk f' x) pre j
    apply ih
    by_cases hin : foff tt x.1 ≤ j ∧ j < foff tt x.1 + fsize x.1
    · right
      rw [putF_eq, putF_eq, if_pos (by omega), if_pos (by omega)]
      rw [show base + j - (base + foff tt x.1) = j - (0 + foff tt x.1) by omega]
    · rcases h with ⟨y, hy, hr⟩ | h
      · rcases List.mem_cons.1 hy with rfl | hy
        · exact absurd hr hin
        · exact .inl ⟨y, hy, hr⟩
      · right
        rw [putF_eq, putF_eq, if_neg (by omega), if_neg (by omega)]
        exact h
theorem cover_to (tt j : Nat) : ∀ k, k ≤ 26 → j < foff tt k → covered (tt := tt) j (fldsTo tt k) := by
  intro k
  induction k with
  | zero => intro _ h; simp [foff] at h
  | succ k ih =>
    intro hk h
    by_cases hlt : j < foff tt k
    · obtain ⟨x, hx, hr⟩ := ih (by omega) hlt
      exact ⟨x, by simp only [fldsTo]; exact List.mem_append_left _ hx, hr⟩
    · cases hb : bt tt (fbit k) with
      | true =>
        simp only [foff, hb, if_true] at h
        exact ⟨⟨k, by omega, hb⟩, by simp [fldsTo, hb, show k < 26 by omega], by simp; omega, by simp; omega⟩
      | false =>
        simp [foff, hb] at h
        omega
theorem cover_all (tt j : Nat) (h : j < asz tt) : covered (tt := tt) j (flds tt) := cover_to tt j 26 (Nat.le_refl _) (by rw [foff_asz]; exact h)

theorem elF_out {base nl tt sch dl : Nat} {lk : ByteArray → Nat × Bool} {df f : Nat → Nat} {i : Nat} (hn : asz tt = nl * 4) (h : i < base ∨ base + elen nl tt dl ≤ i) : elF base nl tt sch dl lk df f i = f i := by
  unfold elF
  unfold elen at h
  cases hb : bt tt 22 with
  | true =>
    rw [hb] at h
    simp only [if_true] at h ⊢
    unfold putS
    rw [if_neg (by omega), if_neg (by omega), if_neg (by omega), if_neg (by omega), if_neg (by omega)]
    exact putAll_out base lk i (by omega) _ _
  | false =>
    rw [hb] at h
    simp only [Bool.false_eq_true, if_false] at h ⊢
    exact putAll_out base lk i (by omega) _ _
theorem putS_shift (b0 base sch dl : Nat) (df F F' : Nat → Nat) (j : Nat) (hF : j < b0 → F (base + j) = F' j) (h : j < b0 + 4 + dl) : putS (base + b0) sch dl df F (base + j) = putS (0 + b0) sch dl df F' j := by
  unfold putS
  repeat' split
  all_goals first
    | (exfalso; omega)
    | rfl
    | exact congrArg df (by omega)
    | exact hF (by omega)
theorem elF_in {base nl tt sch dl : Nat} {lk : ByteArray → Nat × Bool} {df f f' : Nat → Nat} {j : Nat} (hn : asz tt = nl * 4) (h : j < elen nl tt dl) : elF base nl tt sch dl lk df f (base + j) = elF 0 nl tt sch dl lk df f' j := by
  unfold elF
  unfold elen at h
  cases hb : bt tt 22 with
  | true =>
    rw [hb] at h
    simp only [if_true] at h ⊢
    exact putS_shift (nl * 4) base sch dl df _ _ j (fun hj => putAll_in base lk j _ _ _ (.inl (cover_all tt j (by omega)))) h
  | false =>
    rw [hb] at h
    simp only [Bool.false_eq_true, if_false] at h ⊢
    exact putAll_in base lk j _ _ _ (.inl (cover_all tt j (by omega)))

/-- A trace that reads: what is known of its numbers. -/
theorem code9 {ty len : Nat} {f : Nat → Nat} (h : tcode ty len f = 9) : asz (hTt f) = hNl f * 4 ∧ hStart ty f ≤ len := by
  unfold tcode at h
  have := asz_mod (hTt f)
  split at h
  · omega
  · rename_i h1
    split at h
    · omega
    · omega

theorem fill_wrote (ns rs F fo c g len cap sch dl dc : Nat) (ad : Option Addr) (f df : Nat → Nat) (lk : ByteArray → Nat × Bool) (ea : Nat → Addr) (mv : Value) (sp : Option Addr) (B : Nat) (w : World) (hE : Env w F fo c ea) (hl : 8 ≤ len) (hr : Row w g len f) (hf : ∀ i, f i < 256) (hlc : len ≤ cap) (hcm : cap ≤ 9223372036854775807) (hlm : len ≤ 4000000)
    (hk : tcode 0 len f = 9) (hD : DataAt w B mv sp lk sch dl ad dc df) (hBg : g < B) (hok : bt (hTt f) 22 = true → SnOk sch dl) (hn : elen (hNl f) (hTt f) dl ≤ hRm f * 4) (hg6 : 6 < g) (hFg : F ≠ g) :
    Calls Ybaf.prog 8 #[.agg #[.int .u8 0, .int .u16 ns, .slice (some ⟨g, 0, none⟩) len cap, .int .u8 rs], .agg #[mv, .pointer sp]] w fun e w' => e = .returned .nilIface ∧ Row w' g len (hdrF 0 (hNl f) (hFl f) (hRm f - elen (hNl f) (hTt f) dl / 4) (elF (8 + hRm f * 4 - elen (hNl f) (hTt f) dl) (hNl f) (hTt f) sch dl lk df f)) ∧ But w.heap.size g w w' := by
  obtain ⟨h1, h2⟩ := code9 hk
  have h3 : 8 + hRm f * 4 ≤ len := by simpa [hStart] using h2
  have hgo := fun b' hb' => fill_wrote_at ns rs F fo c g len cap sch dl dc b' ad f df lk ea mv sp w hE hl hr hf hlc hcm hlm hk hD.snap hok hn h3 h1 hD.lkok hg6 hFg hD.map (fun b hb => ⟨(hD.mapB b hb).2, by have := (hD.mapB b hb).1; omega⟩) (fun a ha => by have := hD.snapB a ha; omega) hD.bytes (fun a ha => by have := hD.bytesB a ha; omega) hb'
  by_cases hcl : cap = 8 + hRm f * 4 - elen (hNl f) (hTt f) dl
  · refine (hgo 0 (by rw [if_pos hcl])).mono ?_
    rintro e w' ⟨rfl, hR, hB⟩
    refine ⟨rfl, hR.congr (fun i _ => ?_), hB⟩
    have e0 : elen (hNl f) (hTt f) dl = 0 := by omega
    unfold hdrF
    rw [elF_out h1 (by omega), elF_out h1 (by omega)]
  · exact hgo _ (by rw [if_neg hcl])
end Go.Proofs.YbulkdlqeFmt
