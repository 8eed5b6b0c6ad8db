/-
  (Option).Fill: the element is written.
-/
import Derived.Test.YbulkdlqeFmtN
namespace Go.Proofs.YbulkdlqeFmt
open Go.RowKit Go.Shelf

theorem bsz_mod (b : Nat) : bsz b % 4 = 0 := by
  unfold bsz
  split
  · omega
  · split <;> omega
theorem szTo_mod (tt k : Nat) : szTo tt k % 4 = 0 := by
  induction k with
  | zero => simp [szTo]
  | succ k ih =>
    have := bsz_mod k
    simp only [szTo]
    split <;> omega
theorem asz_mod (tt : Nat) : asz tt % 4 = 0 := szTo_mod tt 22

/-- The row behind an element. -/
def elF (base nl tt sch dl : Nat) (lk : ByteArray → Nat × Bool) (df f : Nat → Nat) : Nat → Nat :=
  if bt tt 22 then putS (base + nl * 4) sch dl df (putAll base lk f (flds tt)) else putAll base lk f (flds tt)

theorem putel_any (nl fl rm tt F fo c g base N len cap : Nat) (ea : Nat → Addr) (wr mv : Value) (sp : Option Addr) (lk : ByteArray → Nat × Bool) (f : Nat → Nat) (w : World) (hE : Env w F fo c ea) (htt : tt < 4294967296) (hlk : LkOk lk) (hr : Row w g N f) (hg6 : 6 < g) (hFg : F ≠ g)
    (hn : asz tt ≤ nl * 4) (sch dl dc : Nat) (hlen : elen nl tt dl ≤ len) (hN : base + len ≤ N) (hm : MapAt w mv lk) (hmb : ∀ b, mv = .map (some b) → b < w.heap.size ∧ b ≠ g) (ad : Option Addr) (df : Nat → Nat) (hok : bt tt 22 = true → SnOk sch dl) (hnl : nl < 256) (hlc : len ≤ cap)
    (hS : SnapAt w sp sch dl ad dc) (hspg : ∀ a, sp = some a → a.block ≠ g) (hd : Bytes w ad dl df) (hgd : ∀ a, ad = some a → a.block ≠ g) :
    Calls Ybaf.prog 17 #[.agg #[.int .u8 nl, .int .u8 fl, .int .u8 rm, .int .u32 tt, wr], .slice (some ⟨g, base, none⟩) len cap, .agg #[mv, .pointer sp]] w fun e w' => e = .returned (.tuple #[]) ∧ Row w' g N (elF base nl tt sch dl lk df f) ∧ But w.heap.size g w w' := by
  cases hs : bt tt 22 with
  | true =>
    obtain ⟨h1, h2, h3⟩ := hok hs
    have e : elen nl tt dl = nl * 4 + 4 + dl := by simp [elen, hs]
    have e2 : elF base nl tt sch dl lk df f = putS (base + nl * 4) sch dl df (putAll base lk f (flds tt)) := by simp [elF, hs]
    rw [e2]
    exact putel_snap nl fl rm tt F fo c g base N len cap ea wr mv sp lk f w hE htt hlk hr hg6 hFg (by omega) hN hm hmb hs sch dl dc ad df (by show (sch : Int) < 16777216; omega) (by omega) h2 hnl (by omega) hlc hS hspg hd hgd
  | false =>
    have e : elen nl tt dl = nl * 4 := by simp [elen, hs]
    have e2 : elF base nl tt sch dl lk df f = putAll base lk f (flds tt) := by simp [elF, hs]
    rw [e2]
    exact putel_plain nl fl rm tt F fo c g base N len cap ea wr mv sp lk f w hE htt hlk hr hg6 hFg (by omega) hN hm hmb hs

set_option maxRecDepth 100000 in
set_option maxHeartbeats 1000000 in
theorem fill_wrote_at (ns rs F fo c g len cap sch dl dc b' : Nat) (ad : Option Addr) (f df : Nat → Nat) (lk : ByteArray → Nat × Bool) (ea : Nat → Addr) (mv : Value) (sp : Option Addr) (w : World) (hE : Env w F fo c ea) (hl : 8 ≤ len) (hr : Row w g len f) (hf : ∀ i, f i < 256) (hlc : len ≤ cap) (hcm : cap ≤ 9223372036854775807) (hlm : len ≤ 4000000)
    (hk : tcode 0 len f = 9) (hS : SnapAt w sp sch dl ad dc) (hok : bt (hTt f) 22 = true → SnOk sch dl) (hn : elen (hNl f) (hTt f) dl ≤ hRm f * 4) (hst : 8 + hRm f * 4 ≤ len) (hnl4 : asz (hTt f) = hNl f * 4)
    (hlk : LkOk lk) (hg6 : 6 < g) (hFg : F ≠ g) (hm : MapAt w mv lk) (hmb : ∀ b, mv = .map (some b) → b < w.heap.size ∧ b ≠ g) (hspg : ∀ a, sp = some a → a.block ≠ g) (hd : Bytes w ad dl df) (hgd : ∀ a, ad = some a → a.block ≠ g)
    (hb' : (if cap = 8 + hRm f * 4 - elen (hNl f) (hTt f) dl then (⟨g, 0, none⟩ : Addr) else ⟨g, 8 + hRm f * 4 - elen (hNl f) (hTt f) dl, none⟩) = ⟨g, b', none⟩) :
    Calls Ybaf.prog 8 #[.agg #[.int .u8 0, .int .u16 ns, .slice (some ⟨g, 0, none⟩) len cap, .int .u8 rs], .agg #[mv, .pointer sp]] w fun e w' => e = .returned .nilIface ∧ Row w' g len (hdrF 0 (hNl f) (hFl f) (hRm f - elen (hNl f) (hTt f) dl / 4) (elF b' (hNl f) (hTt f) sch dl lk df f)) ∧ But w.heap.size g w w' := by
  have hB0 : Below w.heap.size w ((w.alloc (.cells #[.int .u8 0, .int .u16 ns, .slice (some ⟨g, 0, none⟩) len cap, .int .u8 rs] 37)).alloc (.cells #[mv, .pointer sp] 34)) := ((Below.refl _ _).alloc (Nat.le_refl _) _).alloc (by simp) _
  have hE0 := (hE.alloc (.cells #[.int .u8 0, .int .u16 ns, .slice (some ⟨g, 0, none⟩) len cap, .int .u8 rs] 37)).alloc (.cells #[mv, .pointer sp] 34)
  have htr := trace_any 0 ns rs F fo c g len cap f ea _ hE0 (by omega) hl (hr.below hB0 hr.lt) hf hlc hcm hlm
  rw [hk] at htr
  have n1 := hNl_lt hf
  have n2 := hFl_lt hf
  have n3 := hRm_lt f
  have n4 := hTt_lt hf
  have hS0 := hS.below hB0 (Nat.le_refl _)
  have hgl := hr.lt
  obtain ⟨nl, hnl⟩ : ∃ nl, hNl f = nl := ⟨_, rfl⟩
  obtain ⟨fl, hfl⟩ : ∃ fl, hFl f = fl := ⟨_, rfl⟩
  obtain ⟨rm, hrm⟩ : ∃ rm, hRm f = rm := ⟨_, rfl⟩
  obtain ⟨tt, htt⟩ : ∃ tt, hTt f = tt := ⟨_, rfl⟩
  rw [hnl, hfl, hrm, htt] at htr
  rw [hnl, hfl, hrm, htt]
  rw [hnl, hrm, htt] at hn hb'
  rw [hrm] at hst
  rw [hnl, htt] at hnl4
  rw [htt] at hok n4
  rw [hnl] at n1
  rw [hfl] at n2
  rw [hrm] at n3
  have hel : ∀ (X : World) (wr : Value), Env X F fo c ea → SnapAt X sp sch dl ad dc → _ := fun X wr b d => elen_any nl fl rm tt F fo c sch dl dc ad ea wr mv sp X b (by omega) n4 d hok
  have hpe : ∀ (X : World) (wr : Value) (N len' cap' : Nat), Env X F fo c ea → Row X g N f → elen nl tt dl ≤ len' → b' + len' ≤ N → MapAt X mv lk → (∀ b, mv = .map (some b) → b < X.heap.size ∧ b ≠ g) → len' ≤ cap' → SnapAt X sp sch dl ad dc → Bytes X ad dl df → _ :=
    fun X wr N len' cap' p1 p2 p3 p4 p5 p6 p7 p8 p9 => putel_any nl fl rm tt F fo c g b' N len' cap' ea wr mv sp lk f X p1 (by omega) hlk p2 hg6 hFg (by omega) sch dl dc p3 p4 p5 p6 ad df hok (by omega) p7 p8 hspg p9 hgd
  obtain ⟨n, hnn⟩ : ∃ n, elen nl tt dl = n := ⟨_, rfl⟩
  rw [hnn] at hel hn hpe hb' ⊢
  obtain ⟨fe, hfe⟩ : ∃ fe, elF b' nl tt sch dl lk df f = fe := ⟨_, rfl⟩
  rw [hfe] at hpe ⊢
  obtain ⟨rm2, hrm2⟩ : ∃ x, rm - n / 4 = x := ⟨_, rfl⟩
  rw [hrm2]
  obtain ⟨lo, hlo⟩ : ∃ x, 8 + rm * 4 - n = x := ⟨_, rfl⟩
  rw [hlo] at hb'
  have hput : ∀ (X : World) (wr : Value), Row X g len fe → _ := fun X wr hRX => putHeader_any nl fl rm2 tt g 0 len cap len wr fe X n1 n2 (by omega) (by omega) (by omega) hRX
  have hn' : (n : Int) ≤ (rm : Int) * 4 := by omega
  have hrmi : (rm : Int) < 128 := by omega
  have hq : (rm : Int) - (n : Int) / 4 = (rm2 : Int) := by omega
  have hbn : b' + n ≤ len := by
    by_cases hcl : cap = lo
    · rw [if_pos hcl] at hb'; cases hb'; omega
    · rw [if_neg hcl] at hb'; cases hb'; omega
  have y0 : IntKind.i64.wrap (rm : Int) = rm := IntWalk.i64_in _ (by omega)
  have y1 : IntKind.i64.wrap ((rm : Int) * 4) = (rm : Int) * 4 := IntWalk.i64_in _ (by omega)
  have y2 : IntKind.i64.wrap (8 + (rm : Int) * 4) = 8 + (rm : Int) * 4 := IntWalk.i64_in _ (by omega)
  have y3 : IntKind.i64.wrap (8 + (rm : Int) * 4 - (n : Int)) = (lo : Int) := by
    have : 8 + (rm : Int) * 4 - (n : Int) = (lo : Int) := by omega
    rw [this]; exact IntWalk.i64_in _ (by omega)
  have y4 : (8 + (rm : Int) * 4).toNat = lo + n := by omega
  have y5 : (lo : Int) ≤ 8 + (rm : Int) * 4 := by omega
  have y6 : 8 + (rm : Int) * 4 ≤ (cap : Int) := by omega
  have y7 : (0 : Int) ≤ (lo : Int) := by omega
  have y8 : lo + n - lo = n := by omega
  have y9 : n ≤ cap - lo := by omega
  have hb2 : (if cap = lo then some (⟨g, 0, none⟩ : Addr) else some ⟨g, lo, none⟩) = some ⟨g, b', none⟩ := by
    rw [← hb']
    split <;> rfl
  clear hcm hlm hk hf n1 n2 n3 n4 hnl hfl hrm htt hok hnn hn hrm2 hfe hnl4 hlk hspg hgd hb' hlo
  go_enter Ybaf.func8, Ybaf.ntmps8
  go_wp2_with (first
    | (go_at_call 15; refine htr.mono ?_; rintro e w1 ⟨h, hb⟩; obtain ⟨wa, wn, wc, rfl⟩ := trsaid_ok h; clear h htr; have m0 : w1.cell? ⟨w.heap.size + 1, 0, none⟩ = some mv := (hb.cell (p := ⟨w.heap.size + 1, 0, none⟩) (by simp)).trans (by simp [go_sem]); have m1 : w1.cell? ⟨w.heap.size + 1, 1, none⟩ = some (.pointer sp) := (hb.cell (p := ⟨w.heap.size + 1, 1, none⟩) (by simp)).trans (by simp [go_sem]); have m2 : w1.cell? ⟨w.heap.size, 2, none⟩ = some (.slice (some ⟨g, 0, none⟩) len cap) := (hb.cell (p := ⟨w.heap.size, 2, none⟩) (by simp; omega)).trans (by simp [go_sem]); have hB1 := hB0.trans (hb.mono hB0.size); have hE1 := hE0.below hb (Nat.le_refl _); have hS1 := hS0.below hb (Nat.le_refl _); have hz1 : w.heap.size + 1 < w1.heap.size := (by have := hb.size; simp at this; omega); have hz0 : w.heap.size < w1.heap.size := (by omega); have hz2 : ¬ (w.heap.size + 1 = w1.heap.size) := (by omega); have hz3 : ¬ (w1.heap.size = w.heap.size + 1) := (by omega); clear hE0 hS0)
    | (go_at_call 16; refine (hel _ (.slice (some wa) wn wc) (hE1.alloc _) (hS1.below ((Below.refl _ _).alloc (Nat.le_refl _) _) (Nat.le_refl _))).mono ?_; rintro e w2 ⟨rfl, hb2⟩; clear hel hE1 hS1; have hB2 := (hB1.alloc hB1.size (.cells #[.int .u8 nl, .int .u8 fl, .int .u8 rm, .int .u32 tt, .slice (some wa) wn wc] 57)).trans (hb2.mono (by have := hB1.size; simp; omega)); have hT2 := ((hb2.block w1.heap.size (by simp)).trans (World.alloc_heap_new w1 (.cells #[.int .u8 nl, .int .u8 fl, .int .u8 rm, .int .u32 tt, .slice (some wa) wn wc] 57))); have k2 : w2.cell? ⟨w.heap.size, 2, none⟩ = some (.slice (some ⟨g, 0, none⟩) len cap) := (hb2.cell (p := ⟨w.heap.size, 2, none⟩) (by simp; omega)).trans ((((Below.refl w1.heap.size w1).alloc (Nat.le_refl _) _).cell (p := ⟨w.heap.size, 2, none⟩) (by simp; omega)).trans m2); have k0 : w2.cell? ⟨w.heap.size + 1, 0, none⟩ = some mv := (hb2.cell (p := ⟨w.heap.size + 1, 0, none⟩) (by simp; omega)).trans ((((Below.refl w1.heap.size w1).alloc (Nat.le_refl _) _).cell (p := ⟨w.heap.size + 1, 0, none⟩) (by simp; omega)).trans m0); have k1 : w2.cell? ⟨w.heap.size + 1, 1, none⟩ = some (.pointer sp) := (hb2.cell (p := ⟨w.heap.size + 1, 1, none⟩) (by simp; omega)).trans ((((Below.refl w1.heap.size w1).alloc (Nat.le_refl _) _).cell (p := ⟨w.heap.size + 1, 1, none⟩) (by simp; omega)).trans m1); have hz4 : w1.heap.size < w2.heap.size := (by have := hb2.size; simp at this; omega); obtain ⟨t0, t1, t2, t3, t4, tf⟩ := tcells hT2; clear hb2 m0 m1 m2))
  have hB2d : Below w.heap.size w w2.drew := hB2.drew
  have hE2 := hE.below hB2d (Nat.le_refl _)
  have hR2 := hr.below hB2d hgl
  have hm2 : MapAt w2.drew mv lk := hm.keep (fun b hb => hB2d.block b (hmb b hb).1)
  have hmb2 : ∀ b, mv = .map (some b) → b < w2.drew.heap.size ∧ b ≠ g := fun b hb => ⟨Nat.lt_of_lt_of_le (hmb b hb).1 hB2d.size, (hmb b hb).2⟩
  have hcall := hpe w2.drew (.slice (some wa) wn wc) len n (cap - lo) hE2 hR2 (Nat.le_refl _) hbn hm2 hmb2 y9 (hS.below hB2d (Nat.le_refl _)) (hd.below hB2d (Nat.le_refl _))
  clear hpe hE hr hS hm hmb hd hE2 hm2 hmb2 hB1 hB0
  go_region_with (go_at_call 17; refine hcall.mono ?_; rintro e w3 ⟨rfl, hR3, hB3⟩)
  all_goals
    have hT3 := (hB3.block w1.heap.size (by exact hz4) (by omega)).trans hT2
    have m3 := (hB3.cell (p := ⟨w.heap.size, 2, none⟩) (by show w.heap.size < w2.heap.size; omega) (by show w.heap.size ≠ g; omega)).trans k2
    obtain ⟨s0, s1, s2, s3, s4, sf⟩ := tcells hT3
    have hne : ¬ (w.heap.size = w1.heap.size) := by omega
    have hne2 : ¬ (w1.heap.size = w.heap.size) := by omega
    clear hcall t0 t1 t2 t3 t4 tf k0 k1 k2 hT3 hT2 y0 y1 y2 y3 y4 y5 y6 y7 y8 y9 hbn hb2 hR2
    go_wp2_with (go_at_call 18; refine (hput _ (.slice (some wa) wn wc) ?_).mono ?_; (exact hR3.below (((Below.refl w1.heap.size _)).setCell (Nat.le_refl _) _) (by omega)); rintro e w4 ⟨rfl, hR4, hB4⟩)
    go_ret
    exact ⟨rfl, hR4, ((Below.but hB2d g).trans (hB3.mono hB2d.size)).trans (((But.refl w.heap.size g w3).setOther (p := ⟨w1.heap.size, 2, none⟩) (Nat.le_of_lt hz0) _).trans (hB4.mono (by have := hB3.size; have := hB2d.size; simp [World.setCell]; omega)))⟩
end Go.Proofs.YbulkdlqeFmt
