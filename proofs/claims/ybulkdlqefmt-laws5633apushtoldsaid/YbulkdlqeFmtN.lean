/-
  (Option).Fill: the snapshot that does not fit; the trace that overflows.
-/
import Derived.Test.YbulkdlqeFmtM
namespace Go.Proofs.YbulkdlqeFmt
open Go.RowKit Go.Shelf Go.Extern.Stop Go.Stop Go.Extern

theorem trsaid_ok {ea : Nat → Addr} {nl fl rm tt : Nat} {e : Ending} (h : ((9 : Nat) = 9 ∧ ∃ (wa : Addr) (wn wc : Nat), e = .returned (.tuple #[.agg #[.int .u8 (nl : Int), .int .u8 (fl : Int), .int .u8 (rm : Int), .int .u32 (tt : Int), .slice (some wa) wn wc], .nilIface])) ∨ ((9 : Nat) ≠ 9 ∧ e = .returned (.tuple #[zeroT, errV ea 9]))) :
    ∃ (wa : Addr) (wn wc : Nat), e = .returned (.tuple #[.agg #[.int .u8 (nl : Int), .int .u8 (fl : Int), .int .u8 (rm : Int), .int .u32 (tt : Int), .slice (some wa) wn wc], .nilIface]) := by
  rcases h with ⟨_, h⟩ | ⟨h, _⟩
  · exact h
  · exact absurd rfl h

theorem hTt_lt {f : Nat → Nat} (hf : ∀ i, f i < 256) : hTt f < 16777216 := by
  have := hf 4
  have := hf 5
  have := hf 6
  unfold hTt
  omega
theorem hNl_lt {f : Nat → Nat} (hf : ∀ i, f i < 256) : hNl f < 32 := by
  have := hf 2
  unfold hNl
  omega
theorem hFl_lt {f : Nat → Nat} (hf : ∀ i, f i < 256) : hFl f < 16 := by
  have := hf 3
  unfold hFl
  omega
theorem hRm_lt (f : Nat → Nat) : hRm f < 128 := by
  unfold hRm
  omega

set_option maxRecDepth 100000 in
set_option maxHeartbeats 1000000 in
theorem fill_bad (I : Interp) (ns rs F fo c g len cap sch dl dc : Nat) (ad : Option Addr) (f : Nat → Nat) (ea : Nat → Addr) (mv : Value) (sp : Option Addr) (w : World) (hF : I.answers w.tape) (hE : Env w F fo c ea) (hl : 8 ≤ len) (hr : Row w g len f) (hf : ∀ i, f i < 256) (hlc : len ≤ cap) (hcm : cap ≤ 9223372036854775807) (hlm : len ≤ 4000000)
    (hk : tcode 0 len f = 9) (hs : bt (hTt f) 22 = true) (hS : SnapAt w sp sch dl ad dc) (hdl : dl ≤ 4000000) (hbad : ¬ SnOk sch dl) :
    Calls Ybaf.prog 8 #[.agg #[.int .u8 0, .int .u16 ns, .slice (some ⟨g, 0, none⟩) len cap, .int .u8 rs], .agg #[mv, .pointer sp]] w (ErrSaid w) := by
  have hB0 : Below w.heap.size w ((w.alloc (.cells #[.int .u8 0, .int .u16 ns, .slice (some ⟨g, 0, none⟩) len cap, .int .u8 rs] 37)).alloc (.cells #[mv, .pointer sp] 34)) := ((Below.refl _ _).alloc (Nat.le_refl _) _).alloc (by simp) _
  have hE0 := (hE.alloc (.cells #[.int .u8 0, .int .u16 ns, .slice (some ⟨g, 0, none⟩) len cap, .int .u8 rs] 37)).alloc (.cells #[mv, .pointer sp] 34)
  have htr := trace_any 0 ns rs F fo c g len cap f ea _ hE0 (by omega) hl (hr.below hB0 hr.lt) hf hlc hcm hlm
  rw [hk] at htr
  have n1 := hNl_lt hf
  have n4 := hTt_lt hf
  have hS0 := hS.below hB0 (Nat.le_refl _)
  have hF0 : I.answers ((w.alloc (.cells #[.int .u8 0, .int .u16 ns, .slice (some ⟨g, 0, none⟩) len cap, .int .u8 rs] 37)).alloc (.cells #[mv, .pointer sp] 34)).tape := hF
  obtain ⟨nl, hnl⟩ : ∃ nl, hNl f = nl := ⟨_, rfl⟩
  obtain ⟨fl, hfl⟩ : ∃ fl, hFl f = fl := ⟨_, rfl⟩
  obtain ⟨rm, hrm⟩ : ∃ rm, hRm f = rm := ⟨_, rfl⟩
  obtain ⟨tt, htt⟩ : ∃ tt, hTt f = tt := ⟨_, rfl⟩
  rw [hnl, hfl, hrm, htt] at htr
  rw [htt] at hs n4
  rw [hnl] at n1
  have hel : ∀ (X : World) (wr : Value), I.answers X.tape → Env X F fo c ea → SnapAt X sp sch dl ad dc → _ := fun X wr a b d => elen_bad I nl fl rm tt F fo c sch dl dc ad ea wr mv sp X a b (by omega) n4 hs d hdl hbad
  clear hcm hlm hk hf n1 n4 hnl hfl hrm htt hdl hbad hF hS hE hr
  go_enter Ybaf.func8, Ybaf.ntmps8
  go_wp2_with (first
    | (go_at_call 15; go_loud (refine htr.mono ?_; rintro e w1 ⟨h, hb⟩; obtain ⟨wa, wn, wc, rfl⟩ := trsaid_ok h; clear h htr; have m0 : w1.cell? ⟨w.heap.size + 1, 0, none⟩ = some mv := (hb.cell (p := ⟨w.heap.size + 1, 0, none⟩) (by simp)).trans (by simp [go_sem]); have m1 : w1.cell? ⟨w.heap.size + 1, 1, none⟩ = some (.pointer sp) := (hb.cell (p := ⟨w.heap.size + 1, 1, none⟩) (by simp)).trans (by simp [go_sem]); have hB1 := hB0.trans (hb.mono hB0.size); have hE1 := hE0.below hb (Nat.le_refl _); have hS1 := hS0.below hb (Nat.le_refl _); have hF1 : I.answers w1.tape := (congrArg I.answers hb.tape).mpr hF0; have hz1 : w.heap.size + 1 < w1.heap.size := (by have := hb.size; simp at this; omega); have hz0 : w.heap.size < w1.heap.size := (by omega); have hz2 : ¬ (w.heap.size + 1 = w1.heap.size) := (by omega); have hz3 : ¬ (w1.heap.size = w.heap.size + 1) := (by omega); clear hE0 hS0 hF0))
    | (go_at_call 16; refine (hel _ (.slice (some wa) wn wc) (by exact hF1) (hE1.alloc _) (hS1.below ((Below.refl _ _).alloc (Nat.le_refl _) _) (Nat.le_refl _))).mono ?_; rintro e w2 ⟨a, rfl, hb2⟩; clear hel hE1 hS1 hF1))
  go_ret
  exact ⟨a, rfl, (hB1.alloc hB1.size _).trans (hb2.mono (by have := hB1.size; simp; omega))⟩

/-- A header's two changing bytes. -/
def hdrF (o nl fl rm : Nat) (f : Nat → Nat) (i : Nat) : Nat := if i = o + 3 then fl % 2 * 128 + rm else if i = o + 2 then nl * 8 + fl / 2 else f i

/-- elementLen, plain or with a snapshot that fits. -/
theorem elen_any (nl fl rm tt F fo c sch dl dc : Nat) (ad : Option Addr) (ea : Nat → Addr) (wr mv : Value) (sp : Option Addr) (w : World) (hE : Env w F fo c ea) (hnl : nl < 256) (htt : tt < 16777216)
    (hS : SnapAt w sp sch dl ad dc) (hok : bt tt 22 = true → SnOk sch dl) :
    Calls Ybaf.prog 16 #[.agg #[.int .u8 nl, .int .u8 fl, .int .u8 rm, .int .u32 tt, wr], .agg #[mv, .pointer sp]] w fun e w' => e = .returned (.tuple #[.int .i64 ((elen nl tt dl : Nat) : Int), .nilIface]) ∧ Below w.heap.size w w' := by
  cases hs : bt tt 22 with
  | true =>
    have e : elen nl tt dl = nl * 4 + 4 + dl := by simp [elen, hs]
    rw [e]
    exact elen_snap nl fl rm tt F fo c sch dl dc ad ea wr mv sp w hE hnl htt hs hS (hok hs)
  | false =>
    have e : elen nl tt dl = nl * 4 := by simp [elen, hs]
    rw [e]
    exact elen_plain nl fl rm tt F fo c ea wr mv sp w hE hnl htt hs

theorem or8 (fl : Nat) (h : fl < 16) : bits .or .u8 (fl : Int) 8 = ((fl ||| 8 : Nat) : Int) ∧ fl ||| 8 < 16 := by
  refine ⟨?_, Nat.or_lt_two_pow (n := 4) (by omega) (by omega)⟩
  exact u8_or_nat fl 8 (by omega) (by omega)

set_option maxRecDepth 100000 in
set_option maxHeartbeats 1000000 in
theorem fill_over (ns rs F fo c g len cap sch dl dc : Nat) (ad : Option Addr) (f : Nat → Nat) (ea : Nat → Addr) (mv : Value) (sp : Option Addr) (w : World) (hE : Env w F fo c ea) (hl : 8 ≤ len) (hr : Row w g len f) (hf : ∀ i, f i < 256) (hlc : len ≤ cap) (hcm : cap ≤ 9223372036854775807) (hlm : len ≤ 4000000)
    (hk : tcode 0 len f = 9) (hS : SnapAt w sp sch dl ad dc) (hok : bt (hTt f) 22 = true → SnOk sch dl) (hn : hRm f * 4 < elen (hNl f) (hTt f) dl) :
    Calls Ybaf.prog 8 #[.agg #[.int .u8 0, .int .u16 ns, .slice (some ⟨g, 0, none⟩) len cap, .int .u8 rs], .agg #[mv, .pointer sp]] w fun e w' => e = .returned .nilIface ∧ Row w' g len (hdrF 0 (hNl f) (hFl f ||| 8) (hRm f) f) ∧ But w.heap.size g w w' := by
  have hB0 : Below w.heap.size w ((w.alloc (.cells #[.int .u8 0, .int .u16 ns, .slice (some ⟨g, 0, none⟩) len cap, .int .u8 rs] 37)).alloc (.cells #[mv, .pointer sp] 34)) := ((Below.refl _ _).alloc (Nat.le_refl _) _).alloc (by simp) _
  have hE0 := (hE.alloc (.cells #[.int .u8 0, .int .u16 ns, .slice (some ⟨g, 0, none⟩) len cap, .int .u8 rs] 37)).alloc (.cells #[mv, .pointer sp] 34)
  have htr := trace_any 0 ns rs F fo c g len cap f ea _ hE0 (by omega) hl (hr.below hB0 hr.lt) hf hlc hcm hlm
  rw [hk] at htr
  have n1 := hNl_lt hf
  have n2 := hFl_lt hf
  have n3 := hRm_lt f
  have n4 := hTt_lt hf
  have hS0 := hS.below hB0 (Nat.le_refl _)
  have hr0 := hr.below hB0 hr.lt
  have hgl := hr.lt
  obtain ⟨nl, hnl⟩ : ∃ nl, hNl f = nl := ⟨_, rfl⟩
  obtain ⟨fl, hfl⟩ : ∃ fl, hFl f = fl := ⟨_, rfl⟩
  obtain ⟨rm, hrm⟩ : ∃ rm, hRm f = rm := ⟨_, rfl⟩
  obtain ⟨tt, htt⟩ : ∃ tt, hTt f = tt := ⟨_, rfl⟩
  rw [hnl, hfl, hrm, htt] at htr
  rw [hnl, hfl, hrm]
  rw [hnl, hrm, htt] at hn
  rw [htt] at hok n4
  rw [hnl] at n1
  rw [hfl] at n2
  rw [hrm] at n3
  obtain ⟨hor, hor2⟩ := or8 fl n2
  obtain ⟨fl8, hfl8⟩ : ∃ x, fl ||| 8 = x := ⟨_, rfl⟩
  rw [hfl8] at hor hor2 ⊢
  have hel : ∀ (X : World) (wr : Value), Env X F fo c ea → SnapAt X sp sch dl ad dc → _ := fun X wr b d => elen_any nl fl rm tt F fo c sch dl dc ad ea wr mv sp X b (by omega) n4 d hok
  obtain ⟨n, hnn⟩ : ∃ n, elen nl tt dl = n := ⟨_, rfl⟩
  rw [hnn] at hel hn
  have hput : ∀ (X : World) (wr : Value), Row X g len f → _ := fun X wr hRX => putHeader_any nl fl8 rm tt g 0 len cap len wr f X n1 hor2 n3 (by omega) (by omega) hRX
  have hn' : (rm : Int) * 4 < (n : Int) := by omega
  have hrmi : (rm : Int) < 128 := by omega
  clear hcm hlm hk hf n1 n2 n3 n4 hnl hfl hrm htt hS hE hok hnn hn hfl8 hor2
  go_enter Ybaf.func8, Ybaf.ntmps8
  go_wp2_with (first
    | (go_at_call 15; refine htr.mono ?_; rintro e w1 ⟨h, hb⟩; obtain ⟨wa, wn, wc, rfl⟩ := trsaid_ok h; clear h htr; have m0 : w1.cell? ⟨w.heap.size + 1, 0, none⟩ = some mv := (hb.cell (p := ⟨w.heap.size + 1, 0, none⟩) (by simp)).trans (by simp [go_sem]); have m1 : w1.cell? ⟨w.heap.size + 1, 1, none⟩ = some (.pointer sp) := (hb.cell (p := ⟨w.heap.size + 1, 1, none⟩) (by simp)).trans (by simp [go_sem]); have m2 : w1.cell? ⟨w.heap.size, 2, none⟩ = some (.slice (some ⟨g, 0, none⟩) len cap) := (hb.cell (p := ⟨w.heap.size, 2, none⟩) (by simp; omega)).trans (by simp [go_sem]); have hB1 := hB0.trans (hb.mono hB0.size); have hE1 := hE0.below hb (Nat.le_refl _); have hS1 := hS0.below hb (Nat.le_refl _); have hR1 := hr.below hB1 hgl; have hz1 : w.heap.size + 1 < w1.heap.size := (by have := hb.size; simp at this; omega); have hz0 : w.heap.size < w1.heap.size := (by omega); have hz2 : ¬ (w.heap.size + 1 = w1.heap.size) := (by omega); have hz3 : ¬ (w1.heap.size = w.heap.size + 1) := (by omega); clear hE0 hS0)
    | (go_at_call 16; refine (hel _ (.slice (some wa) wn wc) (hE1.alloc _) (hS1.below ((Below.refl _ _).alloc (Nat.le_refl _) _) (Nat.le_refl _))).mono ?_; rintro e w2 ⟨rfl, hb2⟩; clear hel hE1 hS1; have hB2 := (hB1.alloc hB1.size (.cells #[.int .u8 nl, .int .u8 fl, .int .u8 rm, .int .u32 tt, .slice (some wa) wn wc] 57)).trans (hb2.mono (by have := hB1.size; simp; omega)); obtain ⟨t0, t1, t2, t3, t4, tf⟩ := tcells ((hb2.block w1.heap.size (by simp)).trans (World.alloc_heap_new w1 (.cells #[.int .u8 nl, .int .u8 fl, .int .u8 rm, .int .u32 tt, .slice (some wa) wn wc] 57))); have m3 : w2.cell? ⟨w.heap.size, 2, none⟩ = some (.slice (some ⟨g, 0, none⟩) len cap) := (hb2.cell (p := ⟨w.heap.size, 2, none⟩) (by simp; omega)).trans ((((Below.refl w1.heap.size w1).alloc (Nat.le_refl _) _).cell (p := ⟨w.heap.size, 2, none⟩) (by simp; omega)).trans m2); have hR2 := hr.below hB2 hgl; have hne : ¬ (w.heap.size = w1.heap.size) := (by omega); have hne2 : ¬ (w1.heap.size = w.heap.size) := (by omega); clear hb2)
    | (go_at_call 18; refine (hput _ (.slice (some wa) wn wc) ?_).mono ?_; (exact hR2.below (((Below.refl w1.heap.size _)).setCell (Nat.le_refl _) _) (by omega)); rintro e w3 ⟨rfl, hR3, hB3⟩))
  go_ret
  exact ⟨rfl, hR3, (Below.but (hB2.setCell (p := ⟨w1.heap.size, 1, none⟩) (Nat.le_of_lt hz0) _) g).trans (hB3.mono (by have := hB2.size; simpa [World.setCell] using this))⟩
end Go.Proofs.YbulkdlqeFmt
