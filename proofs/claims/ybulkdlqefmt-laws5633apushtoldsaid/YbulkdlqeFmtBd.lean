/-
  (Option).Push: the element is written.
-/
import Derived.Test.YbulkdlqeFmtBc
import Derived.Deep.DeepCutAuto
namespace Go.Proofs.YbulkdlqeFmt
open Go.RowKit Go.Shelf Go.Extern.Stop Go.Stop Go.Extern

/-- Where b[lo:] begins. -/
theorem cut_in (g cap lo : Nat) : ∃ p, (if cap = lo then some (⟨g, 0, none⟩ : Addr) else some ⟨g, lo, none⟩) = some ⟨g, p, none⟩ ∧ (cap = lo ∨ p = lo) ∧ p ≤ lo := by
  by_cases h : cap = lo
  · exact ⟨0, if_pos h, .inl h, Nat.zero_le _⟩
  · exact ⟨lo, if_neg h, .inr rfl, Nat.le_refl _⟩
/-- The data ahead of the element's writing. -/
def roomF (rs : Nat) (f : Nat → Nat) (i : Nat) : Nat := if i < 10 then preF rs f i else 0

set_option maxRecDepth 100000 in
set_option maxHeartbeats 4000000 in
theorem push_wrote (ns rs F fo c h sch dl dc : Nat) (ad : Option Addr) (f df : Nat → Nat) (lk : ByteArray → Nat × Bool) (ea : Nat → Addr) (mv : Value) (sp : Option Addr) (B : Nat) (w : World) (hE : Env w F fo c ea) (hr : Row w h 8 f) (hf : ∀ i, f i < 256)
    (hk : tcode 1 8 f = 9) (hD : DataAt w B mv sp lk sch dl ad dc df) (hok : bt (hTt f) 22 = true → SnOk sch dl) (hn : elen (hNl f) (hTt f) dl ≤ hRm f * 4) (hnl4 : asz (hTt f) = hNl f * 4) (hadl : ∀ a, ad = some a → a.block < w.heap.size) (hspl : ∀ a, sp = some a → a.block < w.heap.size) :
    Calls Ybaf.prog 11 #[.agg #[.int .u8 1, .int .u16 ns, .slice (some ⟨h, 0, none⟩) 8 8, .int .u8 rs], .slice none 0 0, .agg #[mv, .pointer sp], .int .i64 1048576] w fun e w' => (∃ g cap, e = .returned (.tuple #[.slice (some ⟨g, 0, none⟩) (10 + elen (hNl f) (hTt f) dl) cap, .nilIface]) ∧ w.heap.size ≤ g ∧ 10 + elen (hNl f) (hTt f) dl ≤ cap ∧ Row w' g (10 + elen (hNl f) (hTt f) dl) (hdrF 2 (hNl f) (hFl f) (hRm f - elen (hNl f) (hTt f) dl / 4) (elF 10 (hNl f) (hTt f) sch dl lk df (roomF rs f)))) ∧ Below w.heap.size w w' := by
  have hS := hD.snap
  have hB0 : Below w.heap.size w ((w.alloc (.cells #[.int .u8 1, .int .u16 ns, .slice (some ⟨h, 0, none⟩) 8 8, .int .u8 rs] 37)).alloc (.cells #[mv, .pointer sp] 34)) := ((Below.refl _ _).alloc (Nat.le_refl _) _).alloc (by simp) _
  have hO0 : ((w.alloc (.cells #[.int .u8 1, .int .u16 ns, .slice (some ⟨h, 0, none⟩) 8 8, .int .u8 rs] 37)).alloc (.cells #[mv, .pointer sp] 34)).heap[w.heap.size]? = some (.cells #[.int .u8 1, .int .u16 ns, .slice (some ⟨h, 0, none⟩) 8 8, .int .u8 rs] 37 (0, 0)) := (Below.heap_alloc _ _ _ (by simp)).trans (World.alloc_heap_new w _)
  have hE0 := (hE.alloc (.cells #[.int .u8 1, .int .u16 ns, .slice (some ⟨h, 0, none⟩) 8 8, .int .u8 rs] 37)).alloc (.cells #[mv, .pointer sp] 34)
  have htr := trace_any 1 ns rs F fo c h 8 8 f ea _ hE0 (by omega) (by omega) (hr.below hB0 hr.lt) hf (by omega) (by omega) (by omega)
  rw [hk] at htr
  have n1 := hNl_lt hf
  have n2 := hFl_lt hf
  have n3 := hRm_lt f
  have n4 := hTt_lt hf
  have hS0 := hS.below hB0 (Nat.le_refl _)
  have hhl := hr.lt
  obtain ⟨nl, hnl⟩ : ∃ nl, hNl f = nl := ⟨_, rfl⟩
  obtain ⟨fl, hfl⟩ : ∃ fl, hFl f = fl := ⟨_, rfl⟩
  obtain ⟨rm, hrm⟩ : ∃ rm, hRm f = rm := ⟨_, rfl⟩
  obtain ⟨tt, htt⟩ : ∃ tt, hTt f = tt := ⟨_, rfl⟩
  rw [hnl, hfl, hrm, htt] at htr
  rw [hnl, hfl, hrm, htt]
  rw [hnl, hrm, htt] at hn
  rw [hnl, htt] at hnl4
  rw [htt] at hok n4
  rw [hnl] at n1
  rw [hfl] at n2
  rw [hrm] at n3
  have hel : ∀ (X : World) (wr : Value), Env X F fo c ea → SnapAt X sp sch dl ad dc → _ := fun X wr b d => elen_any nl fl rm tt F fo c sch dl dc ad ea wr mv sp X b (by omega) n4 d hok
  have hpe : ∀ (X : World) (wr : Value) (g p N len' cap' : Nat), Env X F fo c ea → Row X g N (roomF rs f) → 6 < g → F ≠ g → elen nl tt dl ≤ len' → p + len' ≤ N → MapAt X mv lk → (∀ b, mv = .map (some b) → b < X.heap.size ∧ b ≠ g) → len' ≤ cap' → SnapAt X sp sch dl ad dc → (∀ a, sp = some a → a.block ≠ g) → Bytes X ad dl df → (∀ a, ad = some a → a.block ≠ g) → _ :=
    fun X wr g p N len' cap' p1 p2 q1 q2 p3 p4 p5 p6 p7 p8 q3 p9 q4 => putel_any nl fl rm tt F fo c g p N len' cap' ea wr mv sp lk (roomF rs f) X p1 (by omega) hD.lkok p2 q1 q2 (by omega) sch dl dc p3 p4 p5 p6 ad df hok (by omega) p7 p8 q3 p9 q4
  obtain ⟨n, hnn⟩ : ∃ n, elen nl tt dl = n := ⟨_, rfl⟩
  have hout : ∀ p, n = 0 → ∀ i, elF p nl tt sch dl lk df (roomF rs f) i = elF 10 nl tt sch dl lk df (roomF rs f) i := fun p h0 i => by
    rw [elF_out hnl4 (by rw [hnn]; omega), elF_out hnl4 (by rw [hnn]; omega)]
  rw [hnn] at hel hn hpe ⊢
  obtain ⟨fe, hfe⟩ : ∃ fe, elF 10 nl tt sch dl lk df (roomF rs f) = fe := ⟨_, rfl⟩
  rw [hfe]
  have HFE : Hid (elF 10 nl tt sch dl lk df (roomF rs f) = fe) := hfe
  clear hfe
  obtain ⟨rm2, hrm2⟩ : ∃ x, rm - n / 4 = x := ⟨_, rfl⟩
  rw [hrm2]
  have hput : ∀ (X : World) (wr : Value) (g len cap : Nat) (fe : Nat → Nat), 4 ≤ len → Row X g (10 + n) fe → _ := fun X wr g len cap fe hl hRX => putHeader_any nl fl rm2 tt g 2 len cap (10 + n) wr fe X n1 n2 (by omega) hl (by omega) hRX
  have hn' : (n : Int) ≤ (rm : Int) * 4 := by omega
  have hroom' : ¬ (1048576 : Int) < (n : Int) := by omega
  have hrmi : (rm : Int) < 128 := by omega
  have hn508 : n ≤ 508 := by omega
  have hq : (rm : Int) - (n : Int) / 4 = (rm2 : Int) := by omega
  have hE6 := hE.six
  have hEF := hE.lt
  have hE' := hE
  clear hk hf n1 n2 n3 n4 hnl hfl hrm htt hE hok hnn hn hrm2 hnl4 hS
  go_enter Ybaf.func11, Ybaf.ntmps11
  go_upto_region 10 with (first
    | (go_at_call 15; refine htr.mono ?_; rintro e w1 ⟨h', hb⟩; obtain ⟨wa, wn, wd, rfl⟩ := trsaid_ok h'; clear h' htr; have m0 : w1.cell? ⟨w.heap.size + 1, 0, none⟩ = some mv := (hb.cell (p := ⟨w.heap.size + 1, 0, none⟩) (by simp)).trans (by simp [go_sem]); have m1 : w1.cell? ⟨w.heap.size + 1, 1, none⟩ = some (.pointer sp) := (hb.cell (p := ⟨w.heap.size + 1, 1, none⟩) (by simp)).trans (by simp [go_sem]); have hO1 : w1.heap[w.heap.size]? = some (.cells #[.int .u8 1, .int .u16 ns, .slice (some ⟨h, 0, none⟩) 8 8, .int .u8 rs] 37 (0, 0)) := (hb.block w.heap.size (by simp; omega)).trans hO0; have hB1 := hB0.trans (hb.mono hB0.size); have hE1 := hE0.below hb (Nat.le_refl _); have hS1 := hS0.below hb (Nat.le_refl _); have hz1 : w.heap.size + 1 < w1.heap.size := (by have := hb.size; simp at this; omega); have hz0 : w.heap.size < w1.heap.size := (by omega); have hz2 : ¬ (w.heap.size + 1 = w1.heap.size) := (by omega); have hz3 : ¬ (w1.heap.size = w.heap.size + 1) := (by omega); clear hE0 hS0)
    | (go_at_call 16; refine (hel _ (.slice (some wa) wn wd) (hE1.alloc _) (hS1.below ((Below.refl _ _).alloc (Nat.le_refl _) _) (Nat.le_refl _))).mono ?_; rintro e w2 ⟨rfl, hb2⟩; clear hel hE1 hS1; have hB2 := (hB1.alloc hB1.size (.cells #[.int .u8 nl, .int .u8 fl, .int .u8 rm, .int .u32 tt, .slice (some wa) wn wd] 57)).trans (hb2.mono (by have := hB1.size; simp; omega)); have hT2 := ((hb2.block w1.heap.size (by simp)).trans (World.alloc_heap_new w1 (.cells #[.int .u8 nl, .int .u8 fl, .int .u8 rm, .int .u32 tt, .slice (some wa) wn wd] 57))); have hO2 := (hb2.block w.heap.size (by simp; omega)).trans ((Below.heap_alloc w1 (.cells #[.int .u8 nl, .int .u8 fl, .int .u8 rm, .int .u32 tt, .slice (some wa) wn wd] 57) w.heap.size (by omega)).trans hO1); have hz4 : w1.heap.size < w2.heap.size := (by have := hb2.size; simp at this; omega)))
  obtain ⟨o0, o1, o2, o3, of⟩ := ocells hO2
  have hlo : w.heap.size < w2.heap.size := by omega
  go_upto_region 11 with (at_builtin; refine wpList_app_nil _ rfl (.tmp 38) (.tmp 43) rfl w2.heap.size rfl w2.heap.size 0 2 2 (fun j => [rs, 1].getD j 0) rfl (fun j hj => by (rcases (show j = 0 ∨ j = 1 by omega) with rfl | rfl) <;> simp [go_sem]) (by omega) (by omega) (by simp) ?_; intro g1 cap1 w3 hown3 hb3)
  have hB3 : Below w2.heap.size w2 w3 := ((Below.refl _ _).alloc (Nat.le_refl _) _).trans hb3
  have hT3 := (hB3.block w1.heap.size hz4).trans hT2
  have hO3 := (hB3.block w.heap.size hlo).trans hO2
  have hr3 : Row w3 h 8 f := (hr.below hB2 hhl).below hB3 (Nat.lt_of_lt_of_le hhl hB2.size)
  clear o0 o1 o2 o3 of hb3
  obtain ⟨o0, o1, o2, o3, of⟩ := ocells hO3
  go_upto_region 12 with (at_builtin; refine wpList_app _ rfl (.tmp 45) (.tmp 48) rfl w2.heap.size g1 cap1 2 _ rfl hown3 h 0 8 8 f rfl (fun j hj => by rw [Nat.zero_add]; exact hr3.cell hj) (by omega) hB3.size ?_; intro g2 cap2 w4 hown4 hb4)
  have hB4 : Below w2.heap.size w2 w4 := hB3.trans hb4
  have hT4 := (hB4.block w1.heap.size hz4).trans hT2
  have hO4 := (hB4.block w.heap.size hlo).trans hO2
  have hr4 : Row w4 h 8 f := (hr.below hB2 hhl).below hB4 (Nat.lt_of_lt_of_le hhl hB2.size)
  have hown5 : OwnB w4 w2.heap.size g2 cap2 10 (preF rs f) := hown4.congr (fun i hi => by
    unfold preF
    show (if i < 2 then _ else _) = if i < 2 then _ else _
    rfl)
  clear o0 o1 o2 o3 of hown4 hb4 hown3 hr3
  obtain ⟨o0, o1, o2, o3, of⟩ := ocells hO4
  obtain ⟨t0, t1, t2, t3, t4, tf⟩ := tcells hT4
  obtain ⟨hrow, hBg, hc10, hcM⟩ := hown5.row
  have hBw4 := hB2.trans (hB4.mono hB2.size)
  clear hrow hBg hc10 hcM o0 o1 o2 o3 of
  go_upto_region 15 with (at_builtin; refine wpList_zeros _ rfl (.tmp 65) (.tmp 66) rfl w2.heap.size g2 cap2 10 (preF rs f) rfl hown5 n rfl (by omega) hB4.size ?_; intro g3 cap3 w5 hown6 hb5)
  have hB5 : Below w2.heap.size w2 w5 := hB4.trans hb5
  have hM2 : w2.heap[w.heap.size + 1]? = some (.cells #[mv, .pointer sp] 34 (0, 0)) := (hb2.block (w.heap.size + 1) (by simp; omega)).trans ((Below.heap_alloc w1 _ (w.heap.size + 1) (by omega)).trans ((hb.block (w.heap.size + 1) (by simp)).trans (heap_alloc2_new _ _ _)))
  have hBw5 := hB2.trans (hB5.mono hB2.size)
  have hT5 := (hB5.block w1.heap.size hz4).trans hT2
  have hO5 := (hB5.block w.heap.size hlo).trans hO2
  have hown7 : OwnB w5 w2.heap.size g3 cap3 (10 + n) (roomF rs f) := hown6.congr (fun i hi => by rfl)
  obtain ⟨hrow, hBg, hc10, hcM⟩ := hown7.row
  obtain ⟨p, hp, hpo, hpl⟩ := cut_in g3 cap3 10
  have hM5 : w5.heap[w.heap.size + 1]? = some (.cells #[mv, .pointer sp] 34 (0, 0)) := by
    have hlo1 : w.heap.size + 1 < w2.heap.size := by omega
    exact (hB5.block (w.heap.size + 1) hlo1).trans hM2
  have p0 : w5.drew.cell? ⟨w.heap.size + 1, 0, none⟩ = some mv := by show w5.cell? _ = _; rw [cell_of_row w5 _ _ _ 34 (0, 0) hM5]; rfl
  have p1 : w5.drew.cell? ⟨w.heap.size + 1, 1, none⟩ = some (.pointer sp) := by show w5.cell? _ = _; rw [cell_of_row w5 _ _ _ 34 (0, 0) hM5]; rfl
  have hgw : w.heap.size ≤ g3 := by have := hB2.size; omega
  have hBd : Below w.heap.size w w5.drew := hBw5.drew
  have hcall := hpe w5.drew (.slice (some wa) wn wd) g3 p (10 + n) n (cap3 - 10) (hE'.below hBd (Nat.le_refl _)) hrow (by omega) (by omega) (Nat.le_refl _) (by omega) (hD.map.keep (fun b e => hBd.block b (hD.mapB b e).2)) (fun b e => ⟨Nat.lt_of_lt_of_le (hD.mapB b e).2 hBd.size, by have := (hD.mapB b e).2; omega⟩) (by omega) (hD.snap.below hBd (Nat.le_refl _)) (fun a e => by have := hspl a e; omega) (hD.bytes.below hBd (Nat.le_refl _)) (fun a e => by have := hadl a e; omega)
  have hcc : ∀ i, elF p nl tt sch dl lk df (roomF rs f) i = elF 10 nl tt sch dl lk df (roomF rs f) i := by
    intro i
    rcases hpo with h | h
    · exact hout p (by omega) i
    · rw [h]
  rw [show elF p nl tt sch dl lk df (roomF rs f) = fe from (funext hcc).trans HFE.out] at hcall
  obtain ⟨t0, t1, t2, t3, t4, tf⟩ := tcells hT5
  obtain ⟨L, hL⟩ : ∃ L, 10 + n = L := ⟨_, rfl⟩
  rw [hL] at hrow hc10 hcall ⊢
  have x1 : IntKind.i64.wrap ((L : Int) - (n : Int)) = 10 := by rw [show (L : Int) - (n : Int) = 10 by omega]; exact IntWalk.i64_in _ (by omega)
  have x3 : L - 10 = n := by omega
  have x5 : (10 : Int) ≤ (L : Int) := by omega
  have HL : Hid (10 + n = L) := hL
  clear hL
  clear hpe hout hcc HFE hD hE' hB0 hO0 hO1 hO2 hO3 hO4 hT2 hT3 hT4 hM5 hM2 hB3 hB4 hr4 hown5 hown6 hown7 hBd
  go_cut [76] (fun v wx => Row wx g3 L fe ∧ But w5.drew.heap.size g3 w5.drew wx)
  case first =>
    go_region_with (go_at_call 17; refine hcall.mono ?_; rintro e w6 ⟨rfl, hR6, hB6⟩)
    all_goals
      go_wp2
      go_meet
      exact ⟨hR6, hB6⟩
  case rest =>
    obtain ⟨hR6, hB6⟩ := hcut
    have hne1 : w1.heap.size ≠ g3 := by omega
    have hne0 : w.heap.size ≠ g3 := by omega
    have hT6 := (hB6.block w1.heap.size (World.block_lt_of_cell? w5 _ t0) hne1).trans hT5
    have hO6 := (hB6.block w.heap.size (World.block_lt_of_cell? w5 _ (ocells hO5).1) hne0).trans hO5
    clear t0 t1 t2 t3 t4 tf x1 x3 x5 hp p0 p1 hcall
    obtain ⟨t0, t1, t2, t3, t4, tf⟩ := tcells hT6
    go_upto_region 17 with fail
    have u0 : (wc.setCell ⟨w1.heap.size, 2, none⟩ (.int .u8 (rm2 : Int))).cell? ⟨w1.heap.size, 0, none⟩ = some (.int .u8 (nl : Int)) := by simp [go_sem, t0]
    have u1 : (wc.setCell ⟨w1.heap.size, 2, none⟩ (.int .u8 (rm2 : Int))).cell? ⟨w1.heap.size, 1, none⟩ = some (.int .u8 (fl : Int)) := by simp [go_sem, t1]
    have u2 : (wc.setCell ⟨w1.heap.size, 2, none⟩ (.int .u8 (rm2 : Int))).cell? ⟨w1.heap.size, 2, none⟩ = some (.int .u8 (rm2 : Int)) := by simp [go_sem, t2]
    have u3 : (wc.setCell ⟨w1.heap.size, 2, none⟩ (.int .u8 (rm2 : Int))).cell? ⟨w1.heap.size, 3, none⟩ = some (.int .u32 (tt : Int)) := by simp [go_sem, t3]
    have u4 : (wc.setCell ⟨w1.heap.size, 2, none⟩ (.int .u8 (rm2 : Int))).cell? ⟨w1.heap.size, 4, none⟩ = some (.slice (some wa) wn wd) := by simp [go_sem, t4]
    have hO7 : (wc.setCell ⟨w1.heap.size, 2, none⟩ (.int .u8 (rm2 : Int))).heap[w.heap.size]? = some (.cells #[.int .u8 1, .int .u16 ns, .slice (some ⟨h, 0, none⟩) 8 8, .int .u8 rs] 37 (0, 0)) := (Below.heap_setCell _ _ _ _ (by show w.heap.size ≠ w1.heap.size; omega)).trans hO6
    have hrow7 : Row (wc.setCell ⟨w1.heap.size, 2, none⟩ (.int .u8 (rm2 : Int))) g3 L fe := hR6.block (Below.heap_setCell _ _ _ _ (by show g3 ≠ w1.heap.size; omega))
    have hB7 : But w.heap.size g3 w (wc.setCell ⟨w1.heap.size, 2, none⟩ (.int .u8 (rm2 : Int))) := ((Below.but hBw5.drew g3).trans (hB6.mono hBw5.size)).setOther (p := ⟨w1.heap.size, 2, none⟩) (Nat.le_of_lt hz0) _
    obtain ⟨W7, hW7⟩ : ∃ W7, wc.setCell ⟨w1.heap.size, 2, none⟩ (.int .u8 (rm2 : Int)) = W7 := ⟨_, rfl⟩
    rw [hW7] at u0 u1 u2 u3 u4 hO7 hrow7 hB7 ⊢
    have hcall := hput W7.drew (.slice (some wa) wn wd) g3 (L - 2) (cap3 - 2) fe (by have := HL.out; omega) (by rw [HL.out]; exact hrow7)
    rw [HL.out] at hcall
    have hc2 : ¬ cap3 = 2 := by have := HL.out; omega
    have x6 : (2 : Int) ≤ (L : Int) := by have := HL.out; omega
    have x9 : IntKind.i64.wrap 2 = 2 := by rw [IntKind.wrap_i64]; omega
    clear hput t0 t1 t2 t3 t4 tf hT6 hT5 hO6 hO5 hW7 hR6 hB6
    go_region_with (go_at_call 18; refine hcall.mono ?_; rintro e w8 ⟨rfl, hR8, hB8⟩)
    all_goals
      have hO8 := (hB8.block w.heap.size (World.block_lt_of_cell? W7 _ (ocells hO7).1) hne0).trans hO7
      obtain ⟨o0, o1, o2, o3, of⟩ := ocells hO8
      go_wp2_with (at_builtin; refine wpList_app_none _ rfl (.tmp 90) (.tmp 93) rfl g3 cap3 L L _ rfl hR8 (Nat.le_refl _) hc10 _ 0 rfl ?_)
      go_ret2
      have hl := HL.out
      subst hl
      refine ⟨⟨g3, cap3, rfl, hgw, hc10, hR8⟩, ?_⟩
      exact ((hB7.trans (c := W7.drew) ⟨rfl, rfl, rfl, Nat.le_refl _, fun _ _ _ => rfl⟩).trans (hB8.mono hB7.size)).below hgw
end Go.Proofs.YbulkdlqeFmt
