/-
  (Option).Push: the trace that overflows.
-/
import Derived.Test.YbulkdlqeFmtBb
namespace Go.Proofs.YbulkdlqeFmt
open Go.RowKit Go.Shelf Go.Extern.Stop Go.Stop Go.Extern

/-- An Option's block, cell by cell. -/
theorem ocells {w : World} {B : Nat} {a b c d : Value} (h : w.heap[B]? = some (.cells #[a, b, c, d] 37 (0, 0))) :
    w.cell? ⟨B, 0, none⟩ = some a ∧ w.cell? ⟨B, 1, none⟩ = some b ∧ w.cell? ⟨B, 2, none⟩ = some c ∧ w.cell? ⟨B, 3, none⟩ = some d ∧ ∀ j, w.frozen? ⟨B, j, none⟩ = false := by
  refine ⟨?_, ?_, ?_, ?_, fun j => frozen_of_row w B j _ 37 h⟩ <;> rw [cell_of_row w B _ _ 37 (0, 0) h] <;> rfl

/-- 'append(b, x...)', x empty, b with its cells in a row. -/
theorem wpList_app_none (w : World) {ops : Array Oper} {rest : List Oper} {o : Oper} {a : Act} {Q : Exit → Act → World → Prop} (hgd : o.guard = none) (s x : Operand)
    (ho : o.op = .call { callee := .builtin .append, args := #[s, x], argTypes := #[22, 22] })
    (g cap n N : Nat) (f : Nat → Nat) (hs : a.eval s = .slice (some ⟨g, 0, none⟩) n cap) (hrow : Row w g N f) (hn : n ≤ N) (hnc : n ≤ cap) (ad : Addr) (c : Nat) (hx : a.eval x = .slice (some ad) 0 c)
    (h : wpList Ybaf.prog ops Q rest (a.put o.dst (.slice (some ⟨g, 0, none⟩) n cap)) w) : wpList Ybaf.prog ops Q (o :: rest) a w := by
  obtain ⟨i0, hi, hz0, hz1, hz2⟩ := info_parts Ybaf.info5
  obtain ⟨cur, hg, hl, hc⟩ := hrow
  have hr := run_append_room (P := Ybaf.prog) w 22 o.type 5 i0 Ybaf.underlying22 hi g n cap cur.toArray hg ad 0 c [] (by simp) (fun j u hj => by simp at hj) (fun u hu => by cases hu) hnc (by simp [hz1]; omega)
  have hself : w.setRow g cur.toArray = w := setRow_self w g cur.toArray 5 (0, 0) hg
  simp [hself] at hr
  exact Lib.wpList_append_run w hgd s x 22 22 ho _ _ hs hx _ _ hr h

/-- The option's data ahead of the element: the reserved octet, the type, the header. -/
def preF (rs : Nat) (f : Nat → Nat) (i : Nat) : Nat := if i < 2 then [rs, 1].getD i 0 else f (i - 2)

set_option maxRecDepth 100000 in
set_option maxHeartbeats 2000000 in
theorem push_over (ns rs F fo c h sch dl dc : Nat) (ad : Option Addr) (f : Nat → Nat) (ea : Nat → Addr) (mv : Value) (sp : Option Addr) (w : World) (hE : Env w F fo c ea) (hr : Row w h 8 f) (hf : ∀ i, f i < 256)
    (hk : tcode 1 8 f = 9) (hS : SnapAt w sp sch dl ad dc) (hok : bt (hTt f) 22 = true → SnOk sch dl) (hn : hRm f * 4 < elen (hNl f) (hTt f) dl) (hroom : elen (hNl f) (hTt f) dl ≤ 1048576) :
    Calls Ybaf.prog 11 #[.agg #[.int .u8 1, .int .u16 ns, .slice (some ⟨h, 0, none⟩) 8 8, .int .u8 rs], .slice none 0 0, .agg #[mv, .pointer sp], .int .i64 1048576] w fun e w' => (∃ g cap, e = .returned (.tuple #[.slice (some ⟨g, 0, none⟩) 10 cap, .nilIface]) ∧ w.heap.size ≤ g ∧ 10 ≤ cap ∧ Row w' g 10 (hdrF 2 (hNl f) (hFl f ||| 8) (hRm f) (preF rs f))) ∧ Below w.heap.size w w' := by
  have hB0 : Below w.heap.size w ((w.alloc (.cells #[.int .u8 1, .int .u16 ns, .slice (some ⟨h, 0, none⟩) 8 8, .int .u8 rs] 37)).alloc (.cells #[mv, .pointer sp] 34)) := ((Below.refl _ _).alloc (Nat.le_refl _) _).alloc (by simp) _
  have hO0 : ((w.alloc (.cells #[.int .u8 1, .int .u16 ns, .slice (some ⟨h, 0, none⟩) 8 8, .int .u8 rs] 37)).alloc (.cells #[mv, .pointer sp] 34)).heap[w.heap.size]? = some (.cells #[.int .u8 1, .int .u16 ns, .slice (some ⟨h, 0, none⟩) 8 8, .int .u8 rs] 37 (0, 0)) := (Below.heap_alloc _ _ _ (by simp)).trans (World.alloc_heap_new w _)
  have hE0 := (hE.alloc (.cells #[.int .u8 1, .int .u16 ns, .slice (some ⟨h, 0, none⟩) 8 8, .int .u8 rs] 37)).alloc (.cells #[mv, .pointer sp] 34)
  have htr := trace_any 1 ns rs F fo c h 8 8 f ea _ hE0 (by omega) (by omega) (hr.below hB0 hr.lt) hf (by omega) (by omega) (by omega)
  rw [hk] at htr
  have n1 := hNl_lt hf
  have n2 := hFl_lt hf
  have n3 := hRm_lt f
  have n4 := hTt_lt hf
  have hS0 := hS.below hB0 (Nat.le_refl _)
  have hhl := hr.lt
  obtain ⟨nl, hnl⟩ : ∃ nl, hNl f = nl := ⟨_, rfl⟩
  obtain ⟨fl, hfl⟩ : ∃ fl, hFl f = fl := ⟨_, rfl⟩
  obtain ⟨rm, hrm⟩ : ∃ rm, hRm f = rm := ⟨_, rfl⟩
  obtain ⟨tt, htt⟩ : ∃ tt, hTt f = tt := ⟨_, rfl⟩
  rw [hnl, hfl, hrm, htt] at htr
  rw [hnl, hfl, hrm]
  rw [hnl, hrm, htt] at hn
  rw [hnl, htt] at hroom
  rw [htt] at hok n4
  rw [hnl] at n1
  rw [hfl] at n2
  rw [hrm] at n3
  obtain ⟨hor, hor2⟩ := or8 fl n2
  obtain ⟨fl8, hfl8⟩ : ∃ x, fl ||| 8 = x := ⟨_, rfl⟩
  rw [hfl8] at hor hor2 ⊢
  have hel : ∀ (X : World) (wr : Value), Env X F fo c ea → SnapAt X sp sch dl ad dc → _ := fun X wr b d => elen_any nl fl rm tt F fo c sch dl dc ad ea wr mv sp X b (by omega) n4 d hok
  obtain ⟨n, hnn⟩ : ∃ n, elen nl tt dl = n := ⟨_, rfl⟩
  rw [hnn] at hel hn hroom
  have hput : ∀ (X : World) (wr : Value) (g len cap : Nat), 4 ≤ len → Row X g 10 (preF rs f) → _ := fun X wr g len cap hl hRX => putHeader_any nl fl8 rm tt g 2 len cap 10 wr (preF rs f) X n1 hor2 n3 hl (by omega) hRX
  have hn' : (rm : Int) * 4 < (n : Int) := by omega
  have hroom' : ¬ (1048576 : Int) < (n : Int) := by omega
  have hrmi : (rm : Int) < 128 := by omega
  clear hk hf n1 n2 n3 n4 hnl hfl hrm htt hS hE hok hnn hn hfl8 hor2 hroom
  go_enter Ybaf.func11, Ybaf.ntmps11
  go_upto_region 10 with (first
    | (go_at_call 15; refine htr.mono ?_; rintro e w1 ⟨h', hb⟩; obtain ⟨wa, wn, wc, rfl⟩ := trsaid_ok h'; clear h' htr; have m0 : w1.cell? ⟨w.heap.size + 1, 0, none⟩ = some mv := (hb.cell (p := ⟨w.heap.size + 1, 0, none⟩) (by simp)).trans (by simp [go_sem]); have m1 : w1.cell? ⟨w.heap.size + 1, 1, none⟩ = some (.pointer sp) := (hb.cell (p := ⟨w.heap.size + 1, 1, none⟩) (by simp)).trans (by simp [go_sem]); have hO1 : w1.heap[w.heap.size]? = some (.cells #[.int .u8 1, .int .u16 ns, .slice (some ⟨h, 0, none⟩) 8 8, .int .u8 rs] 37 (0, 0)) := (hb.block w.heap.size (by simp; omega)).trans hO0; have hB1 := hB0.trans (hb.mono hB0.size); have hE1 := hE0.below hb (Nat.le_refl _); have hS1 := hS0.below hb (Nat.le_refl _); have hz1 : w.heap.size + 1 < w1.heap.size := (by have := hb.size; simp at this; omega); have hz0 : w.heap.size < w1.heap.size := (by omega); have hz2 : ¬ (w.heap.size + 1 = w1.heap.size) := (by omega); have hz3 : ¬ (w1.heap.size = w.heap.size + 1) := (by omega); clear hE0 hS0)
    | (go_at_call 16; refine (hel _ (.slice (some wa) wn wc) (hE1.alloc _) (hS1.below ((Below.refl _ _).alloc (Nat.le_refl _) _) (Nat.le_refl _))).mono ?_; rintro e w2 ⟨rfl, hb2⟩; clear hel hE1 hS1; have hB2 := (hB1.alloc hB1.size (.cells #[.int .u8 nl, .int .u8 fl, .int .u8 rm, .int .u32 tt, .slice (some wa) wn wc] 57)).trans (hb2.mono (by have := hB1.size; simp; omega)); have hT2 := ((hb2.block w1.heap.size (by simp)).trans (World.alloc_heap_new w1 (.cells #[.int .u8 nl, .int .u8 fl, .int .u8 rm, .int .u32 tt, .slice (some wa) wn wc] 57))); have hO2 := (hb2.block w.heap.size (by simp; omega)).trans ((Below.heap_alloc w1 (.cells #[.int .u8 nl, .int .u8 fl, .int .u8 rm, .int .u32 tt, .slice (some wa) wn wc] 57) w.heap.size (by omega)).trans hO1); have hz4 : w1.heap.size < w2.heap.size := (by have := hb2.size; simp at this; omega)))
  obtain ⟨o0, o1, o2, o3, of⟩ := ocells hO2
  have hlo : w.heap.size < w2.heap.size := by omega
  go_upto_region 11 with (at_builtin; refine wpList_app_nil _ rfl (.tmp 38) (.tmp 43) rfl w2.heap.size rfl w2.heap.size 0 2 2 (fun j => [rs, 1].getD j 0) rfl (fun j hj => by (rcases (show j = 0 ∨ j = 1 by omega) with rfl | rfl) <;> simp [go_sem]) (by omega) (by omega) (by simp) ?_; intro g1 cap1 w3 hown3 hb3)
  have hB3 : Below w2.heap.size w2 w3 := ((Below.refl _ _).alloc (Nat.le_refl _) _).trans hb3
  have hT3 := (hB3.block w1.heap.size hz4).trans hT2
  have hO3 := (hB3.block w.heap.size hlo).trans hO2
  have hr3 : Row w3 h 8 f := (hr.below hB2 hhl).below hB3 (Nat.lt_of_lt_of_le hhl hB2.size)
  clear o0 o1 o2 o3 of hb3
  obtain ⟨o0, o1, o2, o3, of⟩ := ocells hO3
  go_upto_region 12 with (at_builtin; refine wpList_app _ rfl (.tmp 45) (.tmp 48) rfl w2.heap.size g1 cap1 2 _ rfl hown3 h 0 8 8 f rfl (fun j hj => by rw [Nat.zero_add]; exact hr3.cell hj) (by omega) hB3.size ?_; intro g2 cap2 w4 hown4 hb4)
  have hB4 : Below w2.heap.size w2 w4 := hB3.trans hb4
  have hT4 := (hB4.block w1.heap.size hz4).trans hT2
  have hO4 := (hB4.block w.heap.size hlo).trans hO2
  have hr4 : Row w4 h 8 f := (hr.below hB2 hhl).below hB4 (Nat.lt_of_lt_of_le hhl hB2.size)
  have hown5 : OwnB w4 w2.heap.size g2 cap2 10 (preF rs f) := hown4.congr (fun i hi => by
    unfold preF
    show (if i < 2 then _ else _) = if i < 2 then _ else _
    rfl)
  clear o0 o1 o2 o3 of hown4 hb4 hown3 hr3
  obtain ⟨o0, o1, o2, o3, of⟩ := ocells hO4
  obtain ⟨t0, t1, t2, t3, t4, tf⟩ := tcells hT4
  obtain ⟨hrow, hBg, hc10, hcM⟩ := hown5.row
  go_wp2
  have u0 : (w4.setCell ⟨w1.heap.size, 1, none⟩ (.int .u8 (fl8 : Int))).cell? ⟨w1.heap.size, 0, none⟩ = some (.int .u8 (nl : Int)) := by simp [go_sem, t0]
  have u1 : (w4.setCell ⟨w1.heap.size, 1, none⟩ (.int .u8 (fl8 : Int))).cell? ⟨w1.heap.size, 1, none⟩ = some (.int .u8 (fl8 : Int)) := by simp [go_sem, t1]
  have u2 : (w4.setCell ⟨w1.heap.size, 1, none⟩ (.int .u8 (fl8 : Int))).cell? ⟨w1.heap.size, 2, none⟩ = some (.int .u8 (rm : Int)) := by simp [go_sem, t2]
  have u3 : (w4.setCell ⟨w1.heap.size, 1, none⟩ (.int .u8 (fl8 : Int))).cell? ⟨w1.heap.size, 3, none⟩ = some (.int .u32 (tt : Int)) := by simp [go_sem, t3]
  have u4 : (w4.setCell ⟨w1.heap.size, 1, none⟩ (.int .u8 (fl8 : Int))).cell? ⟨w1.heap.size, 4, none⟩ = some (.slice (some wa) wn wc) := by simp [go_sem, t4]
  have hO5 : (w4.setCell ⟨w1.heap.size, 1, none⟩ (.int .u8 (fl8 : Int))).heap[w.heap.size]? = some (.cells #[.int .u8 1, .int .u16 ns, .slice (some ⟨h, 0, none⟩) 8 8, .int .u8 rs] 37 (0, 0)) := (Below.heap_setCell _ _ _ _ (by show w.heap.size ≠ w1.heap.size; omega)).trans hO4
  have hrow5 : Row (w4.setCell ⟨w1.heap.size, 1, none⟩ (.int .u8 (fl8 : Int))) g2 10 (preF rs f) := hrow.block (Below.heap_setCell _ _ _ _ (by show g2 ≠ w1.heap.size; omega))
  have hB5 : Below w.heap.size w (w4.setCell ⟨w1.heap.size, 1, none⟩ (.int .u8 (fl8 : Int))) := (hB2.trans (hB4.mono hB2.size)).setCell (Nat.le_of_lt hz0) _
  obtain ⟨W5, hW5⟩ : ∃ W5, w4.setCell ⟨w1.heap.size, 1, none⟩ (.int .u8 (fl8 : Int)) = W5 := ⟨_, rfl⟩
  rw [hW5] at u0 u1 u2 u3 u4 hO5 hrow5 hB5 ⊢
  have hcall := hput W5.drew (.slice (some wa) wn wc) g2 8 (cap2 - 2) (by omega) hrow5
  have hc2 : ¬ cap2 = 2 := by omega
  have hgw : g2 ≠ w.heap.size := by have := hB2.size; omega
  clear hput t0 t1 t2 t3 t4 tf o0 o1 o2 o3 of hT2 hT3 hT4 hO0 hO1 hO2 hO3 hO4 hB0 hB3 hr4 hown5 hW5
  go_region_with (go_at_call 18; refine hcall.mono ?_; rintro e w6 ⟨rfl, hR6, hB6⟩)
  all_goals
    have hO6 := (hB6.block w.heap.size (World.block_lt_of_cell? W5 _ (ocells hO5).1) (fun e => hgw e.symm)).trans hO5
    obtain ⟨o0, o1, o2, o3, of⟩ := ocells hO6
    go_wp2_with (at_builtin; refine wpList_app_none _ rfl (.tmp 90) (.tmp 93) rfl g2 cap2 10 10 _ rfl hR6 (Nat.le_refl _) hc10 _ 0 rfl ?_)
    go_ret2
    refine ⟨⟨g2, cap2, rfl, by have := hB2.size; omega, hc10, hR6⟩, ?_⟩
    exact ((Below.but hB5.drew g2).trans (hB6.mono hB5.size)).below (by have := hB2.size; omega)
end Go.Proofs.YbulkdlqeFmt
