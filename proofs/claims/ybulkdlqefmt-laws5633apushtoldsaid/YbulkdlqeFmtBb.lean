/-
  (Option).Push: the snapshot that does not fit; the trace that overflows.
-/
import Derived.Test.YbulkdlqeFmtBa
namespace Go.Proofs.YbulkdlqeFmt
open Go.RowKit Go.Shelf Go.Extern.Stop Go.Stop Go.Extern

set_option maxRecDepth 100000 in
set_option maxHeartbeats 2000000 in
theorem push_bad (I : Interp) (ns rs F fo c h sch dl dc : Nat) (ad : Option Addr) (f : Nat → Nat) (ea : Nat → Addr) (mv : Value) (sp : Option Addr) (w : World) (hF : I.answers w.tape) (hE : Env w F fo c ea) (hr : Row w h 8 f) (hf : ∀ i, f i < 256)
    (hk : tcode 1 8 f = 9) (hs : bt (hTt f) 22 = true) (hS : SnapAt w sp sch dl ad dc) (hdl : dl ≤ 4000000) (hbad : ¬ SnOk sch dl) :
    Calls Ybaf.prog 11 #[.agg #[.int .u8 1, .int .u16 ns, .slice (some ⟨h, 0, none⟩) 8 8, .int .u8 rs], .slice none 0 0, .agg #[mv, .pointer sp], .int .i64 1048576] w fun e w' => (∃ a, e = .returned (.tuple #[.slice none 0 0, .iface 65 (.pointer (some a))])) ∧ Below w.heap.size w w' := by
  have hB0 : Below w.heap.size w ((w.alloc (.cells #[.int .u8 1, .int .u16 ns, .slice (some ⟨h, 0, none⟩) 8 8, .int .u8 rs] 37)).alloc (.cells #[mv, .pointer sp] 34)) := ((Below.refl _ _).alloc (Nat.le_refl _) _).alloc (by simp) _
  have hO0 : ((w.alloc (.cells #[.int .u8 1, .int .u16 ns, .slice (some ⟨h, 0, none⟩) 8 8, .int .u8 rs] 37)).alloc (.cells #[mv, .pointer sp] 34)).heap[w.heap.size]? = some (.cells #[.int .u8 1, .int .u16 ns, .slice (some ⟨h, 0, none⟩) 8 8, .int .u8 rs] 37 (0, 0)) := (Below.heap_alloc _ _ _ (by simp)).trans (World.alloc_heap_new w _)
  have hE0 := (hE.alloc (.cells #[.int .u8 1, .int .u16 ns, .slice (some ⟨h, 0, none⟩) 8 8, .int .u8 rs] 37)).alloc (.cells #[mv, .pointer sp] 34)
  have htr := trace_any 1 ns rs F fo c h 8 8 f ea _ hE0 (by omega) (by omega) (hr.below hB0 hr.lt) hf (by omega) (by omega) (by omega)
  rw [hk] at htr
  have n1 := hNl_lt hf
  have n2 := hFl_lt hf
  have n3 := hRm_lt f
  have n4 := hTt_lt hf
  have hS0 := hS.below hB0 (Nat.le_refl _)
  have hhl := hr.lt
  have hF0 : I.answers ((w.alloc (.cells #[.int .u8 1, .int .u16 ns, .slice (some ⟨h, 0, none⟩) 8 8, .int .u8 rs] 37)).alloc (.cells #[mv, .pointer sp] 34)).tape := hF
  obtain ⟨nl, hnl⟩ : ∃ nl, hNl f = nl := ⟨_, rfl⟩
  obtain ⟨fl, hfl⟩ : ∃ fl, hFl f = fl := ⟨_, rfl⟩
  obtain ⟨rm, hrm⟩ : ∃ rm, hRm f = rm := ⟨_, rfl⟩
  obtain ⟨tt, htt⟩ : ∃ tt, hTt f = tt := ⟨_, rfl⟩
  rw [hnl, hfl, hrm, htt] at htr
  rw [htt] at hs n4
  rw [hnl] at n1
  have hel : ∀ (X : World) (wr : Value), I.answers X.tape → Env X F fo c ea → SnapAt X sp sch dl ad dc → _ := fun X wr a b d => elen_bad I nl fl rm tt F fo c sch dl dc ad ea wr mv sp X a b (by omega) n4 hs d hdl hbad
  clear hk hf n1 n2 n3 n4 hnl hfl hrm htt hdl hbad hF hS hE hr
  go_enter Ybaf.func11, Ybaf.ntmps11
  go_wp2_with (first
    | (go_at_call 15; refine htr.mono ?_; rintro e w1 ⟨h', hb⟩; obtain ⟨wa, wn, wc, rfl⟩ := trsaid_ok h'; clear h' htr; have m0 : w1.cell? ⟨w.heap.size + 1, 0, none⟩ = some mv := (hb.cell (p := ⟨w.heap.size + 1, 0, none⟩) (by simp)).trans (by simp [go_sem]); have m1 : w1.cell? ⟨w.heap.size + 1, 1, none⟩ = some (.pointer sp) := (hb.cell (p := ⟨w.heap.size + 1, 1, none⟩) (by simp)).trans (by simp [go_sem]); have hO1 : w1.heap[w.heap.size]? = some (.cells #[.int .u8 1, .int .u16 ns, .slice (some ⟨h, 0, none⟩) 8 8, .int .u8 rs] 37 (0, 0)) := (hb.block w.heap.size (by simp; omega)).trans hO0; have hB1 := hB0.trans (hb.mono hB0.size); have hE1 := hE0.below hb (Nat.le_refl _); have hS1 := hS0.below hb (Nat.le_refl _); have hz1 : w.heap.size + 1 < w1.heap.size := (by have := hb.size; simp at this; omega); have hz0 : w.heap.size < w1.heap.size := (by omega); have hz2 : ¬ (w.heap.size + 1 = w1.heap.size) := (by omega); have hz3 : ¬ (w1.heap.size = w.heap.size + 1) := (by omega); have hF1 : I.answers w1.tape := (congrArg I.answers hb.tape).mpr hF0; clear hE0 hS0 hF0)
    | (go_at_call 16; refine (hel _ (.slice (some wa) wn wc) (by exact hF1) (hE1.alloc _) (hS1.below ((Below.refl _ _).alloc (Nat.le_refl _) _) (Nat.le_refl _))).mono ?_; rintro e w2 ⟨a, rfl, hb2⟩; clear hel hE1 hS1 hF1))
  go_ret2
  exact ⟨⟨a, rfl⟩, (hB1.alloc hB1.size _).trans (hb2.mono (by have := hB1.size; simp; omega))⟩
end Go.Proofs.YbulkdlqeFmt
