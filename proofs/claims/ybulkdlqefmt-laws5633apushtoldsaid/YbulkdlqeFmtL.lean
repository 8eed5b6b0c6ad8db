/-
  (Trace).putElement: the node's fields, then the snapshot where its bit stands.
-/
import Derived.Test.YbulkdlqeFmtK
import Derived.Deep.RegionWith
namespace Go.Proofs.YbulkdlqeFmt
open Go.RowKit Go.Shelf

theorem Env.but {w w' : World} {F fo c B g : Nat} {ea : Nat → Addr} (h : Env w F fo c ea) (hb : But B g w w') (hB : w.heap.size ≤ B) (hg : 6 < g) (hF : F ≠ g) : Env w' F fo c ea := by
  have h6 := h.six
  have hl := h.lt
  exact ⟨fun i hi => (hb.cell (p := ⟨i, 0, none⟩) (by simp; omega) (by simp; omega)).trans (h.errs i hi), (hb.cell (p := ⟨6, 0, none⟩) (by simp; omega) (by simp; omega)).trans h.width, (hb.cell (p := ⟨6, 1, none⟩) (by simp; omega) (by simp; omega)).trans h.fields, h.tab.block (hb.block F (by omega) hF)⟩

/-- A schema's number is of three bytes (behind a name: the walk must not read it). -/
def SchOk (sch : Nat) : Prop := (sch : Int) < 16777216
theorem slice_nl (X : World) (g base len cap nl : Nat) (h1 : nl * 4 ≤ len) (h3 : nl * 4 < cap) :
   Sem.run Ybaf.prog (Instr.slice 22 (.slice (some ⟨g, base, none⟩) len cap) (some (.int .i64 ((nl : Int) * 4))) none none) X = .ok (.slice (some ⟨g, base + nl * 4, none⟩) (len - nl * 4) (cap - nl * 4)) X := by
  have a1 : (0 : Int) ≤ (nl : Int) * 4 := by omega
  have a2 : (nl : Int) * 4 ≤ (len : Int) := by omega
  have a3 : ((nl : Int) * 4).toNat = nl * 4 := by omega
  have a4 : ¬ cap = nl * 4 := by omega
  simp [go_sem, Instr.slice, a1, a2, a3, a4, Ybaf.runUnderlying22]

set_option maxRecDepth 100000 in
set_option maxHeartbeats 1000000 in
theorem putel_plain (nl fl rm tt F fo c g base N len cap : Nat) (ea : Nat → Addr) (wr mv : Value) (sp : Option Addr) (lk : ByteArray → Nat × Bool) (f : Nat → Nat) (w : World) (hE : Env w F fo c ea) (htt : Hid (tt < 4294967296)) (hlk : LkOk lk) (hr : Row w g N f) (hg6 : 6 < g) (hFg : F ≠ g)
    (hlen : asz tt ≤ len) (hN : base + len ≤ N) (hm : MapAt w mv lk) (hmb : ∀ b, mv = .map (some b) → b < w.heap.size ∧ b ≠ g) (hb : bt tt 22 = false) :
    Calls Ybaf.prog 17 #[.agg #[.int .u8 nl, .int .u8 fl, .int .u8 rm, .int .u32 tt, wr], .slice (some ⟨g, base, none⟩) len cap, .agg #[mv, .pointer sp]] w fun e w' => e = .returned (.tuple #[]) ∧ Row w' g N (putAll base lk f (flds tt)) ∧ But w.heap.size g w w' := by
  have hE0 := (hE.alloc (.cells #[.int .u8 nl, .int .u8 fl, .int .u8 rm, .int .u32 tt, wr] 57)).alloc (.cells #[mv, .pointer sp] 34)
  have hB0 : Below w.heap.size w ((w.alloc (.cells #[.int .u8 nl, .int .u8 fl, .int .u8 rm, .int .u32 tt, wr] 57)).alloc (.cells #[mv, .pointer sp] 34)) := ((Below.refl _ _).alloc (Nat.le_refl _) _).alloc (by simp) _
  have hr0 := hr.below hB0 hr.lt
  have hm0 : MapAt ((w.alloc (.cells #[.int .u8 nl, .int .u8 fl, .int .u8 rm, .int .u32 tt, wr] 57)).alloc (.cells #[mv, .pointer sp] 34)) mv lk := hm.keep (fun b hb => hB0.block b (hmb b hb).1)
  have hmb0 : ∀ b, mv = .map (some b) → b < ((w.alloc (.cells #[.int .u8 nl, .int .u8 fl, .int .u8 rm, .int .u32 tt, wr] 57)).alloc (.cells #[mv, .pointer sp] 34)).heap.size ∧ b ≠ g := fun b hb => ⟨Nat.lt_of_lt_of_le (hmb b hb).1 hB0.size, (hmb b hb).2⟩
  have w0 := hE0.width
  have w1 := hE0.fields
  have hgl := hr.lt
  have q0 : ((w.alloc (.cells #[.int .u8 nl, .int .u8 fl, .int .u8 rm, .int .u32 tt, wr] 57)).alloc (.cells #[mv, .pointer sp] 34)).cell? ⟨w.heap.size, 0, none⟩ = some (.int .u8 (nl : Int)) := by simp [go_sem]
  have q1 : ((w.alloc (.cells #[.int .u8 nl, .int .u8 fl, .int .u8 rm, .int .u32 tt, wr] 57)).alloc (.cells #[mv, .pointer sp] 34)).cell? ⟨w.heap.size, 1, none⟩ = some (.int .u8 (fl : Int)) := by simp [go_sem]
  have q2 : ((w.alloc (.cells #[.int .u8 nl, .int .u8 fl, .int .u8 rm, .int .u32 tt, wr] 57)).alloc (.cells #[mv, .pointer sp] 34)).cell? ⟨w.heap.size, 2, none⟩ = some (.int .u8 (rm : Int)) := by simp [go_sem]
  have q3 : ((w.alloc (.cells #[.int .u8 nl, .int .u8 fl, .int .u8 rm, .int .u32 tt, wr] 57)).alloc (.cells #[mv, .pointer sp] 34)).cell? ⟨w.heap.size, 3, none⟩ = some (.int .u32 (tt : Int)) := by simp [go_sem]
  have q4 : ((w.alloc (.cells #[.int .u8 nl, .int .u8 fl, .int .u8 rm, .int .u32 tt, wr] 57)).alloc (.cells #[mv, .pointer sp] 34)).cell? ⟨w.heap.size, 4, none⟩ = some (wr) := by simp [go_sem]
  have p0 : ((w.alloc (.cells #[.int .u8 nl, .int .u8 fl, .int .u8 rm, .int .u32 tt, wr] 57)).alloc (.cells #[mv, .pointer sp] 34)).cell? ⟨w.heap.size + 1, 0, none⟩ = some mv := by simp [go_sem]
  have p1 : ((w.alloc (.cells #[.int .u8 nl, .int .u8 fl, .int .u8 rm, .int .u32 tt, wr] 57)).alloc (.cells #[mv, .pointer sp] 34)).cell? ⟨w.heap.size + 1, 1, none⟩ = some (.pointer sp) := by simp [go_sem]
  have hs0 : ((w.alloc (.cells #[.int .u8 nl, .int .u8 fl, .int .u8 rm, .int .u32 tt, wr] 57)).alloc (.cells #[mv, .pointer sp] 34)).heap.size = w.heap.size + 2 := by simp
  go_enter Ybaf.func17, Ybaf.ntmps17
  go_wp2_with (first
    | (go_at_call 27; refine (write_any tt F fo c g base N len cap mv sp lk f htt hlk _ hE0.tab hr0 hFg hE0.lt hlen hN hm0 hmb0).mono ?_; rintro e W1 ⟨rfl, hR1, hB1⟩; have t0 := (hB1.cell (p := ⟨w.heap.size, 0, none⟩) (by simp <;> omega) (by simp; omega)).trans q0; have t1 := (hB1.cell (p := ⟨w.heap.size, 1, none⟩) (by simp <;> omega) (by simp; omega)).trans q1; have t2 := (hB1.cell (p := ⟨w.heap.size, 2, none⟩) (by simp <;> omega) (by simp; omega)).trans q2; have t3 := (hB1.cell (p := ⟨w.heap.size, 3, none⟩) (by simp <;> omega) (by simp; omega)).trans q3; have t4 := (hB1.cell (p := ⟨w.heap.size, 4, none⟩) (by simp <;> omega) (by simp; omega)).trans q4; have n0 := (hB1.cell (p := ⟨w.heap.size + 1, 0, none⟩) (by simp <;> omega) (by simp; omega)).trans p0; have n1 := (hB1.cell (p := ⟨w.heap.size + 1, 1, none⟩) (by simp <;> omega) (by simp; omega)).trans p1; have hE1 := hE0.but hB1 (Nat.le_refl _) hg6 hFg)
    | (go_at_call 24; refine (thas22 nl fl rm tt F fo c ea wr W1 hE1 htt false hb).mono ?_; rintro e W2 ⟨rfl, hB2, hE2⟩))
  go_end0
  exact ⟨rfl, hR1.below hB2 hR1.lt, ((Below.but hB0 g).trans (hB1.mono hB0.size)).trans (Below.but (hB2.mono (Nat.le_trans hB0.size hB1.size)) g)⟩
theorem SnapAt.but {w w' : World} {sp : Option Addr} {sch dl : Nat} {ad : Option Addr} {dc B g : Nat} (h : SnapAt w sp sch dl ad dc) (hb : But B g w w') (hB : w.heap.size ≤ B) (hg : ∀ a, sp = some a → a.block ≠ g) : SnapAt w' sp sch dl ad dc := by
  rcases h with h | ⟨b, rfl, h0, h1⟩
  · exact .inl h
  · have := World.block_lt_of_cell? w _ h0
    have hbg := hg _ rfl
    exact .inr ⟨b, rfl, (hb.cell (p := ⟨b, 0, none⟩) (by simp at this ⊢; omega) hbg).trans h0, (hb.cell (p := ⟨b, 1, none⟩) (by simp at this ⊢; omega) hbg).trans h1⟩

set_option maxRecDepth 100000 in
set_option maxHeartbeats 1000000 in
theorem putel_snap (nl fl rm tt F fo c g base N len cap : Nat) (ea : Nat → Addr) (wr mv : Value) (sp : Option Addr) (lk : ByteArray → Nat × Bool) (f : Nat → Nat) (w : World) (hE : Env w F fo c ea) (htt : Hid (tt < 4294967296)) (hlk : LkOk lk) (hr : Row w g N f) (hg6 : 6 < g) (hFg : F ≠ g)
    (hlen : asz tt ≤ len) (hN : base + len ≤ N) (hm : MapAt w mv lk) (hmb : ∀ b, mv = .map (some b) → b < w.heap.size ∧ b ≠ g) (hb : bt tt 22 = true) (sch dl dc : Nat) (ad : Option Addr) (df : Nat → Nat) (hsch : SchOk sch) (hdl : (dl : Int) ≤ 1020) (hd4 : dl % 4 = 0) (hnl : nl < 256) (hsl : nl * 4 + 4 + dl ≤ len) (hlc : len ≤ cap)
    (hS : SnapAt w sp sch dl ad dc) (hspg : ∀ a, sp = some a → a.block ≠ g) (hd : Bytes w ad dl df) (hgd : ∀ a, ad = some a → a.block ≠ g) :
    Calls Ybaf.prog 17 #[.agg #[.int .u8 nl, .int .u8 fl, .int .u8 rm, .int .u32 tt, wr], .slice (some ⟨g, base, none⟩) len cap, .agg #[mv, .pointer sp]] w fun e w' => e = .returned (.tuple #[]) ∧ Row w' g N (putS (base + nl * 4) sch dl df (putAll base lk f (flds tt))) ∧ But w.heap.size g w w' := by
  have hE0 := (hE.alloc (.cells #[.int .u8 nl, .int .u8 fl, .int .u8 rm, .int .u32 tt, wr] 57)).alloc (.cells #[mv, .pointer sp] 34)
  have hB0 : Below w.heap.size w ((w.alloc (.cells #[.int .u8 nl, .int .u8 fl, .int .u8 rm, .int .u32 tt, wr] 57)).alloc (.cells #[mv, .pointer sp] 34)) := ((Below.refl _ _).alloc (Nat.le_refl _) _).alloc (by simp) _
  have hr0 := hr.below hB0 hr.lt
  have hm0 : MapAt ((w.alloc (.cells #[.int .u8 nl, .int .u8 fl, .int .u8 rm, .int .u32 tt, wr] 57)).alloc (.cells #[mv, .pointer sp] 34)) mv lk := hm.keep (fun b hb => hB0.block b (hmb b hb).1)
  have hmb0 : ∀ b, mv = .map (some b) → b < ((w.alloc (.cells #[.int .u8 nl, .int .u8 fl, .int .u8 rm, .int .u32 tt, wr] 57)).alloc (.cells #[mv, .pointer sp] 34)).heap.size ∧ b ≠ g := fun b hb => ⟨Nat.lt_of_lt_of_le (hmb b hb).1 hB0.size, (hmb b hb).2⟩
  have w0 := hE0.width
  have w1 := hE0.fields
  have hgl := hr.lt
  have q0 : ((w.alloc (.cells #[.int .u8 nl, .int .u8 fl, .int .u8 rm, .int .u32 tt, wr] 57)).alloc (.cells #[mv, .pointer sp] 34)).cell? ⟨w.heap.size, 0, none⟩ = some (.int .u8 (nl : Int)) := by simp [go_sem]
  have q1 : ((w.alloc (.cells #[.int .u8 nl, .int .u8 fl, .int .u8 rm, .int .u32 tt, wr] 57)).alloc (.cells #[mv, .pointer sp] 34)).cell? ⟨w.heap.size, 1, none⟩ = some (.int .u8 (fl : Int)) := by simp [go_sem]
  have q2 : ((w.alloc (.cells #[.int .u8 nl, .int .u8 fl, .int .u8 rm, .int .u32 tt, wr] 57)).alloc (.cells #[mv, .pointer sp] 34)).cell? ⟨w.heap.size, 2, none⟩ = some (.int .u8 (rm : Int)) := by simp [go_sem]
  have q3 : ((w.alloc (.cells #[.int .u8 nl, .int .u8 fl, .int .u8 rm, .int .u32 tt, wr] 57)).alloc (.cells #[mv, .pointer sp] 34)).cell? ⟨w.heap.size, 3, none⟩ = some (.int .u32 (tt : Int)) := by simp [go_sem]
  have q4 : ((w.alloc (.cells #[.int .u8 nl, .int .u8 fl, .int .u8 rm, .int .u32 tt, wr] 57)).alloc (.cells #[mv, .pointer sp] 34)).cell? ⟨w.heap.size, 4, none⟩ = some (wr) := by simp [go_sem]
  have p0 : ((w.alloc (.cells #[.int .u8 nl, .int .u8 fl, .int .u8 rm, .int .u32 tt, wr] 57)).alloc (.cells #[mv, .pointer sp] 34)).cell? ⟨w.heap.size + 1, 0, none⟩ = some mv := by simp [go_sem]
  have p1 : ((w.alloc (.cells #[.int .u8 nl, .int .u8 fl, .int .u8 rm, .int .u32 tt, wr] 57)).alloc (.cells #[mv, .pointer sp] 34)).cell? ⟨w.heap.size + 1, 1, none⟩ = some (.pointer sp) := by simp [go_sem]
  have hs0 : ((w.alloc (.cells #[.int .u8 nl, .int .u8 fl, .int .u8 rm, .int .u32 tt, wr] 57)).alloc (.cells #[mv, .pointer sp] 34)).heap.size = w.heap.size + 2 := by simp
  go_enter Ybaf.func17, Ybaf.ntmps17
  go_wp2_with (first
    | (go_at_call 27; refine (write_any tt F fo c g base N len cap mv sp lk f htt hlk _ hE0.tab hr0 hFg hE0.lt hlen hN hm0 hmb0).mono ?_; rintro e W1 ⟨rfl, hR1, hB1⟩; have t0 := (hB1.cell (p := ⟨w.heap.size, 0, none⟩) (by simp <;> omega) (by simp; omega)).trans q0; have t1 := (hB1.cell (p := ⟨w.heap.size, 1, none⟩) (by simp <;> omega) (by simp; omega)).trans q1; have t2 := (hB1.cell (p := ⟨w.heap.size, 2, none⟩) (by simp <;> omega) (by simp; omega)).trans q2; have t3 := (hB1.cell (p := ⟨w.heap.size, 3, none⟩) (by simp <;> omega) (by simp; omega)).trans q3; have t4 := (hB1.cell (p := ⟨w.heap.size, 4, none⟩) (by simp <;> omega) (by simp; omega)).trans q4; have n0 := (hB1.cell (p := ⟨w.heap.size + 1, 0, none⟩) (by simp <;> omega) (by simp; omega)).trans p0; have n1 := (hB1.cell (p := ⟨w.heap.size + 1, 1, none⟩) (by simp <;> omega) (by simp; omega)).trans p1; have hE1 := hE0.but hB1 (Nat.le_refl _) hg6 hFg)
    | (go_at_call 24; refine (thas22 nl fl rm tt F fo c ea wr W1 hE1 htt true hb).mono ?_; rintro e W2 ⟨rfl, hB2, hE2⟩))
  have hgW2 : g < W2.heap.size := Nat.lt_of_lt_of_le hR1.lt hB2.size
  have hB02 : But w.heap.size g w W2 := ((Below.but hB0 g).trans (hB1.mono hB0.size)).trans (Below.but (hB2.mono (Nat.le_trans hB0.size hB1.size)) g)
  have hR2 := hR1.below hB2 hR1.lt
  have hB02d : But w.heap.size g w W2.drew := hB02.trans ⟨rfl, rfl, rfl, Nat.le_refl _, fun _ _ _ => rfl⟩
  have hS2 : SnapAt W2.drew sp sch dl ad dc := hS.but hB02d (Nat.le_refl _) hspg
  have hd2 : Bytes W2.drew ad dl df := hd.but' hB02d (Nat.le_refl _) hgd
  have u0 : W2.drew.cell? ⟨w.heap.size, 0, none⟩ = some (.int .u8 (nl : Int)) := (hB2.cell (p := ⟨w.heap.size, 0, none⟩) (World.block_lt_of_cell? W1 _ t0)).trans t0
  have v0 : W2.drew.cell? ⟨w.heap.size + 1, 0, none⟩ = some mv := (hB2.cell (p := ⟨w.heap.size + 1, 0, none⟩) (World.block_lt_of_cell? W1 _ n0)).trans n0
  have v1 : W2.drew.cell? ⟨w.heap.size + 1, 1, none⟩ = some (.pointer sp) := (hB2.cell (p := ⟨w.heap.size + 1, 1, none⟩) (World.block_lt_of_cell? W1 _ n1)).trans n1
  have hsl4 := fun X => slice_nl X g base len cap nl (by omega) (by omega)
  obtain ⟨f1, hf1⟩ : ∃ f1, Hid (putAll base lk f (flds tt) = f1) := ⟨_, rfl⟩
  have hR2d : Row W2.drew g N f1 := by rw [← hf1.out]; exact hR2.drew'
  have hput := fun (X : World) (hRX : Row X g N f1) (hdX : Bytes X ad dl df) => put_any sch dl dc g (base + nl * 4) N (len - nl * 4) (cap - nl * 4) ad f1 df X hsch hdl hd4 hRX (by omega) (by omega) (by omega) hdX hgd
  have y1 : IntKind.i64.wrap (nl : Int) = nl := IntWalk.i64_in _ (by omega)
  have y2 : IntKind.i64.wrap ((nl : Int) * 4) = (nl : Int) * 4 := IntWalk.i64_in _ (by omega)
  have y3 : (0 : Int) ≤ (nl : Int) * 4 := by omega
  have y4 : (nl : Int) * 4 ≤ (len : Int) := by omega
  have y5 : ((nl : Int) * 4).toNat = nl * 4 := by omega
  have y6 : ¬ cap = nl * 4 := by omega
  clear hsch
  clear htt hlk hE hS t0 t1 t2 t3 t4 n0 n1 q0 q1 q2 q3 q4 p0 p1 hE0 hE1 hE2 w0 w1 hm0 hmb0 hR2 hB2 hR1 hB1 hr0 hB0 hs0 hm hmb hr hd hb
  go_region_with (first
    | (go_at_call 25; refine (snapshot_any mv sp sch dl dc ad _ hS2).mono ?_; rintro e W3 ⟨rfl, hB3⟩; have u3 := (hB3.cell (p := ⟨w.heap.size, 0, none⟩) (World.block_lt_of_cell? W2.drew _ u0)).trans u0; have hR3 := hR2d.below hB3 hgW2; have hd3 := Bytes.but' hd2 (Below.but hB3 g) (Nat.le_refl _) hgd)
    | (go_at_call 29; refine (hput _ hR3 hd3).mono ?_; rintro e W4 ⟨rfl, hR4, hB4⟩))
  all_goals (go_end0; refine ⟨rfl, ?_, (hB02d.trans (Below.but (hB3.mono hB02d.size) g)).trans (hB4.mono (Nat.le_trans hB02d.size hB3.size))⟩; rw [hf1.out]; exact hR4)
end Go.Proofs.YbulkdlqeFmt
