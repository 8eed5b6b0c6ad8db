/-
  (Option).Trace.
-/
import Derived.Test.YbulkdlqeFmtP
import Derived.Deep.RegionHeld3
import Derived.Deep.DeepCutAuto
namespace Go.Proofs.YbulkdlqeFmt
open Go.RowKit

theorem and7 (x : Nat) (hx : x < 256) : bits .and .u8 (x : Int) 7 = ((x % 8 : Nat) : Int) := by
  have := u8_and_nat x 7 hx (by omega)
  rw [nat_mask3] at this
  exact this
theorem and127 (x : Nat) (hx : x < 256) : bits .and .u8 (x : Int) 127 = ((x % 128 : Nat) : Int) := by
  have := u8_and_nat x 127 hx (by omega)
  rw [nat_mask7] at this
  exact this
theorem wrap_x2 (x : Nat) : IntKind.u8.wrap (((x % 8 : Nat) : Int) * 2) = ((x % 8 * 2 : Nat) : Int) := by
  rw [IntKind.wrap_u8']
  omega
theorem or_fl (x y : Nat) (hy : y < 256) : bits .or .u8 ((x % 8 * 2 : Nat) : Int) ((y : Int) / 128) = ((x % 8 * 2 + y / 128 : Nat) : Int) := by
  have e1 := u8_or_nat (x % 8 * 2) (y / 128) (by omega) (by omega)
  rw [nat_join 1 _ _ (by omega) (by omega)] at e1
  exact e1

/-- The zero Trace. -/
def zeroT : Value := .agg #[.int .u8 0, .int .u8 0, .int .u8 0, .int .u32 0, .slice none 0 0]

set_option maxHeartbeats 1000000 in
theorem trace_short (ty ns rs F fo c len cap : Nat) (a : Option Addr) (ea : Nat → Addr) (w : World) (hE : Env w F fo c ea) (hty : ty ≤ 1) (hl : len < 8) :
    Calls Ybaf.prog 15 #[.agg #[.int .u8 ty, .int .u16 ns, .slice a len cap, .int .u8 rs]] w fun e w' => e = .returned (.tuple #[zeroT, errV ea 0]) ∧ Below w.heap.size w w' := by
  have h6 := hE.six
  have e0 := hE.errs 0 (by omega)
  have hlt : 0 < w.heap.size := by omega
  go_enter Ybaf.func15, Ybaf.ntmps15
  go_wp2_with (go_at_call 20; refine (isTrace_yes ty _ hty).mono ?_; rintro e w' ⟨rfl, rfl⟩)
  go_region
  all_goals go_wp2
  refine bodyPost_ret (v := .tuple #[zeroT, errV ea 0]) (by simp [results, Ybaf.results15, go_sem, zeroT, errV]) rfl ⟨rfl, ?_⟩
  exact (((Below.refl _ _).alloc (Nat.le_refl _) _).alloc (by simp) _).drew

/-- The result's block, cell by cell. -/
theorem zcells {w : World} {B : Nat} (h : w.heap[B]? = some (.cells #[.int .u8 0, .int .u8 0, .int .u8 0, .int .u32 0, .slice none 0 0] 57 (0, 0))) :
    w.cell? ⟨B, 0, none⟩ = some (.int .u8 0) ∧ w.cell? ⟨B, 1, none⟩ = some (.int .u8 0) ∧ w.cell? ⟨B, 2, none⟩ = some (.int .u8 0) ∧ w.cell? ⟨B, 3, none⟩ = some (.int .u32 0) ∧ w.cell? ⟨B, 4, none⟩ = some (.slice none 0 0) ∧ ∀ j, w.frozen? ⟨B, j, none⟩ = false := by
  refine ⟨?_, ?_, ?_, ?_, ?_, fun j => frozen_of_row w B j _ 57 h⟩ <;> rw [cell_of_row w B _ _ 57 (0, 0) h] <;> rfl
/-- A Trace's block, cell by cell. -/
theorem tcells {w : World} {B : Nat} {a b c d e : Value} (h : w.heap[B]? = some (.cells #[a, b, c, d, e] 57 (0, 0))) :
    w.cell? ⟨B, 0, none⟩ = some a ∧ w.cell? ⟨B, 1, none⟩ = some b ∧ w.cell? ⟨B, 2, none⟩ = some c ∧ w.cell? ⟨B, 3, none⟩ = some d ∧ w.cell? ⟨B, 4, none⟩ = some e ∧ ∀ j, w.frozen? ⟨B, j, none⟩ = false := by
  refine ⟨?_, ?_, ?_, ?_, ?_, fun j => frozen_of_row w B j _ 57 h⟩ <;> rw [cell_of_row w B _ _ 57 (0, 0) h] <;> rfl

/-- The length in a slot. -/
def lenOf : Value → Nat
  | .slice _ n _ => n
  | _ => 0

/-- What Trace hands back. -/
def TrSaid (ea : Nat → Addr) (code nl fl rm tt : Nat) (w : World) (e : Ending) (w' : World) : Prop :=
  ((code = 9 ∧ ∃ (wa : Addr) (wn wc : Nat), e = .returned (.tuple #[.agg #[.int .u8 (nl : Int), .int .u8 (fl : Int), .int .u8 (rm : Int), .int .u32 (tt : Int), .slice (some wa) wn wc], .nilIface])) ∨ (code ≠ 9 ∧ e = .returned (.tuple #[zeroT, errV ea code]))) ∧ Below w.heap.size w w'

set_option maxRecDepth 100000 in
set_option maxHeartbeats 2000000 in
theorem trace_any (ty ns rs F fo c g len cap : Nat) (f : Nat → Nat) (ea : Nat → Addr) (w : World) (hE : Env w F fo c ea) (hty : ty ≤ 1) (hl : 8 ≤ len) (hr : Row w g len f) (hf : ∀ i, f i < 256) (hlc : len ≤ cap) (hcm : cap ≤ 9223372036854775807) (hlm : len ≤ 4000000) :
    Calls Ybaf.prog 15 #[.agg #[.int .u8 ty, .int .u16 ns, .slice (some ⟨g, 0, none⟩) len cap, .int .u8 rs]] w (TrSaid ea (tcode ty len f) (hNl f) (hFl f) (hRm f) (hTt f) w) := by
  have i8 : ¬ (len : Int) < 8 := by omega
  have i2 : (2 : Int) < (len : Int) := by omega
  have i3 : (3 : Int) < (len : Int) := by omega
  have hg := hr.lt
  go_enter Ybaf.func15, Ybaf.ntmps15
  go_wp2_with (go_at_call 20; refine (isTrace_yes ty _ hty).mono ?_; rintro e w' ⟨rfl, rfl⟩)
  have hbA : Below w.heap.size w ((w.alloc (.cells #[.int .u8 ty, .int .u16 ns, .slice (some ⟨g, 0, none⟩) len cap, .int .u8 rs] 37)).alloc (.cells #[.int .u8 0, .int .u8 0, .int .u8 0, .int .u32 0, .slice none 0 0] 57)) := ((Below.refl _ _).alloc (Nat.le_refl _) _).alloc (by simp) _
  have hsz : ((w.alloc (.cells #[.int .u8 ty, .int .u16 ns, .slice (some ⟨g, 0, none⟩) len cap, .int .u8 rs] 37)).alloc (.cells #[.int .u8 0, .int .u8 0, .int .u8 0, .int .u32 0, .slice none 0 0] 57)).heap.size = w.heap.size + 2 := by simp
  have hT : ((w.alloc (.cells #[.int .u8 ty, .int .u16 ns, .slice (some ⟨g, 0, none⟩) len cap, .int .u8 rs] 37)).alloc (.cells #[.int .u8 0, .int .u8 0, .int .u8 0, .int .u32 0, .slice none 0 0] 57)).cell? ⟨w.heap.size, 0, none⟩ = some (.int .u8 ty) := by simp [go_sem]
  have hR : ((w.alloc (.cells #[.int .u8 ty, .int .u16 ns, .slice (some ⟨g, 0, none⟩) len cap, .int .u8 rs] 37)).alloc (.cells #[.int .u8 0, .int .u8 0, .int .u8 0, .int .u32 0, .slice none 0 0] 57)).heap[w.heap.size + 1]? = some (.cells #[.int .u8 0, .int .u8 0, .int .u8 0, .int .u32 0, .slice none 0 0] 57 (0, 0)) := heap_alloc2_new _ _ _
  generalize (w.alloc (.cells #[.int .u8 ty, .int .u16 ns, .slice (some ⟨g, 0, none⟩) len cap, .int .u8 rs] 37)).alloc (.cells #[.int .u8 0, .int .u8 0, .int .u8 0, .int .u32 0, .slice none 0 0] 57) = W at hbA hsz hT hR ⊢
  have hr2 := hr.below hbA hg
  have d2 := hr2.cell (i := 2) (by omega)
  have d3 := hr2.cell (i := 3) (by omega)
  have d4 := hr2.cell (i := 4) (by omega)
  have d5 := hr2.cell (i := 5) (by omega)
  have d6 := hr2.cell (i := 6) (by omega)
  have f2 := hf 2
  have f3 := hf 3
  have f4 := hf 4
  have f5 := hf 5
  have f6 := hf 6
  have hgW := hr2.lt
  have HSZ : Hid (W.heap.size = w.heap.size + 2) := hsz
  have HT : Hid (W.cell? ⟨w.heap.size, 0, none⟩ = some (.int .u8 ty)) := hT
  have HR : Hid (W.heap[w.heap.size + 1]? = some (.cells #[.int .u8 0, .int .u8 0, .int .u8 0, .int .u32 0, .slice none 0 0] 57 (0, 0))) := hR
  clear hsz hT hR
  have hda : ∀ n o, (W.drewN n).alloc o = (W.alloc o).drewN n := fun _ _ => rfl
  have hds : ∀ (X : World) n a v, (X.drewN n).setCell a v = (X.setCell a v).drewN n := fun _ _ _ _ => rfl
  obtain ⟨nl, hnl⟩ : ∃ nl, nl = hNl f := ⟨_, rfl⟩
  obtain ⟨fl, hfl⟩ : ∃ fl, fl = hFl f := ⟨_, rfl⟩
  obtain ⟨rm, hrm⟩ : ∃ rm, rm = hRm f := ⟨_, rfl⟩
  obtain ⟨tt, htt⟩ : ∃ tt, tt = hTt f := ⟨_, rfl⟩
  have b1 : (f 2 : Int) / 8 = (nl : Int) := by rw [hnl]; unfold hNl; omega
  have b2 : bits .or .u8 (IntKind.u8.wrap (bits .and .u8 (f 2 : Int) 7 * 2)) ((f 3 : Int) / 128) = (fl : Int) := by rw [and7 _ (hf 2), wrap_x2, or_fl _ _ (hf 3), hfl]; rfl
  have b3 : bits .and .u8 (f 3 : Int) 127 = (rm : Int) := by rw [and127 _ (hf 3), hrm]; rfl
  have b4 : (f 4 : Int) * 65536 + (f 5 : Int) * 256 + (f 6 : Int) = (tt : Int) := by rw [htt]; unfold hTt; omega
  have n1 : nl < 32 := by rw [hnl]; unfold hNl; omega
  have n3 : rm < 128 := by rw [hrm]; unfold hRm; omega
  have n4 : tt < 16777216 := by rw [htt]; unfold hTt; omega
  rw [← hnl, ← hfl, ← hrm, ← htt]
  have HC : Hid (tcode ty len f = if nl ≠ asz tt / 4 then 1 else if len < (if ty = 0 then 8 + rm * 4 else 8) then 2 else scan (bt tt 22) (nl * 4) f len (if ty = 0 then 8 + rm * 4 else 8)) := by show _ = _; unfold tcode hStart; rw [hnl, hrm, htt]
  have H1 : Hid (nl = hNl f) := hnl
  have H2 : Hid (fl = hFl f) := hfl
  have H3 : Hid (rm = hRm f) := hrm
  have H4 : Hid (tt = hTt f) := htt
  clear hnl hfl hrm htt
  go_cut [5] (fun p wx => p = .pointer (some ⟨W.heap.size, 0, none⟩) ∧ ∃ m, wx = (W.alloc (.cells #[.int .u8 nl, .int .u8 fl, .int .u8 rm, .int .u32 tt, .slice none 0 0] 57)).drewN m)
  case first =>
    go_region_held3 (fun w' => w'.cell? ⟨g, 2, none⟩ = some (.int .u8 (f 2 : Int)) ∧ w'.cell? ⟨g, 3, none⟩ = some (.int .u8 (f 3 : Int)) ∧ w'.cell? ⟨g, 4, none⟩ = some (.int .u8 (f 4 : Int)) ∧ w'.cell? ⟨g, 5, none⟩ = some (.int .u8 (f 5 : Int)) ∧ w'.cell? ⟨g, 6, none⟩ = some (.int .u8 (f 6 : Int))) (go_keep)
      ((go_at_call 21; refine (ttype_any g 0 len cap (f 4) (f 5) (f 6) _ (hf 4) (hf 5) (hf 6) hl ?_ ?_ ?_).mono ?_; (simp [*]); (simp [*]); (simp [*]); rintro e w' ⟨rfl, n, rfl⟩))
    all_goals (go_wp2_with fail; go_meet)
    all_goals exact ⟨rfl, _, rfl⟩
  case rest =>
    obtain ⟨rfl, m, rfl⟩ := hcut
    have hbB : Below W.heap.size W ((W.alloc (.cells #[.int .u8 nl, .int .u8 fl, .int .u8 rm, .int .u32 tt, .slice none 0 0] 57)).drewN m) := ((Below.refl _ _).alloc (Nat.le_refl _) _).trans (below_drewN _ _ _)
    have hE2 := (hE.below hbA (Nat.le_refl _)).below hbB (Nat.le_refl _)
    have hr3 := hr2.below hbB hgW
    clear b1 b2 b3 b4 d2 d3 d4 d5 d6 f2 f3 f4 f5 f6 hda hds
    have hTB : ((W.alloc (.cells #[.int .u8 nl, .int .u8 fl, .int .u8 rm, .int .u32 tt, .slice none 0 0] 57)).drewN m).heap[W.heap.size]? = some (.cells #[.int .u8 nl, .int .u8 fl, .int .u8 rm, .int .u32 tt, .slice none 0 0] 57 (0, 0)) := World.alloc_heap_new W _
    have hRB := (hbB.block (w.heap.size + 1) (by rw [HSZ.out]; omega)).trans HR.out
    have hOB := (hbB.cell (p := ⟨w.heap.size, 0, none⟩) (by rw [HSZ.out]; simp)).trans HT.out
    have hsz2 : ((W.alloc (.cells #[.int .u8 nl, .int .u8 fl, .int .u8 rm, .int .u32 tt, .slice none 0 0] 57)).drewN m).heap.size = W.heap.size + 1 := by simp
    have hbC := hbA.trans (hbB.mono (by rw [HSZ.out]; omega))
    have HTB : Hid (((W.alloc (.cells #[.int .u8 nl, .int .u8 fl, .int .u8 rm, .int .u32 tt, .slice none 0 0] 57)).drewN m).heap[W.heap.size]? = some (.cells #[.int .u8 nl, .int .u8 fl, .int .u8 rm, .int .u32 tt, .slice none 0 0] 57 (0, 0))) := hTB
    clear hTB
    go_wp2_with fail
    by_cases hok : nl = asz tt / 4
    · refine (check_ok nl fl rm tt F fo c ea _ _ hE2 (by omega) (by omega) hok).mono ?_
      rintro e w1 ⟨rfl, hb1⟩
      have HOK : Hid (nl = asz tt / 4) := hok
      clear hok
      have hE3 := hE2.below hb1 (Nat.le_refl _)
      have hr4 := hr3.below hb1 hr3.lt
      have hT1 : Hid (w1.heap[W.heap.size]? = some (.cells #[.int .u8 nl, .int .u8 fl, .int .u8 rm, .int .u32 tt, .slice none 0 0] 57 (0, 0))) := (hb1.block W.heap.size (by omega)).trans HTB.out
      have hR1 : Hid (w1.heap[w.heap.size + 1]? = some (.cells #[.int .u8 0, .int .u8 0, .int .u8 0, .int .u32 0, .slice none 0 0] 57 (0, 0))) := (hb1.block (w.heap.size + 1) (by have := HSZ.out; omega)).trans hRB
      have hO1 : w1.cell? ⟨w.heap.size, 0, none⟩ = some (.int .u8 ty) := (hb1.cell (p := ⟨w.heap.size, 0, none⟩) (by have := HSZ.out; simp; omega)).trans hOB
      have hbD : Below w.heap.size w w1 := hbC.trans (hb1.mono (by have := HSZ.out; omega))
      have hz1 : W.heap.size + 1 ≤ w1.heap.size := by have := hb1.size; omega
      have h6w := hE.six
      clear hb1 hbC hRB hOB hsz2 HTB hbB hE2 hr3 hr2 hbA HT HR hE hr
      go_upto_region 11 with fail
      obtain ⟨a8, ha8, hb8⟩ : ∃ a8 : Addr, (if cap = 8 then some (⟨g, 0, none⟩ : Addr) else some ⟨g, 8, none⟩) = some a8 ∧ (8 < cap → a8 = ⟨g, 8, none⟩) := by
        by_cases h : cap = 8
        · exact ⟨_, if_pos h, fun hh => by omega⟩
        · exact ⟨_, if_neg h, fun _ => rfl⟩
      rw [ha8]
      clear ha8
      obtain ⟨t0, t1, t2, t3, t4, tf⟩ := tcells hT1.out
      have HB8 : Hid (8 < cap → a8 = ⟨g, 8, none⟩) := hb8
      clear hb8
      go_upto_if 56 with fail
      go_cut [7, 8] (fun v _ wx => wx = w1 ∧ ∃ st ap cq, (if ty = 0 then 8 + rm * 4 else 8) = st ∧ st ≤ len ∧ v = .slice (some ap) (len - st) cq ∧ (st < len → ap = ⟨g, st, none⟩) ∧ len - st ≤ cq ∧ cq ≤ 9223372036854775807)
      case first =>
        rcases (show ty = 0 ∨ ty = 1 by omega) with rfl | rfl
        · by_cases hfr : len - 8 < rm * 4
          · obtain ⟨r0, r1, r2, r3, r4, rf⟩ := zcells hR1.out
            have e2 := hE3.errs 2 (by omega)
            have hn2 : ¬ (2 = w.heap.size + 1) := by omega
            have hn3 : ¬ (w.heap.size + 1 = 2) := by omega
            go_wp2
            go_region
            all_goals go_wp2
            refine bodyPost_ret (v := .tuple #[zeroT, errV ea 2]) (by simp [results, Ybaf.results15, go_sem, zeroT, errV, r0, r1, r2, r3, r4]) rfl ⟨.inr ⟨?_, ?_⟩, ?_⟩
            · rw [HC.out, if_neg (by have := HOK.out; omega), if_pos (by simp; omega)]; omega
            · rw [HC.out, if_neg (by have := HOK.out; omega), if_pos (by simp; omega)]
            · exact ((((((hbD).setCell (by simp) _).setCell (by simp) _).setCell (by simp) _).setCell (by simp) _).setCell (by simp) _).drew
          · go_wp2
            all_goals go_meet
            · exact ⟨rfl, 8 + rm * 4, a8, 0, by simp, by omega, by rw [show len - 8 - rm * 4 = len - (8 + rm * 4) by omega], fun h => by omega, by omega, by omega⟩
            · refine ⟨rfl, 8 + rm * 4, a8.add (rm * 4), cap - 8 - rm * 4, by simp, by omega, by rw [show len - 8 - rm * 4 = len - (8 + rm * 4) by omega], fun h => ?_, by omega, by omega⟩
              rw [HB8.out (by omega), show (⟨g, 8, none⟩ : Addr).add (rm * 4) = ⟨g, 8 + rm * 4, none⟩ by unfold Addr.add; split <;> simp_all]
        · go_wp2
          go_meet
          exact ⟨rfl, 8, a8, cap - 8, by simp, by omega, rfl, fun h => HB8.out (by omega), by omega, by omega⟩
      case rest =>
        obtain ⟨rfl, st, ap, cq, hst, hsl, rfl, hap, hcq1, hcq2⟩ := hcut
        have HC2 : Hid (tcode ty len f = scan (bt tt 22) (nl * 4) f len st) := by show _ = _; rw [HC.out, if_neg (by have := HOK.out; omega), hst, if_neg (by omega)]
        have HAP : Hid (st < len → ap = ⟨g, st, none⟩) := hap
        clear HC hst hap HB8 t0 t1 t2 t3 t4 tf hO1
        go_wp2
        go_loopw [9] (fun v wr => ∃ pos ap cq, pos ≤ len ∧ v = .slice (some ap) (len - pos) cq ∧ (pos < len → ap = ⟨g, pos, none⟩) ∧ len - pos ≤ cq ∧ cq ≤ 9223372036854775807 ∧ scan (bt tt 22) (nl * 4) f len pos = scan (bt tt 22) (nl * 4) f len st ∧ Below wc.heap.size wc wr) (fun v _ => lenOf v)
        case atStart => exact ⟨st, ap, cq, hsl, rfl, HAP.out, hcq1, hcq2, rfl, Below.refl _ _⟩
        case round =>
          obtain ⟨pos, aq, cp, hpos, rfl, haq, hc1, hc2, hsc, hbw⟩ := hrel
          have hEw := hE3.below hbw (Nat.le_refl _)
          have hrw := hr4.below hbw hr4.lt
          obtain ⟨t0, t1, t2, t3, t4, tf⟩ := tcells ((hbw.block W.heap.size (by omega)).trans hT1.out)
          obtain ⟨r0, r1, r2, r3, r4, rf⟩ := zcells ((hbw.block (w.heap.size + 1) (by have := HSZ.out; omega)).trans hR1.out)
          have hbE := hbD.trans (hbw.mono hbD.size)
          by_cases hlt : pos < len
          · obtain rfl := haq hlt
            have hcon := wlen_any nl fl rm tt F fo c g pos (len - pos) cp (f (pos + nl * 4)) ea (.slice none 0 0) wr hEw (by omega) (by omega) (by omega) (hf _) (fun h => hrw.cell (by omega))
            unfold WLSaid at hcon
            rcases wl_code (bt tt 22) (nl * 4) (f (pos + nl * 4)) (len - pos) with h9 | h34
            · have hgo := scan_go (bt tt 22) (nl * 4) f len pos hlt h9
              have hok9 := wl_ok h9
              rw [h9] at hcon
              generalize (wl (bt tt 22) (nl * 4) (f (pos + nl * 4)) (len - pos)).1 = n at hcon hgo hok9
              simp only [errV] at hcon
              have HGO : Hid (scan (bt tt 22) (nl * 4) f len (pos + n) = scan (bt tt 22) (nl * 4) f len st) := hgo.symm.trans hsc
              clear hgo hsc haq h9
              by_cases hcn : cp = n
              · subst hcn
                go_wp2_with (go_at_call 23; refine hcon.mono ?_; clear hcon; rintro e w2 ⟨rfl, hb2⟩)
                go_roundw
                case rel => exact ⟨pos + cp, ⟨g, pos, none⟩, 0, by omega, by rw [show len - (pos + cp) = 0 by omega], fun h => by omega, by omega, by omega, HGO.out, hbw.trans (hb2.mono hbw.size)⟩
                case measure => simp [lenOf]; omega
              · go_wp2_with (go_at_call 23; refine hcon.mono ?_; clear hcon; rintro e w2 ⟨rfl, hb2⟩)
                go_roundw
                case rel => exact ⟨pos + n, ⟨g, pos + n, none⟩, cp - n, by omega, by rw [show len - pos - n = len - (pos + n) by omega], fun h => rfl, by omega, by omega, HGO.out, hbw.trans (hb2.mono hbw.size)⟩
                case measure => simp [lenOf]; omega
            · have herr := scan_err (bt tt 22) (nl * 4) f len pos hlt (by rcases h34 with h | h <;> rw [h] <;> omega)
              have HCE : Hid (tcode ty len f = (wl (bt tt 22) (nl * 4) (f (pos + nl * 4)) (len - pos)).2) := by show _ = _; rw [HC2.out, ← hsc, herr]
              generalize (wl (bt tt 22) (nl * 4) (f (pos + nl * 4)) (len - pos)) = rr at hcon HCE h34
              obtain ⟨rr1, rr2⟩ := rr
              have H34 : Hid (rr2 = 3 ∨ rr2 = 4) := h34
              have hcon2 : Calls Ybaf.prog 23 #[.agg #[.int .u8 nl, .int .u8 fl, .int .u8 rm, .int .u32 tt, .slice none 0 0], .slice (some ⟨g, pos, none⟩) (len - pos) cp] wr fun e w' => e = .returned (.tuple #[.int .i64 (rr1 : Int), .iface 65 (.pointer (some (ea rr2)))]) ∧ Below wr.heap.size wr w' := by
                refine hcon.mono ?_
                rintro e w' ⟨rfl, hb⟩
                refine ⟨?_, hb⟩
                rcases h34 with h | h <;> (subst h; rfl)
              clear hcon herr hsc haq h34
              go_wp2_with (go_at_call 23; refine hcon2.mono ?_; clear hcon2; rintro e w2 ⟨rfl, hb2⟩; obtain ⟨s0, s1, s2, s3, s4, sf⟩ := zcells ((hb2.block (w.heap.size + 1) (by have := HSZ.out; have := hbw.size; omega)).trans ((hbw.block (w.heap.size + 1) (by have := HSZ.out; omega)).trans hR1.out)))
              have hbF := hbE.trans (hb2.mono hbE.size)
              refine bodyPost_ret (v := .tuple #[zeroT, .iface 65 (.pointer (some (ea rr2)))]) (by simp [results, Ybaf.results15, go_sem, zeroT, s0, s1, s2, s3, s4]) rfl ⟨.inr ⟨?_, ?_⟩, ?_⟩
              · rw [HCE.out]; rcases H34.out with h | h <;> (rw [h]; omega)
              · rw [HCE.out]; rcases H34.out with h | h <;> (rw [h]; rfl)
              · exact ((((hbF.setCell (by simp) _).setCell (by simp) _).setCell (by simp) _).setCell (by simp) _).setCell (by simp) _
          · have HCE : Hid (tcode ty len f = 9) := by show _ = _; rw [HC2.out, ← hsc, scan_end _ _ _ _ _ hlt]
            have hne : ¬ (W.heap.size = w.heap.size + 1) := by have := HSZ.out; omega
            have hne' : ¬ (w.heap.size + 1 = W.heap.size) := by omega
            clear hsc haq hEw hrw hE3 hr4 hbw
            go_wp2
            refine bodyPost_ret (v := .tuple #[.agg #[.int .u8 nl, .int .u8 fl, .int .u8 rm, .int .u32 tt, .slice (some ap) (len - st) cq], .nilIface]) (by simp [results, Ybaf.results15, go_sem, r0, r1, r2, r3, r4]) rfl ⟨.inl ⟨HCE.out, ap, len - st, cq, ?_⟩, ?_⟩
            · rw [H1.out, H2.out, H3.out, H4.out]
            · exact (((((hbE.setCell (by have := HSZ.out; simp; omega) _).setCell (by simp) _).setCell (by simp) _).setCell (by simp) _).setCell (by simp) _).setCell (by simp) _
    · refine (check_bad nl fl rm tt F fo c ea _ _ hE2 (by omega) (by omega) hok).mono ?_
      rintro e w1 ⟨rfl, hb1⟩
      obtain ⟨r0, r1, r2, r3, r4, rf⟩ := zcells ((hb1.block (w.heap.size + 1) (by have := HSZ.out; omega)).trans hRB)
      go_wp2
      refine bodyPost_ret (v := .tuple #[zeroT, errV ea 1]) (by simp [results, Ybaf.results15, go_sem, zeroT, errV, r0, r1, r2, r3, r4]) rfl ⟨.inr ⟨?_, ?_⟩, ?_⟩
      · rw [HC.out, if_pos hok]; omega
      · rw [HC.out, if_pos hok]
      · exact (((((hbC.trans (hb1.mono (by have := HSZ.out; omega))).setCell (by simp) _).setCell (by simp) _).setCell (by simp) _).setCell (by simp) _).setCell (by simp) _
end Go.Proofs.YbulkdlqeFmt
