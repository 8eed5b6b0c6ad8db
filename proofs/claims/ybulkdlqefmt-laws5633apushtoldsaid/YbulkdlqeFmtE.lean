/-
  The two reckonings of the size agree; (Trace).checkNodeLen.
-/
import Derived.Test.YbulkdlqeFmtD
import Derived.Deep.RegionWith
namespace Go.Proofs.YbulkdlqeFmt
open Go.RowKit

theorem ssum_to (tt k : Nat) (hk : k ≤ 26) : ssum (fldsTo tt k) = foff tt k := by
  induction k with
  | zero => simp [ssum, fldsTo, foff]
  | succ k ih =>
    have := ih (by omega)
    cases hb : bt tt (fbit k) with
    | true =>
      have e : fldsTo tt (k + 1) = fldsTo tt k ++ [⟨k, by omega, hb⟩] := by simp [fldsTo, hb, show k < 26 by omega]
      rw [e, ssum_snoc, this]
      simp [foff, hb]
    | false =>
      have e : fldsTo tt (k + 1) = fldsTo tt k := by simp [fldsTo, hb]
      rw [e, this]
      simp [foff, hb]

/-- One bit, as a number. -/
def xb (tt b : Nat) : Nat := if bt tt b then 1 else 0
theorem ite_xb (tt b m : Nat) : (if bt tt b = true then m else 0) = m * xb tt b := by
  unfold xb
  cases bt tt b <;> simp
theorem foff_asz (tt : Nat) : foff tt 26 = asz tt := by
  simp only [foff, asz, szTo, ite_xb]
  simp only [fbit, fsize, fbitL, fsizeL, bsz, List.getD_cons_zero, List.getD_cons_succ]
  simp
  omega
theorem ssum_flds (tt : Nat) : ssum (flds tt) = asz tt := by
  unfold flds
  rw [ssum_to tt 26 (by omega), foff_asz]

theorem lsize_any (tt F fo c : Nat) (htt : tt < 4294967296) (w : World) (ht : Tab w F fo) (hF : F < w.heap.size) :
    Calls Ybaf.prog 30 #[.agg #[.int .u64 24, .slice (some ⟨F, fo, none⟩) 26 c], .int .u32 tt] w fun e W' => e = .returned (.int .i64 (asz tt : Int)) ∧ Below w.heap.size w W' := by
  have h := callsIn_wide.1 (size_in tt F fo c htt w ht hF)
  rw [ssum_flds] at h
  exact h

/-- WHAT THE PROGRAM's VARIABLES HOLD. -/
structure Env (w : World) (F fo c : Nat) (ea : Nat → Addr) : Prop where
  errs : ∀ i, i < 6 → w.cell? ⟨i, 0, none⟩ = some (.iface 65 (.pointer (some (ea i))))
  width : w.cell? ⟨6, 0, none⟩ = some (.int .u64 24)
  fields : w.cell? ⟨6, 1, none⟩ = some (.slice (some ⟨F, fo, none⟩) 26 c)
  tab : Tab w F fo
theorem Env.lt {w : World} {F fo c : Nat} {ea : Nat → Addr} (h : Env w F fo c ea) : F < w.heap.size := World.block_lt_of_cell? w _ (h.tab 0 (by omega)).1
theorem Env.six {w : World} {F fo c : Nat} {ea : Nat → Addr} (h : Env w F fo c ea) : 6 < w.heap.size := World.block_lt_of_cell? w _ h.width
theorem Env.below {w w' : World} {F fo c B : Nat} {ea : Nat → Addr} (h : Env w F fo c ea) (hb : Below B w w') (hB : w.heap.size ≤ B) : Env w' F fo c ea := by
  have h6 := h.six
  have hl := h.lt
  exact ⟨fun i hi => (hb.cell (p := ⟨i, 0, none⟩) (by simp; omega)).trans (h.errs i hi), (hb.cell (p := ⟨6, 0, none⟩) (by simp; omega)).trans h.width, (hb.cell (p := ⟨6, 1, none⟩) (by simp; omega)).trans h.fields, h.tab.block (hb.block F (by omega))⟩

theorem asz_le (tt : Nat) : asz tt ≤ 176 := szTo_le tt 22

set_option maxHeartbeats 1000000 in
theorem check_ok (nl fl rm tt F fo c : Nat) (ea : Nat → Addr) (wr : Value) (w : World) (hE : Env w F fo c ea) (hnl : nl < 256) (htt : tt < 4294967296) (hok : nl = asz tt / 4) :
    Calls Ybaf.prog 22 #[.agg #[.int .u8 nl, .int .u8 fl, .int .u8 rm, .int .u32 tt, wr]] w fun e w' => e = .returned .nilIface ∧ Below w.heap.size w w' := by
  have h6 := hE.six
  have w0 := hE.width
  have w1 := hE.fields
  have hs := asz_le tt
  have hd : ((nl : Int) != (asz tt : Int) / 4) = false := by simp; omega
  have v1 : IntKind.i64.wrap (nl : Int) = nl := IntWalk.i64_in _ (by omega)
  have v2 : IntKind.i64.wrap ((asz tt : Int) / 4) = (asz tt : Int) / 4 := IntWalk.i64_in _ (by omega)
  clear hok
  go_enter Ybaf.func22, Ybaf.ntmps22
  go_wp2
  go_region_with (go_at_call 30; refine (lsize_any tt F fo c htt _ ?_ ?_).mono ?_; exact (hE.tab.block ((Below.heap_alloc w _ F hE.lt))); (have := hE.lt; simp; omega); rintro e w' ⟨rfl, hb⟩; have q0 : w'.cell? ⟨w.heap.size, 0, none⟩ = some (.int .u8 (nl : Int)) := (hb.cell (p := ⟨w.heap.size, 0, none⟩) (by simp)).trans (by simp [go_sem]))
  all_goals go_wp2
  all_goals go_ret
  all_goals exact ⟨rfl, (((Below.refl w.heap.size w).alloc (Nat.le_refl _) _).drew).trans (hb.mono (by simp))⟩

set_option maxHeartbeats 1000000 in
theorem check_bad (nl fl rm tt F fo c : Nat) (ea : Nat → Addr) (wr : Value) (w : World) (hE : Env w F fo c ea) (hnl : nl < 256) (htt : tt < 4294967296) (hbad : nl ≠ asz tt / 4) :
    Calls Ybaf.prog 22 #[.agg #[.int .u8 nl, .int .u8 fl, .int .u8 rm, .int .u32 tt, wr]] w fun e w' => e = .returned (.iface 65 (.pointer (some (ea 1)))) ∧ Below w.heap.size w w' := by
  have h6 := hE.six
  have w0 := hE.width
  have w1 := hE.fields
  have hs := asz_le tt
  have hd : ((nl : Int) != (asz tt : Int) / 4) = true := by rw [bne_iff_ne]; omega
  have v1 : IntKind.i64.wrap (nl : Int) = nl := IntWalk.i64_in _ (by omega)
  have v2 : IntKind.i64.wrap ((asz tt : Int) / 4) = (asz tt : Int) / 4 := IntWalk.i64_in _ (by omega)
  clear hbad
  go_enter Ybaf.func22, Ybaf.ntmps22
  go_wp2
  go_region_with (go_at_call 30; refine (lsize_any tt F fo c htt _ ?_ ?_).mono ?_; exact (hE.tab.block ((Below.heap_alloc w _ F hE.lt))); (have := hE.lt; simp; omega); rintro e w' ⟨rfl, hb⟩; have q0 : w'.cell? ⟨w.heap.size, 0, none⟩ = some (.int .u8 (nl : Int)) := (hb.cell (p := ⟨w.heap.size, 0, none⟩) (by simp)).trans (by simp [go_sem]); have q1 : w'.cell? ⟨1, 0, none⟩ = some (.iface 65 (.pointer (some (ea 1)))) := ((hE.below (((Below.refl w.heap.size w).alloc (Nat.le_refl _) _).drew) (Nat.le_refl _)).below hb (Nat.le_refl _)).errs 1 (by omega))
  all_goals go_wp2
  all_goals go_ret
  all_goals exact ⟨rfl, (((Below.refl w.heap.size w).alloc (Nat.le_refl _) _).drew).trans (hb.mono (by simp))⟩
end Go.Proofs.YbulkdlqeFmt
