/-
  (Trace).writtenLen.
-/
import Derived.Test.YbulkdlqeFmtE
namespace Go.Proofs.YbulkdlqeFmt
open Go.RowKit

/-- The error of code k; code 9: none. -/
def errV (ea : Nat → Addr) (k : Nat) : Value := if k < 6 then .iface 65 (.pointer (some (ea k))) else .nilIface
/-- The length of the element that 'len' bytes begin with, and the error's code. x: the byte behind the fixed fields. -/
def wl (snap : Bool) (n0 x len : Nat) : Nat × Nat :=
  if snap then (if len < n0 + 4 then (0, 3) else if len < n0 + 4 + x * 4 then (0, 4) else (n0 + 4 + x * 4, 9))
  else if n0 = 0 ∨ len < n0 then (0, 3) else (n0, 9)

/-- What writtenLen hands back. -/
def WLSaid (ea : Nat → Addr) (r : Nat × Nat) (w : World) (e : Ending) (w' : World) : Prop := e = .returned (.tuple #[.int .i64 (r.1 : Int), errV ea r.2]) ∧ Below w.heap.size w w'

theorem ret_iv {a b : Int} {v : Value} (h : a = b) : Ending.returned (.tuple #[.int .i64 a, v]) = .returned (.tuple #[.int .i64 b, v]) := by rw [h]
theorem thas22 (a0 a1 a2 v F fo c : Nat) (ea : Nat → Addr) (wr : Value) (w : World) (hE : Env w F fo c ea) (hv : v < 4294967296) (b : Bool) (hb : bt v 22 = b) :
    Calls Ybaf.prog 24 #[.agg #[.int .u8 a0, .int .u8 a1, .int .u8 a2, .int .u32 v, wr], .int .u64 22] w fun e w' => e = .returned (.bool b) ∧ Below w.heap.size w w' ∧ Env w' F fo c ea := by
  subst hb
  refine (thas_any a0 a1 a2 v 22 _ wr w hv (by omega) hE.width hE.fields).mono ?_
  rintro e w' ⟨rfl, hb⟩
  exact ⟨rfl, hb, hE.below hb (Nat.le_refl _)⟩
theorem Env.alloc {w : World} {F fo c : Nat} {ea : Nat → Addr} (h : Env w F fo c ea) (o : Obj) : Env (w.alloc o) F fo c ea := h.below ((Below.refl w.heap.size w).alloc (Nat.le_refl _) o) (Nat.le_refl _)

set_option maxHeartbeats 1000000 in
theorem wlen_any (nl fl rm tt F fo c b off len cap x : Nat) (ea : Nat → Addr) (wr : Value) (w : World) (hE : Env w F fo c ea) (_hnl : nl < 256) (htt : tt < 4294967296) (_hlen : len ≤ 4000000) (_hx : x < 256)
    (hc : nl * 4 < len → w.cell? ⟨b, off + nl * 4, none⟩ = some (.int .u8 (x : Int))) :
    Calls Ybaf.prog 23 #[.agg #[.int .u8 nl, .int .u8 fl, .int .u8 rm, .int .u32 tt, wr], .slice (some ⟨b, off, none⟩) len cap] w (WLSaid ea (wl (bt tt 22) (nl * 4) x len) w) := by
  have hE1 := hE.alloc (.cells #[.int .u8 nl, .int .u8 fl, .int .u8 rm, .int .u32 tt, wr] 57)
  have hB1 : Below w.heap.size w (w.alloc (.cells #[.int .u8 nl, .int .u8 fl, .int .u8 rm, .int .u32 tt, wr] 57)) := (Below.refl _ _).alloc (Nat.le_refl _) _
  cases hs : bt tt 22 with
  | true =>
    by_cases c1 : len < nl * 4 + 4
    · have hr : wl true (nl * 4) x len = (0, 3) := by simp [wl, c1]
      rw [hr]
      clear hc
      go_enter Ybaf.func23, Ybaf.ntmps23
      go_wp2_with fail
      refine (thas22 nl fl rm tt F fo c ea wr _ hE1 htt true hs).mono ?_
      rintro e w' ⟨rfl, hb, hE2⟩
      have q3 := hE2.errs 3 (by omega)
      clear hE1 hE2 hE
      go_wp2
      go_quiet (fail)
      go_wp2
      go_ret2
      exact ⟨rfl, (hB1.trans (hb.mono (by simp))).trans (below_drewN _ _ _)⟩
    · by_cases c2 : len < nl * 4 + 4 + x * 4
      · have hr : wl true (nl * 4) x len = (0, 4) := by simp [wl, c1, c2]
        rw [hr]
        have hcc := hc (by omega)
        have i1 : (0 : Int) ≤ (nl : Int) * 4 := by omega
        have i2 : (nl : Int) * 4 < (len : Int) := by omega
        clear hc
        go_enter Ybaf.func23, Ybaf.ntmps23
        go_wp2_with fail
        refine (thas22 nl fl rm tt F fo c ea wr _ hE1 htt true hs).mono ?_
        rintro e w' ⟨rfl, hb, hE2⟩
        have q4 := hE2.errs 4 (by omega)
        have qc : w'.cell? ⟨b, off + nl * 4, none⟩ = some (.int .u8 (x : Int)) := (hb.cell (p := ⟨b, off + nl * 4, none⟩) (by have := World.block_lt_of_cell? w _ hcc; simp at this ⊢; omega)).trans ((hB1.cell (p := ⟨b, off + nl * 4, none⟩) (World.block_lt_of_cell? w _ hcc)).trans hcc)
        clear hE1 hE2 hE hcc
        go_wp2
        go_quiet (fail)
        go_wp2
        go_ret2
        exact ⟨rfl, (hB1.trans (hb.mono (by simp))).trans (below_drewN _ _ _)⟩
      · have hr : wl true (nl * 4) x len = (nl * 4 + 4 + x * 4, 9) := by simp [wl, c1, c2]
        rw [hr]
        have hcc := hc (by omega)
        have i1 : (0 : Int) ≤ (nl : Int) * 4 := by omega
        have i2 : (nl : Int) * 4 < (len : Int) := by omega
        clear hc
        go_enter Ybaf.func23, Ybaf.ntmps23
        go_wp2_with fail
        refine (thas22 nl fl rm tt F fo c ea wr _ hE1 htt true hs).mono ?_
        rintro e w' ⟨rfl, hb, hE2⟩
        have qc : w'.cell? ⟨b, off + nl * 4, none⟩ = some (.int .u8 (x : Int)) := (hb.cell (p := ⟨b, off + nl * 4, none⟩) (by have := World.block_lt_of_cell? w _ hcc; simp at this ⊢; omega)).trans ((hB1.cell (p := ⟨b, off + nl * 4, none⟩) (World.block_lt_of_cell? w _ hcc)).trans hcc)
        have hnz : (((nl : Int) * 4 + (4 + (x : Int) * 4)) == 0) = false := beq_eq_false_iff_ne.2 (by omega)
        clear hE1 hE2 hE hcc
        go_wp2
        go_ret2
        exact ⟨ret_iv (by omega), hB1.trans (hb.mono (by simp))⟩
  | false =>
    by_cases c1 : nl * 4 = 0 ∨ len < nl * 4
    · have hr : wl false (nl * 4) x len = (0, 3) := by simp only [wl]; simp [c1]
      rw [hr]
      clear hc
      rcases c1 with c1 | c1
      · go_enter Ybaf.func23, Ybaf.ntmps23
        go_wp2_with fail
        refine (thas22 nl fl rm tt F fo c ea wr _ hE1 htt false hs).mono ?_
        rintro e w' ⟨rfl, hb, hE2⟩
        have q3 := hE2.errs 3 (by omega)
        clear hE1 hE2 hE
        go_wp2
        go_quiet (fail)
        go_wp2
        go_ret2
        exact ⟨rfl, (hB1.trans (hb.mono (by simp))).trans (below_drewN _ _ _)⟩
      · go_enter Ybaf.func23, Ybaf.ntmps23
        go_wp2_with fail
        refine (thas22 nl fl rm tt F fo c ea wr _ hE1 htt false hs).mono ?_
        rintro e w' ⟨rfl, hb, hE2⟩
        have q3 := hE2.errs 3 (by omega)
        have hnz : (((nl : Int) * 4) == 0) = false := beq_eq_false_iff_ne.2 (by omega)
        clear hE1 hE2 hE
        go_wp2
        go_quiet (fail)
        go_wp2
        go_ret2
        exact ⟨rfl, (hB1.trans (hb.mono (by simp))).trans (below_drewN _ _ _)⟩
    · have hr : wl false (nl * 4) x len = (nl * 4, 9) := by simp only [wl]; simp [c1]
      rw [hr]
      clear hc
      go_enter Ybaf.func23, Ybaf.ntmps23
      go_wp2_with fail
      refine (thas22 nl fl rm tt F fo c ea wr _ hE1 htt false hs).mono ?_
      rintro e w' ⟨rfl, hb, hE2⟩
      have hnz : (((nl : Int) * 4) == 0) = false := beq_eq_false_iff_ne.2 (by omega)
      clear hE1 hE2 hE
      go_wp2
      go_ret2
      exact ⟨ret_iv (by omega), hB1.trans (hb.mono (by simp))⟩
end Go.Proofs.YbulkdlqeFmt
