/-
  The law, whole.
-/
import Derived.Test.YbulkdlswDoorL
import Derived.Deep.CutBlock
namespace Go.Proofs.YbulkdlswDoor
open Go.RowKit Go.Shelf

/-- What stands ahead of data. -/
def HeadSaid (w1 : World) (v : Value) (wx : World) : Prop :=
  ∃ (pa : Option Addr) (pcap pm : Nat) (fp : Nat → Nat), v = .slice pa pm pcap ∧ OwnS wx w1.heap.size pa pcap pm fp ∧ pm ≤ 6 ∧ (∀ i, fp i < 256) ∧ Below w1.heap.size w1 wx
theorem cells3 : Go.Lib.strCells { data := #[239, 187, 191] } = vals markB 3 := by rfl
theorem cells2 : Go.Lib.strCells { data := #[239, 187] } = vals markB 2 := by rfl
theorem markB_lt (i : Nat) : markB i < 256 := by unfold markB; split <;> (try split) <;> omega

set_option maxRecDepth 1000000 in
set_option maxHeartbeats 4000000 in
theorem law_small (a c : Option Addr) (la ca lc cc ld : Nat) (fail : Bool) (ea : Addr) (fa fc : Nat → Nat) (W : World) (hg : W.cell? ⟨0, 0, none⟩ = some (.iface 37 (.pointer (some ea)))) (ha : Bytes W a la fa) (hc : Bytes W c lc fc) (hfa : ∀ i, fa i < 256) (hfc : ∀ i, fc i < 256) (han : a = none → la = 0 ∧ ca = 0) (haX : ∀ p, a = some p → p.block < W.heap.size) (hcX : ∀ p, c = some p → p.block < W.heap.size) (hs : la + lc ≤ 1048576) :
    Calls Ybad.prog 3 #[.slice a la ca, .int .u8 (ld : Int), .slice c lc cc, .bool fail] W fun e w' => e = .returned (.bool true) ∧ Below W.heap.size W w' := by
  have hcl := clone_any a la ca fa W ha han (by omega)
  have i1 : IntKind.i64.wrap ((la : Int) + (lc : Int)) = (la : Int) + (lc : Int) := IntWalk.i64_in _ (by omega)
  have i2 : ¬ (1048576 : Int) < (la : Int) + (lc : Int) := by omega
  have i3 : decide ((1048576 : Int) < (la : Int) + (lc : Int)) = false := decide_eq_false i2
  have HS : Hid (la + lc ≤ 1048576) := hs
  clear hs
  go_enter Ybad.func3, Ybad.ntmps3
  go_upto_block 0 with (go_at_call 4; refine hcl.mono ?_; rintro e w1 ⟨oa, oc, rfl, ho, hoX, hsm1⟩)
  obtain ⟨r, hre⟩ : ∃ r : Int, (ld : Int) % 4 = r := ⟨_, rfl⟩
  rw [hre]
  have hr : r = 0 ∨ r = 1 ∨ r = 2 ∨ r = 3 := by omega
  clear hre
  go_cut [10] (fun v wx => HeadSaid w1 v wx)
  case first =>
    have hnil : OwnS w1 w1.heap.size none 0 0 (fun _ => 0) := OwnS.nil _ _ _
    clear hcl i1 i2 i3 ha hc hg hfa hfc han haX hcX ho hoX hsm1
    rcases hr with rfl | rfl | rfl | rfl
    · go_wp2
      go_meet
      exact ⟨none, 0, 0, fun _ => 0, rfl, OwnS.nil _ _ _, by omega, fun _ => (by decide : 0 < 256), Below.refl _ _⟩
    · go_wp2_with (at_builtin; refine wpList_appStr _ rfl (.tmp 34) _ rfl w1.heap.size none 0 0 (fun _ => 0) rfl hnil _ 3 markB rfl cells3 rfl (by omega) (Nat.le_refl _) ?_; intro g1 cap1 w2 hown2 hsm2)
      go_meet
      exact ⟨g1, cap1, 3, _, rfl, hown2, by omega, fun i => by show (if i < 0 then 0 else markB (i - 0)) < 256; rw [if_neg (by omega)]; exact markB_lt _, hsm2.below (Nat.le_refl _) (by simp)⟩
    · go_upto_region 10 with (at_builtin; refine wpList_appStr _ rfl (.tmp 38) _ rfl w1.heap.size none 0 0 (fun _ => 0) rfl hnil _ 3 markB rfl cells3 rfl (by omega) (Nat.le_refl _) ?_; intro g1 cap1 w2 hown2 hsm2)
      go_wp2_with (at_builtin; refine wpList_appStr _ rfl (.tmp 40) _ rfl w1.heap.size g1 cap1 3 _ rfl hown2 _ 3 markB rfl cells3 rfl (by omega) hsm2.size ?_; intro g2 cap2 w3 hown3 hsm3)
      go_meet
      refine ⟨g2, cap2, 6, _, rfl, hown3, by omega, fun i => ?_, (hsm2.shed hsm3 (fun i hi => ?_)).below (Nat.le_refl _) (by simp)⟩
      · show (if i < 3 then (if i < 0 then 0 else markB (i - 0)) else markB (i - 3)) < 256
        split
        · rw [if_neg (by omega)]; exact markB_lt _
        · exact markB_lt _
      · simp only [List.mem_map, Option.mem_toList] at hi
        obtain ⟨p, hp, rfl⟩ := hi
        exact .inr (hown2.ge p hp)
    · go_wp2_with (at_builtin; refine wpList_appStr _ rfl (.tmp 44) _ rfl w1.heap.size none 0 0 (fun _ => 0) rfl hnil _ 2 markB rfl cells2 rfl (by omega) (Nat.le_refl _) ?_; intro g1 cap1 w2 hown2 hsm2)
      go_meet
      exact ⟨g1, cap1, 2, _, rfl, hown2, by omega, fun i => by show (if i < 0 then 0 else markB (i - 0)) < 256; rw [if_neg (by omega)]; exact markB_lt _, hsm2.below (Nat.le_refl _) (by simp)⟩
  case rest =>
    obtain ⟨pa, pcap, pm, fp, rfl, hown, hpm, hfp, hbw⟩ := hcut
    rename_i K hK
    refine hK _ _ ?_
    have hS := HS.out
    have hX := fun X (h : X < W.heap.size) => Nat.lt_of_lt_of_le h hsm1.size
    have h0 := World.block_lt_of_cell? W _ hg
    have hb1 : Below w1.heap.size w1 wc := hbw
    have e1 : ∀ X, X < W.heap.size → wc.heap[X]? = W.heap[X]? := fun X h => (hbw.block X (hX X h)).trans (hsm1.block X h (by simp))
    refine mid13 w1.heap.size la ca oc pm pcap lc cc a oa pa c fail ea fp fc fa wc _ ((World.cell?_of_block (w := W) (e1 0 h0)).trans hg) hown (by have := hX 0 h0; omega) hbw.size hpm (by omega) (by omega) hfp hfa hfc ((ha.same hsm1 (by simp)).below hbw (Nat.le_refl _)) han (fun p hp => hX _ (haX p hp)) (ho.below hbw (Nat.le_refl _)) hoX ((hc.same hsm1 (by simp)).below hbw (Nat.le_refl _)) (fun p hp => hX _ (hcX p hp)) ?_ _ _ _ _ _ _ _ _ _ _ _ _ _ _ _ _ _ _ _ _ _ _ _ _ _ _ _ _ _ _ _ _ _ _ _ _ _ _ _ _ _ _ _ _ _ _ _ _ _ _ _ _ _ _ _ _ _ _ _ _ _ _ _ _ _ _ _ _ _ _ _ _ _ _ _ _ _ _ _ _ _ _ _ _ _ _ _ _ _ _ _ _ _ _ _ _ _ _ _ _ _ _ _ _ _ _ _ _ _ _ _ _ _ _ _ _ _ _ _ _ _ _ _ _ _ _
    intro w' hb'
    have h1 : Below W.heap.size W w1 := hsm1.below (Nat.le_refl _) (by simp)
    exact ⟨rfl, h1.trans ((hbw.mono hsm1.size).trans (hb'.mono hsm1.size))⟩

set_option maxHeartbeats 400000 in
theorem law_big (a c : Option Addr) (la ca lc cc ld : Nat) (fail : Bool) (W : World) (hs : 1048576 < la + lc) (h1 : la ≤ 140737488351232) (h2 : lc ≤ 140737488351232) :
    Calls Ybad.prog 3 #[.slice a la ca, .int .u8 (ld : Int), .slice c lc cc, .bool fail] W fun e w' => e = .returned (.bool true) ∧ w' = W := by
  have i1 : IntKind.i64.wrap ((la : Int) + (lc : Int)) = (la : Int) + (lc : Int) := IntWalk.i64_in _ (by omega)
  have i2 : (1048576 : Int) < (la : Int) + (lc : Int) := by omega
  clear hs h1 h2
  go_enter Ybad.func3, Ybad.ntmps3
  go_wp2
  go_ret
  exact ⟨rfl, rfl⟩
end Go.Proofs.YbulkdlswDoor
