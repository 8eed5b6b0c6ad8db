/-
  The law whole.
-/
import Derived.Test.YbulkdlruFmtAr
namespace Go.Proofs.YbulkdlruFmt
open Go.RowKit Go.Shelf Go.Extern.Stop Go.Stop Go.Extern
set_option linter.unusedVariables false
set_option linter.unusedSimpArgs false

def LawPost (W : World) (e : Ending) (w' : World) : Prop := e = .returned (.bool true) ∧ Below W.heap.size W w'
theorem SigV.up {B B' : Nat} {w : World} {v : Value} {m : Nat} (h : SigV B w v m) (hB : B ≤ B') : SigV B' w v m := by
  obtain ⟨a, c, rfl, h⟩ := h
  refine ⟨a, c, rfl, ?_⟩
  rcases h with h | ⟨b, o, rfl, hbB, h⟩
  · exact .inl h
  · exact .inr ⟨b, o, rfl, by omega, h⟩
theorem Fins.up {B B' : Nat} {w : World} {fa : Option Addr} {nf : Nat} {sl : Nat → Nat} (h : Fins B w fa nf sl) (hB : B ≤ B') : Fins B' w fa nf sl := by
  rcases h with h | ⟨b, o, rfl, hbB, h⟩
  · exact .inl h
  · refine .inr ⟨b, o, rfl, by omega, fun i hi => ?_⟩
    obtain ⟨h1, h2, v, h4, h5⟩ := h i hi
    exact ⟨h1, h2, v, h4, h5.up hB⟩
theorem BlkIn.up {B B' : Nat} {w : World} {ba : Option Addr} {nb : Nat} {pl : Nat → Nat} (h : BlkIn B w ba nb pl) (hB : B ≤ B') : BlkIn B' w ba nb pl := by
  rcases h with h | ⟨b, o, rfl, hbB, h⟩
  · exact .inl h
  · refine .inr ⟨b, o, rfl, by omega, fun i hi => ?_⟩
    obtain ⟨h1, h2, h3, ⟨pa, pc, fp, h5, h6, h7, h8, h9⟩, h10, h11⟩ := h i hi
    exact ⟨h1, h2, h3, ⟨pa, pc, fp, h5, h6, h7, h8, fun q hq h0 => by have := h9 q hq h0; omega⟩, h10, h11⟩

def L1Rel (t0 nb : Nat) (pl : Nat → Nat) (W : World) (t i : Value) (wr : World) : Prop := ∃ k : Nat, i = .int .i64 (k : Int) ∧ k ≤ nb ∧ t = .int .i64 ((t0 + psum pl k : Nat) : Int) ∧ ((t0 + psum pl k : Nat) : Int) ≤ 1048576 ∧ wr = W

set_option maxRecDepth 100000 in
set_option maxHeartbeats 4000000 in
theorem law_any (F : Interp) (ee : Addr) (v0 : Value) (hb : Nat → Nat) (va : Option Addr) (nv vc : Nat) (ta : Option Addr) (tn tc : Nat) (ft : Nat → Nat) (fl ct : Nat) (nw : Int) (pre : Bool) (fa : Option Addr) (nf fc : Nat) (sl : Nat → Nat) (ba : Option Addr) (nb bc : Nat) (pl : Nat → Nat) (W : World)
    (hF : F.answers W.tape) (hg0 : W.cell? ⟨0, 0, none⟩ = some (.iface 118 (.pointer (some ee)))) (hee : W.cell? ee = some v0) (hhb : ∀ i, hb i < 256) (hvs : SigV W.heap.size W (.slice va nv vc) nv) (htl : Bytes W ta tn ft) (hft : ∀ i, ft i < 256) (htn : ta = none → tn = 0 ∧ tc = 0)
    (hfl : fl < 256) (hct : ct < 4294967296) (hfs : Fins W.heap.size W fa nf sl) (hbs : BlkIn W.heap.size W ba nb pl)
    (b1 : nb ≤ 140737488355328) (b2 : nf ≤ 140737488355328) (b3 : nv ≤ 140737488355328) (b4 : tn ≤ 140737488355328) (b5 : ∀ i, i < nb → pl i ≤ 140737488355328) (b6 : ∀ i, i < nf → sl i ≤ 140737488355328) :
    Calls Ybaf.prog 4 #[.slice ba nb bc, .slice fa nf fc, .int .u8 (fl : Int), .int .u64 nw, .agg (vals hb 32).toArray, .slice va nv vc, .slice ta tn tc, .int .u32 (ct : Int), .bool pre] W (LawPost W) := by
  have i1 : IntKind.i64.wrap ((nb : Int) + (nf : Int)) = (nb : Int) + (nf : Int) := IntWalk.i64_in _ (by omega)
  have i2 : IntKind.i64.wrap ((nb : Int) + (nf : Int) + (nv : Int)) = (nb : Int) + (nf : Int) + (nv : Int) := IntWalk.i64_in _ (by omega)
  obtain ⟨t0, ht0⟩ : ∃ t0, nb + nf + nv + tn = t0 := ⟨_, rfl⟩
  have i3 : IntKind.i64.wrap ((nb : Int) + (nf : Int) + (nv : Int) + (tn : Int)) = (t0 : Int) := by rw [show (nb : Int) + (nf : Int) + (nv : Int) + (tn : Int) = (t0 : Int) by omega]; exact IntWalk.i64_in _ (by omega)
  have HN : Hid (nb + nf + nv + tn = t0 ∧ (∀ i, i < nb → pl i ≤ 140737488355328) ∧ (∀ i, i < nf → sl i ≤ 140737488355328) ∧ fl < 256 ∧ ct < 4294967296) := ⟨ht0, b5, b6, hfl, hct⟩
  clear b1 b2 b3 b4 b5 b6 ht0 hfl hct
  go_enter Ybaf.func4, Ybaf.ntmps4
  go_upto_if 47 with fail
  obtain ⟨w1, hw1⟩ : ∃ w1, W.alloc (.cells (vals hb 32).toArray 59) = w1 := ⟨_, rfl⟩
  obtain ⟨Hb, hHb⟩ : ∃ Hb, W.heap.size = Hb := ⟨_, rfl⟩
  have hz1 : w1.heap.size = Hb + 1 := by rw [← hw1, ← hHb]; simp
  have hH1 : w1.heap[Hb]? = some (.cells (vals hb 32).toArray 59 (0, 0)) := by rw [← hw1, ← hHb]; exact heap_alloc_new W _
  have hB1 : Below Hb W w1 := by rw [← hw1, ← hHb]; exact (Below.refl _ _).alloc (Nat.le_refl _) _
  rw [hw1, hHb]
  rw [hHb] at hfs hbs hvs
  have hfs1 : Fins (Hb + 1) w1 fa nf sl := (hfs.below hB1).up (by omega)
  have hbs1 : BlkIn (Hb + 1) w1 ba nb pl := (hbs.below hB1).up (by omega)
  have hX1 : Fix F (Hb + 1) ee v0 Hb hb (.slice va nv vc) nv ta tn tc ft w1 := by
    have l0 : (0 : Nat) < Hb := by have := World.block_lt_of_cell? W _ hg0; rw [hHb] at this; exact this
    have le : ee.block < Hb := by have := World.block_lt_of_cell? W _ hee; rw [hHb] at this; exact this
    have lt : ∀ p, ta = some p → tn ≠ 0 → p.block < Hb := by
      intro p hp h0
      rcases htl with h | ⟨b, o, hpa, h⟩
      · exact absurd h h0
      · have := World.block_lt_of_cell? W _ (h 0 (by omega))
        rw [hHb] at this
        rw [hp] at hpa
        cases hpa
        exact this
    refine ⟨by rw [hB1.tape]; exact hF, by omega, (hB1.cell (p := ⟨0, 0, none⟩) l0).trans hg0, by omega, (hB1.cell le).trans hee, by omega, .inr ⟨Hb, 0, rfl, fun j hj => ?_⟩, hhb, by omega, (hvs.below hB1).up (by omega), htl.base hB1 lt, hft, htn, fun p hp h0 => by have := lt p hp h0; omega⟩
    rw [cell_of_row w1 Hb _ _ 59 (0, 0) hH1, Nat.zero_add]
    simpa using vals_at hb 32 j hj
  have HB : Hid (Below W.heap.size W w1) := by rw [hHb]; exact hB1
  have hQ1 : ∀ w', Below (Hb + 1) w1 w' → LawPost W (.returned (.bool true)) w' := fun w' h => ⟨rfl, HB.out.trans (h.mono (by omega))⟩
  clear hw1 hfs hbs hvs hg0 hee htl hft htn hF hhb hH1 hz1 hB1
  by_cases htot : (1048576 : Int) < (t0 : Int)
  · go_wp2
    go_ret
    exact hQ1 _ (Below.refl _ _)
  · have hst : L1Rel t0 nb pl w1 (.int .i64 (t0 : Int)) (.int .i64 0) w1 := ⟨0, rfl, Nat.zero_le _, rfl, by show ((t0 + 0 : Nat) : Int) ≤ 1048576; omega, rfl⟩
    have hnbI : (nb : Int) ≤ 1048576 := by have := HN.out.1; omega
    have hnfI : (nf : Int) ≤ 1048576 := by have := HN.out.1; omega
    go_upto_block 0 with fail
    go_cut [19] (fun t wx => t = .int .i64 ((t0 + psum pl nb : Nat) : Int) ∧ ((t0 + psum pl nb : Nat) : Int) ≤ 1048576 ∧ wx = w1)
    case first =>
      go_wp2
      go_loopw [19, 50] (fun t i wr => L1Rel t0 nb pl w1 t i wr) (fun t i _ => nb - (intOf i).toNat)
      case atStart => exact hst
      case round =>
        obtain ⟨k, rfl, hk, rfl, htt, hwr⟩ := hrel
        subst wr
        clear hst
        by_cases hlt : k < nb
        · rcases hbs1 with hv | ⟨b, o, rfl, hbB, hv⟩
          · omega
          obtain ⟨_, _, _, ⟨pa, pc, fp, c5, _⟩, _⟩ := hv k hlt
          obtain ⟨T, hT⟩ : ∃ T, t0 + psum pl k = T := ⟨_, rfl⟩
          obtain ⟨U, hU⟩ : ∃ U, T + pl k = U := ⟨_, rfl⟩
          rw [hT] at htt ⊢
          have j1 : (k : Int) < (nb : Int) := by omega
          have j2 : IntKind.i64.wrap ((k : Int) + 1) = (k : Int) + 1 := IntWalk.i64_in _ (by omega)
          have j3 : IntKind.i64.wrap ((T : Int) + (pl k : Int)) = (U : Int) := by
            have := HN.out.2.1 k hlt
            rw [show (T : Int) + (pl k : Int) = (U : Int) by omega]
            exact IntWalk.i64_in _ (by omega)
          have HK : Hid (k < nb ∧ t0 + psum pl (k + 1) = U) := ⟨hlt, by show t0 + (psum pl k + pl k) = U; omega⟩
          clear hT hU hlt hv hk
          by_cases hbig : (1048576 : Int) < (U : Int)
          · go_wp2
            go_ret
            exact hQ1 _ (Below.refl _ _)
          · have hrel2 : L1Rel t0 nb pl w1 (.int .i64 (U : Int)) (.int .i64 ((k + 1 : Nat) : Int)) w1 := ⟨k + 1, rfl, HK.out.1, by rw [HK.out.2], by rw [HK.out.2]; omega, rfl⟩
            clear htt
            go_wp2
            go_roundw
            case rel =>
              rw [show ((k + 1 : Nat) : Int) = (k : Int) + 1 by omega] at hrel2
              first | exact hrel2 | ((repeat apply Exists.intro); exact ⟨hrel2, rfl⟩)
            case measure =>
              have := HK.out.1
              simp [intOf]
              omega
        · obtain rfl : k = nb := by omega
          have j1 : ¬ (k : Int) < (k : Int) := by omega
          go_wp2
          go_meet
          exact ⟨rfl, htt, rfl⟩
    case rest =>
      obtain ⟨rfl, ht1, hwc⟩ := hcut
      subst hwc
      obtain ⟨t1, et1⟩ : ∃ t1, t0 + psum pl nb = t1 := ⟨_, rfl⟩
      rw [et1] at ht1 ⊢
      have HT : Hid (t0 + psum pl nb = t1) := et1
      have hst2 : L1Rel t1 nf sl wc (.int .i64 (t1 : Int)) (.int .i64 0) wc := ⟨0, rfl, Nat.zero_le _, rfl, by show ((t1 + 0 : Nat) : Int) ≤ 1048576; omega, rfl⟩
      clear et1 hst htot
      go_upto_block 2 with fail
      go_cut [19] (fun t wx => t = .int .i64 ((t1 + psum sl nf : Nat) : Int) ∧ ((t1 + psum sl nf : Nat) : Int) ≤ 1048576 ∧ wx = wc)
      case first =>
        go_wp2
        go_loopw [19, 66] (fun t i wr => L1Rel t1 nf sl wc t i wr) (fun t i _ => nf - (intOf i).toNat)
        case atStart => exact hst2
        case round =>
          obtain ⟨k, rfl, hk, rfl, htt, hwr⟩ := hrel
          subst wr
          clear hst2
          by_cases hlt : k < nf
          · rcases hfs1 with hv | ⟨b, o, rfl, hbB, hv⟩
            · omega
            obtain ⟨_, _, v, c5, ⟨va2, vc2, rfl, _⟩⟩ := hv k hlt
            obtain ⟨T, hT⟩ : ∃ T, t1 + psum sl k = T := ⟨_, rfl⟩
            obtain ⟨U, hU⟩ : ∃ U, T + sl k = U := ⟨_, rfl⟩
            rw [hT] at htt ⊢
            have j1 : (k : Int) < (nf : Int) := by omega
            have j2 : IntKind.i64.wrap ((k : Int) + 1) = (k : Int) + 1 := IntWalk.i64_in _ (by omega)
            have j3 : IntKind.i64.wrap ((T : Int) + (sl k : Int)) = (U : Int) := by
              have := HN.out.2.2.1 k hlt
              rw [show (T : Int) + (sl k : Int) = (U : Int) by omega]
              exact IntWalk.i64_in _ (by omega)
            have HK : Hid (k < nf ∧ t1 + psum sl (k + 1) = U) := ⟨hlt, by show t1 + (psum sl k + sl k) = U; omega⟩
            clear hT hU hlt hv hk
            by_cases hbig : (1048576 : Int) < (U : Int)
            · go_wp2
              go_ret
              exact hQ1 _ (Below.refl _ _)
            · have hrel2 : L1Rel t1 nf sl wc (.int .i64 (U : Int)) (.int .i64 ((k + 1 : Nat) : Int)) wc := ⟨k + 1, rfl, HK.out.1, by rw [HK.out.2], by rw [HK.out.2]; omega, rfl⟩
              clear htt
              go_wp2
              go_roundw
              case rel =>
                rw [show ((k + 1 : Nat) : Int) = (k : Int) + 1 by omega] at hrel2
                first | exact hrel2 | ((repeat apply Exists.intro); exact ⟨hrel2, rfl⟩)
              case measure =>
                have := HK.out.1
                simp [intOf]
                omega
          · obtain rfl : k = nf := by omega
            have j1 : ¬ (k : Int) < (k : Int) := by omega
            go_wp2
            go_meet
            exact ⟨rfl, htt, rfl⟩
      case rest =>
        obtain ⟨rfl, ht2, hwd⟩ := hcut
        subst hwd
        rename_i K hK
        refine hK _ _ ?_
        obtain ⟨n1, n2, n3, n4, n5⟩ := HN.out
        have n6 := HT.out
        exact law18 F (Hb + 1) ee v0 Hb hb _ nv ta tn tc ft fl ct nw pre fa nf fc sl ba nb bc pl _ _ hX1 n4 hfs1 hbs1 (by omega) n5 _ _ _ _ _ _ _ _ _ _ _ _ _ _ _ _ _ _ _ _ _ _ _ _ _ _ _ _ _ _ _ _ _ _ _ _ _ _ _ _ _ _ _ _ _ _ _ _ _ _ _ _ _ _ _ _ _ _ _ _ _ _ _ _ _ _ _ _ _ _ _ _ _ _ _ _ _ _ _ _ _ _ _ _ _ _ _ _ _ _ _ _ _ _ _ _ _ _ _ _ _ _ _ _ _ _ _ _ _ _ _ _ _ _ _ _ _ _ _ _ _ _ _ _ _ _ _ _ _ _ _ _ _ _ _ _ _ _ _ _ _ _ _ _ _ _ _ _ _ _ _ _ _ _ _ _ _ _ _ _ _ _ _ _ _ _ _ _ _ _ _ _ _ _ _ _ _ _ _ _ _ _ _ _ _ _ _ _ _ _ _ _ _ _ _ _ _ _ _ _ _ _ _ _ _ _ _ _ _ _ _ _ _ _ _ _ _ _ _ _ _ _ _ _ _ _ _ _ _ _ _ _ _ _ _ _ _ _ _ _ _ _ _ _ _ _ _ _ _ _ _ _ _ _ _ _ _ _ _ _ _ _ _ _ _ _ _ _ _ _ _ _ _ _ _ _ _ _ _ _ _ _ _ _ _ _ _ _ _ _ _ _ _ _ _ _ _ _ _ _ _ _ _ _ _ _ _ _ _ _ _ _ _ _ _ _ _ _ _ _ _ hQ1
end Go.Proofs.YbulkdlruFmt
