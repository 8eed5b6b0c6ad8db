/-
  The law's own parser: certs.
-/
import Derived.Test.YbulkdlruFmtQ
namespace Go.Proofs.YbulkdlruFmt
open Go.RowKit Go.Shelf
set_option linter.unusedVariables false
set_option linter.unusedSimpArgs false

def ints (l : List (Nat × Option Nat)) : List Value := l.map fun e => .int .i64 (e.1 : Int)
def sigs (T : Nat) (cf : Nat → Nat) (l : List (Nat × Option Nat)) : List Value := l.map fun e => sigV T cf e.2
theorem sig_elem' (T cap : Nat) (f : Nat → Nat) (N : Nat) (s : St) : sigV T (fun o => cap - o) (cElem f N s).2 = tkV T N 64 (cap - (tk N 2 s).p) (tk N 2 s) := by
  unfold cElem tkV
  by_cases h : Ok N 64 (tk N 2 s)
  · simp only [if_pos h]
    rfl
  · simp only [if_neg h]
    rfl
theorem info3 : (Ybaf.prog.info? 3).map (fun i => (i.zero, i.size, i.bytes)) = some (some (.int .i64 0), 1, 8) := by kernel_rfl
theorem info33 : (Ybaf.prog.info? 33).map (fun i => (i.zero, i.size, i.bytes)) = some (some (.slice none 0 0), 1, 24) := by kernel_rfl

/-- The two rows of a certificate's words. -/
def TwoRows (w : World) (B T : Nat) (cf : Nat → Nat) (l : List (Nat × Option Nat)) (v5 v6 : Value) : Prop :=
  ∃ ga gc gb gd, v5 = .slice ga l.length gc ∧ v6 = .slice gb l.length gd ∧ w.ownsRow B 3 1 (.slice ga l.length gc) l.length (ints l) ∧ w.ownsRow B 33 1 (.slice gb l.length gd) l.length (sigs T cf l)
/-- The loop's state. -/
def CRel (M T N cap : Nat) (f : Nat → Nat) (s0 : St) (W : World) (v5 v6 i : Value) (wr : World) : Prop :=
  ∃ k : Nat, i = .int .i64 (k : Int) ∧ k ≤ cnt f N 256 s0 ∧ TwoRows wr W.heap.size T (fun o => cap - o) (cList f N (cntS f N 256 s0) k) v5 v6 ∧ Md M T N cap (cSt N (cntS f N 256 s0) k) wr ∧ Same [M] W wr
/-- What certs comes to. -/
def CertsSaid (M T N cap : Nat) (f : Nat → Nat) (s : St) (W : World) (e : Ending) (w' : World) : Prop :=
  ∃ v5 v6, e = .returned (.tuple #[v5, v6]) ∧ TwoRows w' W.heap.size T (fun o => cap - o) (cList f N (cntS f N 256 s) (cnt f N 256 s)) v5 v6 ∧ Md M T N cap (cSt N (cntS f N 256 s) (cnt f N 256 s)) w' ∧ Same [M] W w'

set_option maxRecDepth 100000 in
set_option maxHeartbeats 2000000 in
theorem mcerts (M T N cap : Nat) (f : Nat → Nat) (s : St) (W : World) (h : Md M T N cap s W) (hN : N ≤ cap) (hN2 : (N : Int) ≤ 200000000) (hT : Row W T N f) (hf : ∀ i, f i < 256) (hMT : M ≠ T) :
    Calls Ybaf.prog 30 #[.pointer (some ⟨M, 0, none⟩)] W (CertsSaid M T N cap f s W) := by
  have hct := mcount M T N cap 256 f s W h (by omega) hN hN2 hT hf hMT
  obtain ⟨i0, hi, hz0, hz1, hz2⟩ := info_parts info3
  obtain ⟨i3, hi3, hz30, hz31, hz32⟩ := info_parts info33
  have hMl := (Array.getElem?_eq_some_iff.1 h.2).1
  go_enter Ybaf.func30, Ybaf.ntmps30
  go_wp2_with (go_at_call 25; refine hct.mono ?_; rintro e w1 ⟨rfl, h1, hs1⟩)
  have hst : CRel M T N cap f s W (.slice none 0 0) (.slice none 0 0) (.int .i64 0) w1 := ⟨0, rfl, Nat.zero_le _, ⟨none, 0, none, 0, rfl, rfl, World.ownsRow_nil _ _ _ _, World.ownsRow_nil _ _ _ _⟩, h1, hs1⟩
  obtain ⟨c, ec⟩ : ∃ c, cnt f N 256 s = c := ⟨_, rfl⟩
  have hc256 : c ≤ 256 := by rw [← ec]; exact cnt_le _ _ _ _
  rw [ec]
  have hcI : (c : Int) ≤ 256 := by omega
  clear hct h1 h hs1
  go_loopw [5, 6, 7] (fun v5 v6 i wr => CRel M T N cap f s W v5 v6 i wr) (fun _ _ i _ => c - (intOf i).toNat)
  case atStart => exact hst
  case round =>
    obtain ⟨k, rfl, hk, ⟨ga, gc, gb, gd, rfl, rfl, hr3, hr33⟩, hmd, hsm⟩ := hrel
    rw [ec] at hk
    by_cases hlt : k < c
    · have i1 : (k : Int) < (c : Int) := by omega
      have i3' : IntKind.i64.wrap ((k : Int) + 1) = (k : Int) + 1 := IntWalk.i64_in _ (by omega)
      have hTr := hT.same hsm (by simp; omega)
      obtain ⟨sk, esk⟩ : ∃ sk, cSt N (cntS f N 256 s) k = sk := ⟨_, rfl⟩
      obtain ⟨l, el⟩ : ∃ l, cList f N (cntS f N 256 s) k = l := ⟨_, rfl⟩
      have hll : l.length = k := by rw [← el]; exact cList_length _ _ _ _
      rw [esk] at hmd
      rw [el] at hr3 hr33 ⊢
      have hnm := mnum M T N cap 2 f sk wr hmd (by omega) (by omega) hN hN2 hTr hf hMT
      have hnl := num_lt f N 2 sk hf
      obtain ⟨x, hx⟩ : ∃ x, num f N 2 sk = x := ⟨_, rfl⟩
      rw [hx] at hnm hnl
      have i4 : IntKind.i64.wrap (x : Int) = (x : Int) := IntWalk.i64_in _ (by omega)
      have hMr := hmd.2
      have HK : Hid (k < c ∧ k ≤ 256 ∧ cnt f N 256 s = c ∧ num f N 2 sk = x ∧ cSt N (cntS f N 256 s) k = sk ∧ cList f N (cntS f N 256 s) k = l ∧ l.length = k) := ⟨hlt, by omega, ec, hx, esk, el, hll⟩
      rw [hll] at hr3 hr33 ⊢
      have HN : Hid (N ≤ cap ∧ (N : Int) ≤ 200000000) := ⟨hN, hN2⟩
      clear hk hlt hst hc256 hcI hN hN2 hnl hx esk el hll ec
      go_wp2_with fail
      refine hnm.mono ?_
      rintro e w2 ⟨rfl, h2, hs2⟩
      have htk := mtake M T N cap 64 (tk N 2 sk) w2 h2 (by omega) (by omega) HN.out.1 HN.out.2
      obtain ⟨va, vm, vc, hv⟩ := tkV_slice T N 64 (cap - (tk N 2 sk).p) (tk N 2 sk)
      rw [hv] at htk
      clear hnm
      go_upto_region 9 with (go_at_call 29; refine htk.mono ?_; rintro e w3 ⟨rfl, h3, hs3⟩)
      have hs23 : Same [M] wr w3 := hs2.trans hs3
      have r3 := own_same' hr3 hs23 (apart_one hMr (by omega))
      have r33 := own_same' hr33 hs23 (apart_one hMr (by omega))
      clear htk hr3 hr33 hmd
      go_upto_region 10 with (at_builtin; refine wpList_append_own _ rfl (.tmp 22) (.tmp 24) 142 rfl W.heap.size 3 i0 (.int .i64 0) 1 8 Ybaf.underlying142 hi hz0 hz1 hz2 rfl (by omega) (.slice ga k gc) k (ints l) rfl (r3.alloc _) ⟨w3.heap.size, 0, none⟩ 1 1 [.int .i64 (x : Int)] rfl rfl (new_cells w3 [.int .i64 (x : Int)] 3) (fun u hu => by rw [List.mem_singleton.1 hu]; rfl) (by have := HK.out; unfold maxLen; omega) (by have := HK.out; omega) (by have := hsm.size; have := hs23.size; simp; omega) ?_; intro v' w4 hown4 hgrow4 hnil4)
      obtain ⟨ga2, gc2, hv4⟩ := own_slice hown4
      subst hv4
      have hs34 : Same [] w3 (w3.alloc (.cells #[.int .i64 (x : Int)] 3)) := Same.alloc _ _ _
      have r3a := r3.alloc (.cells #[.int .i64 (x : Int)] 3)
      have h8 := grown_same r3a hgrow4
      have r33b := own_same' (r33.alloc (.cells #[.int .i64 (x : Int)] 3)) h8 (apart_row r3a (by omega))
      have hM3 := h3.2
      have hM3a := (hs34.block M (Array.getElem?_eq_some_iff.1 hM3).1 (by simp)).trans hM3
      have h4 : Md M T N cap (tk N 64 (tk N 2 sk)) w4 := (h3.same hs34 (by simp)).same h8 (apart_row r3a (by omega : 133 ≠ 3) M _ hM3a)
      have hs4 : Same [M] W w4 := (((hsm.trans hs23).trans (hs34.more (by simp))).shed h8 (fun j hj => .inr (row_ge r3 j hj)))
      clear hgrow4 hnil4
      go_wp2_with (at_builtin; refine wpList_append_own _ rfl (.tmp 26) (.tmp 28) 143 rfl W.heap.size 33 i3 (.slice none 0 0) 1 24 Ybaf.underlying143 hi3 hz30 hz31 hz32 rfl (by omega) (.slice gb k gd) k (sigs T (fun o => cap - o) l) rfl (r33b.alloc _) ⟨w4.heap.size, 0, none⟩ 1 1 [.slice va vm vc] rfl rfl (new_cells w4 [.slice va vm vc] 33) (fun u hu => by rw [List.mem_singleton.1 hu]; rfl) (by have := HK.out; unfold maxLen; omega) (by have := HK.out; omega) (by have := hs4.size; simp; omega) ?_; intro v' w5 hown5 hgrow5 hnil5)
      obtain ⟨gb2, gd2, hv5⟩ := own_slice hown5
      subst hv5
      have hs45 : Same [] w4 (w4.alloc (.cells #[.slice va vm vc] 33)) := Same.alloc _ _ _
      have r33c := r33b.alloc (.cells #[.slice va vm vc] 33)
      have h9 := grown_same r33c hgrow5
      have hM4a := (hs45.block M (Array.getElem?_eq_some_iff.1 h4.2).1 (by simp)).trans h4.2
      have h5 : Md M T N cap (tk N 64 (tk N 2 sk)) w5 := (h4.same hs45 (by simp)).same h9 (apart_row r33c (by omega : 133 ≠ 33) M _ hM4a)
      have r5 := own_same' (hown4.alloc (.cells #[.slice va vm vc] 33)) h9 (apart_row r33c (by omega))
      have hs5 : Same [M] W w5 := ((hs4.trans (hs45.more (by simp))).shed h9 (fun j hj => .inr (row_ge r33 j hj)))
      have hrel5 : CRel M T N cap f s W (.slice ga2 (k + 1) gc2) (.slice gb2 (k + 1) gd2) (.int .i64 ((k + 1 : Nat) : Int)) w5 := by
        obtain ⟨k1, k2, k3, k4, k5, k6, k7⟩ := HK.out
        have hl2 : cList f N (cntS f N 256 s) (k + 1) = l ++ [cElem f N sk] := by simp only [cList, k5, k6]
        refine ⟨k + 1, rfl, by rw [k3]; omega, ?_, by show Md M T N cap (tk N 64 (tk N 2 (cSt N (cntS f N 256 s) k))) w5; rw [k5]; exact h5, hs5⟩
        rw [hl2]
        refine ⟨ga2, gc2, gb2, gd2, by simp [k7], by simp [k7], ?_, ?_⟩
        · have e1 : ints (l ++ [cElem f N sk]) = ints l ++ [.int .i64 (x : Int)] := by simp [ints, cElem, k4]
          rw [e1, show (l ++ [cElem f N sk]).length = k + 1 by simp [k7]]
          exact r5
        · have e1 : sigs T (fun o => cap - o) (l ++ [cElem f N sk]) = sigs T (fun o => cap - o) l ++ [.slice va vm vc] := by
            simp only [sigs, List.map_append, List.map_cons, List.map_nil]
            rw [sig_elem' T cap f N sk, hv]
          rw [e1, show (l ++ [cElem f N sk]).length = k + 1 by simp [k7]]
          exact hown5
      clear hown5 hgrow5 hnil5 hown4 h5 r5 hs5 h9 hM4a r33c hs45 h4 hs4 r33b r3a h8 hM3 hM3a
      go_roundw
      case rel =>
        rw [show ((k + 1 : Nat) : Int) = (k : Int) + 1 by omega] at hrel5
        first | exact hrel5 | ((repeat apply Exists.intro); exact ⟨hrel5, rfl⟩)
      case measure =>
        have := HK.out
        simp [intOf]
        omega
    · have hkc : k = c := by omega
      subst hkc
      have i1 : ¬ (k : Int) < (k : Int) := by omega
      have HE : Hid (cnt f N 256 s = k) := ec
      have HR : Hid (TwoRows wr W.heap.size T (fun o => cap - o) (cList f N (cntS f N 256 s) k) (.slice ga (cList f N (cntS f N 256 s) k).length gc) (.slice gb (cList f N (cntS f N 256 s) k).length gd)) := ⟨ga, gc, gb, gd, rfl, rfl, hr3, hr33⟩
      clear ec hst hr3 hr33
      go_wp2
      first | go_ret2 | skip
      unfold CertsSaid
      rw [HE.out]
      exact ⟨_, _, rfl, HR.out, hmd, hsm⟩
end Go.Proofs.YbulkdlruFmt
