/-
  The law's own parser: count, hash.
-/
import Derived.Test.YbulkdlruFmtP
namespace Go.Proofs.YbulkdlruFmt
open Go.RowKit Go.Shelf
set_option linter.unusedVariables false
set_option linter.unusedSimpArgs false

set_option maxHeartbeats 1000000 in
theorem mcount (M T N cap limit : Nat) (f : Nat → Nat) (s : St) (W : World) (h : Md M T N cap s W) (hl : limit ≤ 256) (hN : N ≤ cap) (hN2 : (N : Int) ≤ 200000000) (hT : Row W T N f) (hf : ∀ i, f i < 256) (hMT : M ≠ T) :
    Calls Ybaf.prog 25 #[.pointer (some ⟨M, 0, none⟩), .int .i64 (limit : Int)] W fun e w' => e = .returned (.int .i64 (cnt f N limit s : Nat)) ∧ Md M T N cap (cntS f N limit s) w' ∧ Same [M] W w' := by
  have hu := mnum M T N cap 2 f s W h (by omega) (by omega) hN hN2 hT hf hMT
  have hlt := num_lt f N 2 s hf
  obtain ⟨x, hx⟩ : ∃ x, num f N 2 s = x := ⟨_, rfl⟩
  unfold cnt cntS
  rw [hx] at hu hlt ⊢
  have i2 : IntKind.i64.wrap (x : Int) = (x : Int) := IntWalk.i64_in _ (by omega)
  by_cases hle : x ≤ limit
  · rw [if_pos hle, if_pos hle]
    have i3 : ¬ (limit : Int) < (x : Int) := by omega
    have i4 : decide ((limit : Int) < (x : Int)) = false := decide_eq_false i3
    clear hlt hx hl hle hf h hT
    go_enter Ybaf.func25, Ybaf.ntmps25
    go_wp2_with (go_at_call 27; refine hu.mono ?_; rintro e w1 ⟨rfl, h1, hs1⟩)
    go_ret
    exact ⟨rfl, h1, hs1⟩
  · rw [if_neg hle, if_neg hle]
    have i3 : (limit : Int) < (x : Int) := by omega
    clear hlt hx hl hle hf h hT
    go_enter Ybaf.func25, Ybaf.ntmps25
    go_wp2_with (go_at_call 27; refine hu.mono ?_; rintro e w1 ⟨rfl, h1, hs1⟩)
    refine (other_any M T N cap _ w1 h1).mono ?_
    rintro e w2 ⟨rfl, h2, hs2⟩
    go_wp2
    go_ret
    exact ⟨rfl, h2, hs1.trans hs2⟩

theorem HashAt.cell {w : World} {g : Nat} {h : Nat → Nat} (hh : HashAt w g h) {o : Nat} (ho : o < 32) : w.cell? ⟨g, o, none⟩ = some (.int .u8 (h o : Int)) := by
  have := hh.cells o _ (vals_at h 32 o ho)
  rwa [Addr.add_mid, Nat.zero_add] at this
theorem HashAt.frozen {w : World} {g : Nat} {h : Nat → Nat} (hh : HashAt w g h) (o : Nat) : w.frozen? ⟨g, o, none⟩ = false := frozen_of_row w g o _ 60 hh
theorem hash_set {w : World} {g k x : Nat} {h h' : Nat → Nat} (hh : HashAt w g h) (hk : k < 32) (he : ∀ i, i < 32 → h' i = if i = k then x else h i) : HashAt (w.setCell ⟨g, k, none⟩ (.int .u8 (x : Int))) g h' := by
  unfold HashAt
  rw [heap_setCell_same w g k _ 60 _ hh]
  congr 2
  unfold H32
  apply Array.ext'
  simp only [List.setIfInBounds_toArray]
  apply List.ext_getElem?
  intro i
  rw [List.getElem?_set]
  by_cases hi : i < 32
  · by_cases hik : k = i
    · subst hik
      rw [if_pos rfl, if_pos (by rw [length_vals]; omega), vals_at h' 32 k hi, he k hi, if_pos rfl]
    · rw [if_neg hik, vals_at h 32 i hi, vals_at h' 32 i hi, he i hi, if_neg (fun e => hik e.symm)]
  · have : (vals h 32).length = 32 := length_vals _ _
    have h2 : (vals h' 32).length = 32 := length_vals _ _
    rw [if_neg (by omega), List.getElem?_eq_none (by omega), List.getElem?_eq_none (by omega)]

set_option maxRecDepth 100000 in
set_option maxHeartbeats 2000000 in
theorem mhash (M T N cap : Nat) (f : Nat → Nat) (s : St) (W : World) (h : Md M T N cap s W) (hN : N ≤ cap) (hN2 : (N : Int) ≤ 200000000) (hT : Row W T N f) (hf : ∀ i, f i < 256) (hMT : M ≠ T) :
    Calls Ybaf.prog 26 #[.pointer (some ⟨M, 0, none⟩)] W fun e w' => e = .returned (.agg (H32 (hsh f N s))) ∧ Md M T N cap (tk N 32 s) w' ∧ Same [M] W w' := by
  have hMl := (Array.getElem?_eq_some_iff.1 h.2).1
  have hTl := hT.lt
  go_enter Ybaf.func26, Ybaf.ntmps26
  go_upto_region 2 with fail
  rw [zero32]
  obtain ⟨W1, hW1⟩ : ∃ W1, W.alloc (.cells (H32 fun _ => 0) 60) = W1 := ⟨_, rfl⟩
  have hz1 : W1.heap.size = W.heap.size + 1 := by rw [← hW1]; simp
  rw [hW1]
  have hs1 : Same [] W W1 := by rw [← hW1]; exact Same.alloc _ _ _
  have g1 : HashAt W1 W.heap.size (fun _ => 0) := by rw [← hW1]; exact heap_alloc_new W _
  obtain ⟨W2, hW2⟩ : ∃ W2, W1.alloc (.cells (H32 fun _ => 0) 60) = W2 := ⟨_, rfl⟩
  rw [hW2]
  have hs2 : Same [] W W2 := by rw [← hW2]; exact hs1.trans (Same.alloc _ _ _)
  have g2 : HashAt W2 (W.heap.size + 1) (fun _ => 0) := by rw [← hW2, ← hz1]; exact heap_alloc_new W1 _
  have g1' : HashAt W2 W.heap.size (fun _ => 0) := by rw [← hW2]; exact (Below.heap_alloc W1 _ _ (by omega)).trans g1
  have hz2 : W2.heap.size = W.heap.size + 2 := by rw [← hW2]; simp; omega
  have htk := mtake M T N cap 32 s W2 (h.same hs2 (by simp)) (by omega) (by omega) hN hN2
  obtain ⟨G, hG⟩ : ∃ G, W.heap.size = G := ⟨_, rfl⟩
  rw [hG] at g2 g1' hz2 hMl hTl ⊢
  have HG : Hid (W.heap.size = G) := hG
  clear hW1 hW2 hs1 g1 hz1 hG
  go_cut [4] (fun v w3 => v = tkV T N 32 (cap - s.p) s ∧ Md M T N cap (tk N 32 s) w3 ∧ Same [M] W2 w3)
  case first =>
    obtain ⟨va, vm, vc, hv⟩ := tkV_slice T N 32 (cap - s.p) s
    rw [hv] at htk
    go_wp2_with (go_at_call 29; refine htk.mono ?_; rintro e w3 ⟨rfl, h3, hs3⟩)
    go_meet
    exact ⟨hv.symm, h3, hs3⟩
  case rest =>
    obtain ⟨hv, h3, hs3⟩ := hcut
    have g13 : HashAt wc G (fun _ => 0) := (hs3.block G (by omega) (by simp; omega)).trans g1'
    have g23 : HashAt wc (G + 1) (fun _ => 0) := (hs3.block (G + 1) (by omega) (by simp; omega)).trans g2
    have hT3 := (hT.same hs2 (by simp)).same hs3 (by simp; omega)
    have hs13 : Same [M] W wc := (hs2.more (by simp)).trans hs3
    have hfin : ∀ (w9 : World), HashAt w9 (G + 1) (hsh f N s) → Same [G + 1] wc w9 → ∃ w10 : World, w10 = w9.setRow G (H32 (hsh f N s)) ∧ HashAt w10 G (hsh f N s) ∧ Md M T N cap (tk N 32 s) w10 ∧ Same [M] W w10 := by
      intro w9 k1 k2
      have k3 : HashAt w9 G (fun _ => 0) := (k2.block G (by have := hs3.size; omega) (by simp)).trans g13
      refine ⟨_, rfl, setRow_heap w9 G _ _ 60 _ k3, (h3.same k2 (by simp; omega)).same (same_setRow w9 G _) (by simp; omega), ?_⟩
      have hz := HG.out
      exact (hs13.shed k2 (by simp; omega)).shed (same_setRow w9 G _) (by simp; omega)
    by_cases hok : Ok N 32 s
    · have hV : tkV T N 32 (cap - s.p) s = .slice (some ⟨T, s.p, none⟩) 32 (cap - s.p) := by unfold tkV; rw [if_pos hok]
      rw [hV] at hv
      subst hv
      have HO : Hid (Ok N 32 s) := hok
      have hhs : hsh f N s = fun i => f (s.p + i) := by unfold hsh; rw [if_pos hok]
      obtain ⟨cq, hcq⟩ : ∃ cq, cap - s.p = cq := ⟨_, rfl⟩
      rw [hcq]
      clear htk hV hok hcq g1' g2 h hT hN hN2 hs2 hs13
      go_wp2
      go_loopw [5] (fun i wr => ∃ k : Nat, k ≤ 32 ∧ i = .int .i64 (k : Int) ∧ HashAt wr (G + 1) (fun j => if j < k then f (s.p + j) else 0) ∧ Same [G + 1] wc wr) (fun i _ => 32 - (intOf i).toNat)
      case atStart => exact ⟨0, by omega, rfl, g23, Same.refl _ _⟩
      case round =>
        obtain ⟨k, hk, rfl, hh, hsm⟩ := hrel
        by_cases hlt : k < 32
        · have i1 : (k : Int) < 32 := by omega
          have i2 : (0 : Int) ≤ (k : Int) := by omega
          have i3 : IntKind.i64.wrap ((k : Int) + 1) = (k : Int) + 1 := IntWalk.i64_in _ (by omega)
          have hcT := (hT3.same hsm (by simp; omega)).cell (i := s.p + k) (by have := HO.out.2; omega)
          have hcH := hh.cell hlt
          have hcF := hh.frozen k
          obtain ⟨y, hy⟩ : ∃ y, f (s.p + k) = y := ⟨_, rfl⟩
          rw [hy] at hcT
          have hh2 : HashAt (wr.setCell ⟨G + 1, k, none⟩ (.int .u8 (y : Int))) (G + 1) (fun j => if j < k + 1 then f (s.p + j) else 0) := hash_set hh hlt (fun i hi => by
            by_cases hik : i = k
            · subst hik; rw [if_pos (by omega), if_pos rfl, hy]
            · rw [if_neg hik]
              by_cases h4 : i < k
              · rw [if_pos h4, if_pos (by omega)]
              · rw [if_neg h4, if_neg (by omega)])
          have hsm2 : Same [G + 1] wc (wr.setCell ⟨G + 1, k, none⟩ (.int .u8 (y : Int))) := hsm.trans (Same.setCell _ _ _ _ (by simp))
          have HK : Hid (k < 32) := hlt
          clear hy hh hsm hk hlt hf hfin hhs
          go_wp2
          exact ⟨⟨k + 1, by have := HK.out; omega, by go_num, hh2, hsm2⟩, by have := HK.out; simp [intOf]; omega⟩
        · have hk32 : k = 32 := by omega
          subst hk32
          have KK : HashAt wr (G + 1) (hsh f N s) := by
            rw [hhs]
            unfold HashAt at hh ⊢
            rw [hh]
            unfold H32
            rw [vals_congr (fun i hi => if_pos hi)]
          have KS := hsm
          have KG : HashAt wr G (fun _ => 0) := (hsm.block G (by have := hs3.size; omega) (by simp)).trans g13
          clear hh hsm hk hlt hf hhs
          go_wp2_with (first
            | (refine wpList_load_wide wide60 rfl (.tmp 3) rfl ⟨G + 1, 0, none⟩ rfl (vals (hsh f N s) 32) (length_vals _ _) KK.cells ?_)
            | (refine wpList_store_wide wide60 rfl (.tmp 2) (.tmp 20) rfl rfl G 0 rfl (vals (hsh f N s) 32) rfl (length_vals _ _) (H32 fun _ => 0) 60 KG (by rw [H32_size]; omega) (vals_one _ _) ?_))
          have e1 : ((H32 fun _ => 0).toList.take 0 ++ vals (hsh f N s) 32 ++ (H32 fun _ => 0).toList.drop (0 + 32)).toArray = H32 (hsh f N s) := by
            simp [H32, List.drop_eq_nil_of_le, length_vals]
          rw [e1]
          obtain ⟨w10, hw10, k1, k2, k3⟩ := hfin _ KK KS
          rw [← hw10]
          exact bodyPost_ret (results_hash Ybaf.results26 _ _ G (hsh f N s) rfl k1) rfl ⟨rfl, k2, k3⟩
    · have hV : tkV T N 32 (cap - s.p) s = .slice none 0 0 := by unfold tkV; rw [if_neg hok]
      rw [hV] at hv
      subst hv
      have hhs : hsh f N s = fun _ => 0 := by unfold hsh; rw [if_neg hok]
      have KK : HashAt wc (G + 1) (hsh f N s) := by rw [hhs]; exact g23
      have KS := Same.refl [G + 1] wc
      have KG := g13
      clear htk hV hok g1' g2 h hT hN hN2 hs2 hs13 hhs
      go_wp2
      refine wp_loop_rounds 1 ?_; rw [rounds_succ]
      go_wp2_with (first
        | (refine wpList_load_wide wide60 rfl (.tmp 3) rfl ⟨G + 1, 0, none⟩ rfl (vals (hsh f N s) 32) (length_vals _ _) KK.cells ?_)
        | (refine wpList_store_wide wide60 rfl (.tmp 2) (.tmp 20) rfl rfl G 0 rfl (vals (hsh f N s) 32) rfl (length_vals _ _) (H32 fun _ => 0) 60 KG (by rw [H32_size]; omega) (vals_one _ _) ?_))
      have e1 : ((H32 fun _ => 0).toList.take 0 ++ vals (hsh f N s) 32 ++ (H32 fun _ => 0).toList.drop (0 + 32)).toArray = H32 (hsh f N s) := by
        simp [H32, List.drop_eq_nil_of_le, length_vals]
      rw [e1]
      obtain ⟨w10, hw10, k1, k2, k3⟩ := hfin _ KK KS
      rw [← hw10]
      exact bodyPost_ret (results_hash Ybaf.results26 _ _ G (hsh f N s) rfl k1) rfl ⟨rfl, k2, k3⟩
end Go.Proofs.YbulkdlruFmt
