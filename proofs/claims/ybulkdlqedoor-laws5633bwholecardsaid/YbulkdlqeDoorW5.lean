/-
  THE WALK OF THE LAW.
-/
import Derived.Test.YbulkdlqeDoorHop
import Derived.Test.YbulkdlqeDoorPlain
namespace Go.Proofs.YbulkdlqeDoor
open Go.RowKit

set_option maxRecDepth 100000 in
set_option maxHeartbeats 400000 in
theorem law_big (a0 a1 a2 a3 a4 a5 : Int) (a6 a7 : Option Addr) (len6 cap6 len7 cap7 : Nat) (w : World) (h6 : len6 ≤ 140737488351232) (h7 : len7 ≤ 140737488351232) (hbig : 1048576 < len6 + len7) :
    Calls Ybad.prog 3 #[.int .u8 a0, .int .u8 a1, .int .u8 a2, .int .u32 a3, .int .u8 a4, .int .u32 a5, .slice a6 len6 cap6, .slice a7 len7 cap7] w fun e w' => e = .returned (.bool true) ∧ w' = w := by
  go_enter Ybad.func3, Ybad.ntmps3
  go_wp2
  go_ret
  exact ⟨rfl, rfl⟩

/-- After k rounds of the first loop. -/
def F1 (B : Nat → Int) (k i : Nat) : Int := if i < k then B i else 0
theorem F1_succ (B : Nat → Int) (k i : Nat) : F1 B (k + 1) i = if i = k then B k else F1 B k i := by
  unfold F1
  by_cases h : i = k
  · subst h; simp
  · rw [if_neg h]
    by_cases h2 : i < k
    · rw [if_pos h2, if_pos (by omega)]
    · rw [if_neg h2, if_neg (by omega)]
/-- Behind the header's four stores and k rounds of the second loop. -/
def F2 (B : Nat → Int) (n lo s1 s2 s3 k i : Nat) : Int :=
  if i < n then B i else if i = n then lo else if i = n + 1 then s1 else if i = n + 2 then s2 else if i = n + 3 then s3 else if i < n + 4 + k then B i else 0
theorem F2_zero (B : Nat → Int) (n lo s1 s2 s3 i : Nat) :
    F2 B n lo s1 s2 s3 0 i = if i = n + 3 then (s3 : Int) else if i = n + 2 then s2 else if i = n + 1 then s1 else if i = n then lo else F1 B n i := by
  unfold F2 F1
  repeat' split
  all_goals first | rfl | omega
theorem F2_succ (B : Nat → Int) (n lo s1 s2 s3 k i : Nat) : F2 B n lo s1 s2 s3 (k + 1) i = if i = n + 4 + k then B (n + 4 + k) else F2 B n lo s1 s2 s3 k i := by
  unfold F2
  by_cases h : i = n + 4 + k
  · subst h
    rw [if_pos rfl, if_neg (by omega), if_neg (by omega), if_neg (by omega), if_neg (by omega), if_neg (by omega), if_pos (by omega)]
  · rw [if_neg h]
    repeat' split
    all_goals first | rfl | omega

/-- The hop, whole. -/
def F3 (B fT : Nat → Int) (n lo s1 s2 s3 m i : Nat) : Int := if n + 4 + lo * 4 ≤ i ∧ i < n + 4 + lo * 4 + m then fT (i - (n + 4 + lo * 4)) else F2 B n lo s1 s2 s3 (lo * 4) i
theorem F3_0 (B fT : Nat → Int) (n lo s1 s2 s3 m : Nat) : F3 B fT n lo s1 s2 s3 m n = lo := by
  unfold F3 F2
  rw [if_neg (by omega), if_neg (by omega), if_pos rfl]
theorem F3_1 (B fT : Nat → Int) (n lo s1 s2 s3 m : Nat) : F3 B fT n lo s1 s2 s3 m (n + 1) = s1 := by
  unfold F3 F2
  rw [if_neg (by omega), if_neg (by omega), if_neg (by omega), if_pos rfl]
theorem F3_2 (B fT : Nat → Int) (n lo s1 s2 s3 m : Nat) : F3 B fT n lo s1 s2 s3 m (n + 2) = s2 := by
  unfold F3 F2
  rw [if_neg (by omega), if_neg (by omega), if_neg (by omega), if_neg (by omega), if_pos rfl]
theorem F3_3 (B fT : Nat → Int) (n lo s1 s2 s3 m : Nat) : F3 B fT n lo s1 s2 s3 m (n + 3) = s3 := by
  unfold F3 F2
  rw [if_neg (by omega), if_neg (by omega), if_neg (by omega), if_neg (by omega), if_neg (by omega), if_pos rfl]
theorem F3_data (B fT : Nat → Int) (n lo s1 s2 s3 m j : Nat) (h : j < lo * 4) : F3 B fT n lo s1 s2 s3 m (n + 4 + j) = B (n + 4 + j) := by
  unfold F3 F2
  rw [if_neg (by omega), if_neg (by omega), if_neg (by omega), if_neg (by omega), if_neg (by omega), if_neg (by omega), if_pos (by omega)]

set_option maxRecDepth 100000 in
set_option maxHeartbeats 1000000 in
theorem law_small (nl fl rm ty lo sc : Nat) (a6 a7 : Option Addr) (len6 cap6 len7 cap7 : Nat) (fB fT : Nat → Int) (f : Value) (w : World)
    (hnl : nl < 256) (hlo : lo < 256) (hty : ty < 4294967296) (hsc : sc < 4294967296) (hsm : len6 + len7 ≤ 1048576)
    (b6 : Bytes w a6 len6 fB) (b7 : Bytes w a7 len7 fT) (n7 : a7 = none → len7 = 0 ∧ cap7 = 0)
    (h0 : w.cell? ⟨0, 0, none⟩ = some (.int .u64 24)) (h1 : w.cell? ⟨0, 1, none⟩ = some f) :
    Calls Ybad.prog 3 #[.int .u8 nl, .int .u8 fl, .int .u8 rm, .int .u32 ty, .int .u8 lo, .int .u32 sc, .slice a6 len6 cap6, .slice a7 len7 cap7] w fun e w' => e = .returned (.bool true) ∧ Below w.heap.size w w' := by
  obtain ⟨i0, hi, hz0, hz1, hz2⟩ := info_parts Ybad.info5
  have hd : decide ((1048576 : Int) < (len6 : Int) + (len7 : Int)) = false := decide_eq_false (by omega)
  go_enter Ybad.func3, Ybad.ntmps3
  go_wp2_with (at_make; refine wpList_make_full _ rfl _ _ 23 rfl (w.heap.size + 1) 5 i0 (.int .u8 0) 1 Ybad.underlying23 hi hz0 hz1 .i64 .i64 _ _ (nl * 4 + 4 + lo * 4 + len7) rfl rfl (by omega) (by omega) (by rw [hz2]; omega) (by simp [maxLen]; omega) (by simp) ?_)
  intro w1 hown hgrow
  have hop := Hop.of_made hown
  have hb1 : Below (w.heap.size + 1) _ w1 := (Below.refl _ _).grown hgrow (by simp) (fun k hk => by cases hk)
  clear hown hgrow hi hz0 hz1 hz2
  obtain ⟨W, hW⟩ : ∃ W, W = w.alloc (Obj.cells #[.int .u8 nl, .int .u8 fl, .int .u8 rm, .int .u32 ty, .slice none 0 0] 25) := ⟨_, rfl⟩
  rw [← hW] at hb1
  have HW : Hid (W = w.alloc (Obj.cells #[.int .u8 nl, .int .u8 fl, .int .u8 rm, .int .u32 ty, .slice none 0 0] 25)) := hW
  clear hW
  have hWs : W.heap.size = w.heap.size + 1 := by rw [HW.out]; simp
  have bW : Below w.heap.size w W := by rw [HW.out]; exact (Below.refl _ _).alloc (Nat.le_refl _) _
  go_wp2
  go_loopw [21] (fun i wr => ∃ k : Nat, k ≤ nl * 4 ∧ i = .int .i64 k ∧ Hop wr (w.heap.size + 1) (nl * 4 + 4 + lo * 4 + len7) (F1 (bb fB len6) k) ∧ Below (w.heap.size + 1) W wr) (fun i _ => nl * 4 - (intOf i).toNat)
  case atStart => exact ⟨0, Nat.zero_le _, rfl, hop, hb1⟩
  case round =>
    obtain ⟨k, hk, rfl, hop, hb1⟩ := hrel
    have bk : Bytes wr a6 len6 fB := (b6.below bW (Nat.le_refl _)).below hb1 (by omega)
    by_cases hlt : k < nl * 4
    · have hcl := hop.cell (i := k) (by omega)
      have hfr := hop.frozen k
      have i1 : (0 : Int) ≤ (k : Int) := by omega
      have i2 : (k : Int) < ((nl * 4 + 4 + lo * 4 + len7 : Nat) : Int) := by omega
      go_wp2_with (go_at_call 4; refine (byte_any a6 len6 cap6 k fB _ (by omega) (by omega) bk).mono ?_; rintro e w' ⟨rfl, rfl⟩)
      go_roundw
      case rel => exact ⟨k + 1, by omega, by go_num, hop.set k _ (fun i _ => F1_succ _ k i), hb1.setCell (by simp) _⟩
      case measure => simp [intOf]; omega
    · have HK : Hid (k = nl * 4) := by show _ = _; omega
      rw [HK.out] at hop
      have c0 := hop.cell (i := nl * 4) (by omega)
      have c1 := hop.cell (i := nl * 4 + 1) (by omega)
      have c2 := hop.cell (i := nl * 4 + 2) (by omega)
      have c3 := hop.cell (i := nl * 4 + 3) (by omega)
      have f0 := hop.frozen (nl * 4)
      have f1 := hop.frozen (nl * 4 + 1)
      have f2 := hop.frozen (nl * 4 + 2)
      have f3 := hop.frozen (nl * 4 + 3)
      have i0 : (0 : Int) ≤ (nl : Int) * 4 := by omega
      have i3 : (nl : Int) * 4 + 3 < ((nl * 4 + 4 + lo * 4 + len7 : Nat) : Int) := by omega
      have hop2 : Hop ((((wr.setCell ⟨w.heap.size + 1, nl * 4, none⟩ (.int .u8 (lo : Int))).setCell ⟨w.heap.size + 1, nl * 4 + 1, none⟩ (.int .u8 ((sc : Int) / 65536 % 256))).setCell ⟨w.heap.size + 1, nl * 4 + 2, none⟩ (.int .u8 ((sc : Int) / 256 % 256))).setCell ⟨w.heap.size + 1, nl * 4 + 3, none⟩ (.int .u8 ((sc : Int) % 256))) (w.heap.size + 1) (nl * 4 + 4 + lo * 4 + len7) (F2 (bb fB len6) (nl * 4) lo (sc / 65536 % 256) (sc / 256 % 256) (sc % 256) 0) := by
        refine ((((hop.set (nl * 4) (lo : Int) (fun _ _ => rfl)).set (nl * 4 + 1) ((sc : Int) / 65536 % 256) (fun _ _ => rfl)).set (nl * 4 + 2) ((sc : Int) / 256 % 256) (fun _ _ => rfl)).set (nl * 4 + 3) ((sc : Int) % 256) (fun _ _ => rfl)).congr fun i _ => ?_
        rw [F2_zero]
        rfl
      have hb2 : Below (w.heap.size + 1) W ((((wr.setCell ⟨w.heap.size + 1, nl * 4, none⟩ (.int .u8 (lo : Int))).setCell ⟨w.heap.size + 1, nl * 4 + 1, none⟩ (.int .u8 ((sc : Int) / 65536 % 256))).setCell ⟨w.heap.size + 1, nl * 4 + 2, none⟩ (.int .u8 ((sc : Int) / 256 % 256))).setCell ⟨w.heap.size + 1, nl * 4 + 3, none⟩ (.int .u8 ((sc : Int) % 256))) :=
        (((hb1.setCell (by simp) _).setCell (by simp) _).setCell (by simp) _).setCell (by simp) _
      clear bk hk
      go_wp2
      clear c0 c1 c2 c3 f0 f1 f2 f3 hop hb1
      go_loopw [22] (fun i wr => ∃ k : Nat, k ≤ lo * 4 ∧ i = .int .i64 k ∧ Hop wr (w.heap.size + 1) (nl * 4 + 4 + lo * 4 + len7) (F2 (bb fB len6) (nl * 4) lo (sc / 65536 % 256) (sc / 256 % 256) (sc % 256) k) ∧ Below (w.heap.size + 1) W wr) (fun i _ => lo * 4 - (intOf i).toNat)
      case atStart => exact ⟨0, Nat.zero_le _, rfl, hop2, hb2⟩
      case round =>
        clear hop2 hb2
        obtain ⟨k, hk, rfl, hop, hb1⟩ := hrel
        have bk : Bytes wr a6 len6 fB := (b6.below bW (Nat.le_refl _)).below hb1 (by omega)
        by_cases hlt : k < lo * 4
        · have hcl := hop.cell (i := nl * 4 + 4 + k) (by omega)
          have hfr := hop.frozen (nl * 4 + 4 + k)
          have i2 : (nl : Int) * 4 + 4 + (k : Int) < ((nl * 4 + 4 + lo * 4 + len7 : Nat) : Int) := by omega
          go_wp2_with (go_at_call 4; refine (byte_int a6 len6 cap6 _ (nl * 4 + 4 + k) fB _ (by omega) (by omega) (by omega) bk).mono ?_; rintro e w' ⟨rfl, rfl⟩)
          go_roundw
          case rel => exact ⟨k + 1, by omega, by go_num, hop.set (nl * 4 + 4 + k) _ (fun i _ => F2_succ _ _ _ _ _ _ k i), hb1.setCell (by simp) _⟩
          case measure => simp [intOf]; omega
        · have HK2 : Hid (k = lo * 4) := by show _ = _; omega
          rw [HK2.out] at hop
          have bt : Bytes wr a7 len7 fT := (b7.below bW (Nat.le_refl _)).below hb1 (by omega)
          clear bk hk
          go_wp2_with (refine wpList_copy_hop rfl (.tmp 113) (.tmp 114) rfl _ _ _ _ _ _ rfl rfl (w.heap.size + 1) (nl * 4 + 4 + lo * 4) (nl * 4 + 4 + lo * 4 + len7) len7 _ fT hop ?_ bt ?_ (Nat.le_refl _) (w.heap.size + 1) W hb1 (Nat.le_refl _) ?_; simp; (intro h; rw [if_neg (by omega)]); intro w2 hop2 hb2; (generalize (if nl * 4 + 4 + lo * 4 + len7 = nl * 4 + 4 + lo * 4 then some (⟨w.heap.size + 1, 0, none⟩ : Addr) else some (⟨w.heap.size + 1, nl * 4 + 4 + lo * 4, none⟩ : Addr)) = adC))
          have hop3 : Hop w2 (w.heap.size + 1) (nl * 4 + 4 + lo * 4 + len7) (F3 (bb fB len6) fT (nl * 4) lo (sc / 65536 % 256) (sc / 256 % 256) (sc % 256) len7) := hop2
          clear hop2 hop hb1 bt
          refine (clone_any (some ⟨w.heap.size + 1, 0, none⟩) (nl * 4 + 4 + lo * 4 + len7) (nl * 4 + 4 + lo * 4 + len7) _ w2 (by omega) (fun h => by cases h) hop3.bytes).mono ?_
          rintro e w3 ⟨aC, cC, rfl, byC, belC⟩
          have hop4 := hop3.below belC hop3.lt
          have hb4 : Below (w.heap.size + 1) W w3 := hb2.trans (belC.mono (by have := hop3.lt; omega))
          have bt4 : Bytes w3 a7 len7 fT := (b7.below bW (Nat.le_refl _)).below hb4 (by omega)
          clear belC hb2 hop3
          go_wp2_with fail
          refine (clone_any a7 len7 cap7 fT w3 (by omega) n7 bt4).mono ?_
          rintro e w4 ⟨aT, cT, rfl, byT, belT⟩
          have hop5 := hop4.below belT hop4.lt
          have hb5 : Below (w.heap.size + 1) W w4 := hb4.trans (belT.mono (by have := hop4.lt; omega))
          have bt5 : Bytes w4 a7 len7 fT := (b7.below bW (Nat.le_refl _)).below hb5 (by omega)
          have byC5 := byC.below belT (Nat.le_refl _)
          have hlt5 : w.heap.size + 1 < w4.heap.size := hop5.lt
          have t0 : w4.cell? ⟨w.heap.size, 0, none⟩ = some (.int .u8 nl) := by rw [hb5.cell (by simp), HW.out]; simp
          have t1 : w4.cell? ⟨w.heap.size, 1, none⟩ = some (.int .u8 fl) := by rw [hb5.cell (by simp), HW.out]; simp
          have t2 : w4.cell? ⟨w.heap.size, 2, none⟩ = some (.int .u8 rm) := by rw [hb5.cell (by simp), HW.out]; simp
          have t3 : w4.cell? ⟨w.heap.size, 3, none⟩ = some (.int .u32 ty) := by rw [hb5.cell (by simp), HW.out]; simp
          have t4 : w4.cell? ⟨w.heap.size, 4, none⟩ = some (.slice none 0 0) := by rw [hb5.cell (by simp), HW.out]; simp
          have hlt0 : 0 < w.heap.size := World.block_lt_of_cell? w _ h0
          have g0 : w4.cell? ⟨0, 0, none⟩ = some (.int .u64 24) := by rw [hb5.cell (by simp), bW.cell (by simpa using hlt0)]; exact h0
          have g1 : w4.cell? ⟨0, 1, none⟩ = some f := by rw [hb5.cell (by simp), bW.cell (by simpa using hlt0)]; exact h1
          clear belT byC hop4 hb4 bt4 h0 h1
          go_wp2_with fail
          cases hask : (bits .and .u32 (ty : Int) 2 != 0) with
          | false =>
            have hno : (bits .and .u32 ((ty : Int) / 2) 1 != 0) = false := (asks_eq ty hty).trans hask
            refine (snap_no nl fl rm ty f (.slice none 0 0) w4 _ _ _ (by omega) g0 g1 hno).mono ?_
            rintro e w5 ⟨rfl, bel5⟩
            have bt6 := bt5.below bel5 (Nat.le_refl _)
            have byT6 := byT.below bel5 (Nat.le_refl _)
            have byC6 := byC5.below bel5 (Nat.le_refl _)
            have hop6 := hop5.below bel5 hop5.lt
            have hb6 : Below (w.heap.size + 1) W w5 := hb5.trans (bel5.mono (by omega))
            have hlt6 : w.heap.size + 1 < w5.heap.size := hop6.lt
            have r0 : w5.cell? ⟨w.heap.size, 0, none⟩ = some (.int .u8 nl) := by rw [bel5.cell (by simp; omega)]; exact t0
            have r1 : w5.cell? ⟨w.heap.size, 1, none⟩ = some (.int .u8 fl) := by rw [bel5.cell (by simp; omega)]; exact t1
            have r2 : w5.cell? ⟨w.heap.size, 2, none⟩ = some (.int .u8 rm) := by rw [bel5.cell (by simp; omega)]; exact t2
            have r3 : w5.cell? ⟨w.heap.size, 3, none⟩ = some (.int .u32 ty) := by rw [bel5.cell (by simp; omega)]; exact t3
            have r4 : w5.cell? ⟨w.heap.size, 4, none⟩ = some (.slice none 0 0) := by rw [bel5.cell (by simp; omega)]; exact t4
            have p0 : w5.cell? ⟨0, 0, none⟩ = some (.int .u64 24) := by rw [bel5.cell (by simp; omega)]; exact g0
            have p1 : w5.cell? ⟨0, 1, none⟩ = some f := by rw [bel5.cell (by simp; omega)]; exact g1
            have hlt7 : w.heap.size < w5.heap.size := by omega
            have hlt8 : 0 < w5.heap.size := by omega
            clear bel5 hop5 hb5 bt5 byT byC5 t0 t1 t2 t3 t4 g0 g1 hlt5
            go_wp2_with fail
            refine (equal_any _ aC _ _ cC _ _ (by omega) (hop6.bytes.below ((Below.refl w5.heap.size _).alloc (Nat.le_refl _) _) (Nat.le_refl _)) (byC6.below ((Below.refl w5.heap.size _).alloc (Nat.le_refl _) _) (Nat.le_refl _))).mono ?_
            rintro e w6 ⟨rfl, n, rfl⟩
            go_wp2_with fail
            have bA : Below w5.heap.size w5 ((w5.alloc (Obj.cells #[.int .u32 0, .slice none 0 0] 30)).drewN n) := ((Below.refl w5.heap.size w5).alloc (Nat.le_refl _) _).trans ⟨rfl, rfl, rfl, Nat.le_refl _, fun _ _ => rfl⟩
            refine (snap_no nl fl rm ty f (.slice none 0 0) _ _ _ _ (by omega) (by rw [bA.cell (by simpa using hlt8)]; exact p0) (by rw [bA.cell (by simpa using hlt8)]; exact p1) hno).mono ?_
            rintro e w6 ⟨rfl, bel6⟩
            have bB : Below w5.heap.size w5 w6 := bA.trans (bel6.mono (by simp))
            have bt7 := bt6.below bB (Nat.le_refl _)
            have byT7 := byT6.below bB (Nat.le_refl _)
            have hz : w5.heap.size < w6.heap.size := by have := bel6.size; simp at this; omega
            clear bel6 bA r0 r1 r2 r3 r4 p0 p1 byC6 hop6 bt6 byT6
            go_wp2_with fail
            refine (equal_any a7 aT len7 cap7 cT fT _ (by omega) (bt7.below ((Below.refl w6.heap.size _).alloc (Nat.le_refl _) _) (Nat.le_refl _)) (byT7.below ((Below.refl w6.heap.size _).alloc (Nat.le_refl _) _) (Nat.le_refl _))).mono ?_
            rintro e w7 ⟨rfl, n2, rfl⟩
            have fin : Below w.heap.size w ((w6.alloc (Obj.cells #[.int .u32 0, .slice none 0 0] 30)).drewN n2) :=
              ((bW.trans (hb6.mono (by omega))).trans (bB.mono (by omega))).trans (((Below.refl w.heap.size w6).alloc (by omega) _).trans ⟨rfl, rfl, rfl, Nat.le_refl _, fun _ _ => rfl⟩)
            go_wp2
            go_ret
            exact ⟨rfl, fin⟩
          | true =>
            have hyes : (bits .and .u32 ((ty : Int) / 2) 1 != 0) = true := (asks_eq ty hty).trans hask
            have c0 := hop5.cell (i := nl * 4) (by omega)
            have c1 := hop5.cell (i := nl * 4 + 1) (by omega)
            have c2 := hop5.cell (i := nl * 4 + 2) (by omega)
            have c3 := hop5.cell (i := nl * 4 + 3) (by omega)
            rw [F3_0] at c0
            rw [F3_1] at c1
            rw [F3_2] at c2
            rw [F3_3] at c3
            refine (snap_yes nl lo _ _ _ fl rm ty f (.slice none 0 0) w4 (w.heap.size + 1) _ _ (by omega) g0 g1 hyes hnl hlo (Nat.mod_lt _ (by omega)) (Nat.mod_lt _ (by omega)) (Nat.mod_lt _ (by omega)) (by omega) (Nat.le_refl _) (by omega) c0 c1 c2 c3).mono ?_
            rintro e w5 ⟨ad, cp, rfl, had, bel5⟩
            rw [schema_eq sc hsc]
            have byC6 := byC5.below bel5 (Nat.le_refl _)
            have hop6 := hop5.below bel5 hop5.lt
            have hb6 : Below (w.heap.size + 1) W w5 := hb5.trans (bel5.mono (by omega))
            have hlt6 : w.heap.size + 1 < w5.heap.size := hop6.lt
            clear bel5 hop5 hb5 bt5 byT byC5 t0 t1 t2 t3 t4 g0 g1 hlt5 c0 c1 c2 c3
            have Had : Hid (0 < lo → ad = some ⟨w.heap.size + 1, nl * 4 + 4, none⟩) := had
            clear had
            go_wp2_with fail
            refine (equal_any _ aC _ _ cC _ _ (by omega) (hop6.bytes.below ((Below.refl w5.heap.size _).alloc (Nat.le_refl _) _) (Nat.le_refl _)) (byC6.below ((Below.refl w5.heap.size _).alloc (Nat.le_refl _) _) (Nat.le_refl _))).mono ?_
            rintro e w6 ⟨rfl, n, rfl⟩
            have b6' : Bytes w5 a6 len6 fB := (b6.below bW (Nat.le_refl _)).below hb6 (by omega)
            have fin : ∀ m, Below w.heap.size w ((w5.alloc (Obj.cells #[.int .u32 (bits .and .u32 (sc : Int) 16777215), .slice ad (lo * 4) cp] 30)).drewN m) := fun m =>
              (bW.trans (hb6.mono (by omega))).trans (((Below.refl w.heap.size w5).alloc (by omega) _).trans ⟨rfl, rfl, rfl, Nat.le_refl _, fun _ _ => rfl⟩)
            by_cases hl0 : lo = 0
            · subst hl0
              go_wp2
              refine wp_loop_rounds 1 ?_; rw [rounds_succ]
              go_wp2
              go_quiet (fail)
              go_wp2
              go_ret
              exact ⟨rfl, (fin n).trans ⟨rfl, rfl, rfl, Nat.le_refl _, fun _ _ => rfl⟩⟩
            · have had := Had.out (by omega)
              subst had
              clear Had
              have hd3 : decide ((0 : Int) < (lo : Int) * 4) = true := decide_eq_true (by omega)
              have hcl : ∀ j, j < lo * 4 → w5.cell? ⟨w.heap.size + 1, nl * 4 + 4 + j, none⟩ = some (.int .u8 (bb fB len6 (nl * 4 + 4 + j))) := fun j hj => by
                rw [hop6.cell (by omega), F3_data _ _ _ _ _ _ _ _ _ hj]
              have HC : Hid (∀ j, j < lo * 4 → w5.cell? ⟨w.heap.size + 1, nl * 4 + 4 + j, none⟩ = some (.int .u8 (bb fB len6 (nl * 4 + 4 + j)))) := hcl
              clear hcl hop6 byC6 hyes
              go_wp2
              go_loopw [30] (fun i wr => ∃ k : Nat, k ≤ lo * 4 ∧ i = .int .i64 k ∧ ∃ m, wr = (w5.alloc (Obj.cells #[.int .u32 (bits .and .u32 (sc : Int) 16777215), .slice (some ⟨w.heap.size + 1, nl * 4 + 4, none⟩) (lo * 4) cp] 30)).drewN m) (fun i _ => lo * 4 - (intOf i).toNat)
              case atStart => exact ⟨0, Nat.zero_le _, rfl, n, rfl⟩
              case round =>
                obtain ⟨k, hk, rfl, m, rfl⟩ := hrel
                by_cases hlt : k < lo * 4
                · have hc := HC.out k hlt
                  have v1 : IntKind.i64.wrap ((nl : Int) * 4 + 4) = (nl : Int) * 4 + 4 := wrap_small _ (by omega) (by omega)
                  have v2 : IntKind.i64.wrap ((nl : Int) * 4 + 4 + (k : Int)) = (nl : Int) * 4 + 4 + (k : Int) := wrap_small _ (by omega) (by omega)
                  have i1 : (0 : Int) ≤ (k : Int) := by omega
                  have i2 : (k : Int) < ((lo * 4 : Nat) : Int) := by omega
                  go_wp2
                  have bq : ∀ x, Bytes ((w5.alloc (Obj.cells #[.int .u32 (bits .and .u32 (sc : Int) 16777215), .slice (some ⟨w.heap.size + 1, nl * 4 + 4, none⟩) (lo * 4) cp] 30)).drewN x) a6 len6 fB := fun x => (b6'.below ((Below.refl w5.heap.size w5).alloc (Nat.le_refl _) _) (Nat.le_refl _)).drewN x
                  go_quiet ((go_at_call 4; exact (byte_int a6 len6 cap6 _ (nl * 4 + 4 + k) fB _ (by omega) (by omega) (by omega) (bq _)).mono (fun _ _ h => ⟨h.1, _, h.2⟩)))
                  go_wp2
                  go_roundw
                  case rel => exact ⟨k + 1, by omega, by go_num, _, rfl⟩
                  case measure => simp [intOf]; omega
                · have v1 : IntKind.i64.wrap ((nl : Int) * 4 + 4) = (nl : Int) * 4 + 4 := wrap_small _ (by omega) (by omega)
                  have v2 : ((nl : Int) * 4 + 4).toNat = nl * 4 + 4 := by omega
                  obtain ⟨j5, hj5, _⟩ := Option.map_eq_some_iff.1 Ybad.info5
                  have hpn := fun (W : World) => Lib.run_neq_ptr_same (P := Ybad.prog) W (tp := 34) (⟨w.heap.size + 1, nl * 4 + 4, none⟩ : Addr) Ybad.underlying34 hj5
                  have i3 : (0 : Int) < ((lo * 4 : Nat) : Int) := by omega
                  have i5 : 0 < lo := by omega
                  have i6 : (0 : Int) < (lo : Int) * 4 := by omega
                  have i7 : (0 : Int) < (lo : Int) := by omega
                  have i8 : (nl : Int) * 4 + 4 < (nl : Int) * 4 + 4 + (lo : Int) * 4 + (len7 : Int) := by omega
                  have i9 : (0 : Int) ≤ (nl : Int) * 4 + 4 := by omega
                  have i10 : (0 : Int) < (lo : Int) * 4 + (len7 : Int) := by omega
                  have i4 : (nl : Int) * 4 + 4 < ((nl * 4 + 4 + lo * 4 + len7 : Nat) : Int) := by omega
                  go_wp2
                  go_quiet (fail)
                  go_wp2
                  go_ret
                  exact ⟨rfl, (fin m).trans ⟨rfl, rfl, rfl, Nat.le_refl _, fun _ _ => rfl⟩⟩
end Go.Proofs.YbulkdlqeDoor
