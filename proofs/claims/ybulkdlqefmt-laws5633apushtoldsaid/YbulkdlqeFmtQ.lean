/-
  zzs5633aname; a map that the call made, as 'MapAt'; zzs5633adata.
-/
import Derived.Test.YbulkdlqeFmtO
import Derived.Maps.OwnSet
import Derived.Maps.OwnOps
namespace Go.Proofs.YbulkdlqeFmt
open Go.RowKit Go.Shelf Go.Maps Go.WideMaps

set_option maxHeartbeats 1000000 in
theorem name_any (k : Nat) (w : World) (hk : k ≤ 8) :
    Calls Ybaf.prog 13 #[.int .i64 (k : Int)] w fun e w' => (∃ s : ByteArray, e = .returned (.string s) ∧ s.size ≤ 100) ∧ w' = w := by
  rcases (show k = 0 ∨ k = 1 ∨ k = 2 ∨ k = 3 ∨ k = 4 ∨ k = 5 ∨ k = 6 ∨ k = 7 ∨ k = 8 by omega) with rfl | rfl | rfl | rfl | rfl | rfl | rfl | rfl | rfl
  all_goals
    go_enter Ybaf.func13, Ybaf.ntmps13
    go_wp2
    go_ret
    exact ⟨⟨_, rfl, by decide⟩, rfl⟩

theorem zero51 (w : World) : (zeroValue 51).run Ybaf.prog w = .ok (.int .u64 0) w := by kernel_rfl

/-- What a map that reads as D says of a name. -/
def lkOf (D : DataW Unit) (s : ByteArray) : Nat × Bool :=
  (match D.atKey (.string s.data.toList) (.lit (.int .u64 0)) with | .lit (.int .u64 c) => c.toNat % 18446744073709551616 | _ => 0, Maps.has D (.string s.data.toList))

theorem wf_u64 {c : Int} (h : (Lit.int .u64 c).wf = true) : 0 ≤ c ∧ c < 18446744073709551616 := by
  simp [Lit.wf, IntKind.min, IntKind.max, IntKind.bits, IntKind.signed] at h
  omega

theorem mapAt_own {w : World} {b n : Nat} {D : DataW Unit} (h : w.ownsMap Ybaf.prog 9 (plainElem Ybaf.prog 51) b n D) : MapAt w (.map (some b)) (lkOf D) := by
  intro W hW s hs
  have hb := hW b rfl
  obtain ⟨es, clock, h0, F, hn, hD⟩ := h
  have hW' : W.ownsMap Ybaf.prog 9 (plainElem Ybaf.prog 51) b n D := ⟨es, clock, hb.trans h0, F, hn, hD⟩
  obtain ⟨v, ps, hrun, hv⟩ := hW'.look_ok (string_keyed Ybaf.underlying9) Ybaf.underlying31 (zero51 W) (plainElem_int Ybaf.underlying51 (by decide)) (keyOf_string_mk Ybaf.underlying9 (s := s) (by unfold maxLen; omega))
  obtain ⟨c, rfl, hc, hwc⟩ := plainElem_int_inv Ybaf.underlying51 hv
  simp only [Prod.mk.injEq] at hc
  rw [hrun]
  have := wf_u64 hwc
  simp only [lkOf, hc.1]
  rw [show ((c.toNat % 18446744073709551616 : Nat) : Int) = c by omega]

theorem mapAt_nil (w : World) : MapAt w (.map none) (fun _ => (0, false)) := by
  intro W hW s hs
  exact Maps.look_nil true (string_keyed Ybaf.underlying9) Ybaf.underlying31 (zero51 W) (keyOf_string_mk Ybaf.underlying9 (s := s) (by unfold maxLen; omega))

theorem lkOk_own (D : DataW Unit) : LkOk (lkOf D) := by
  intro s
  simp only [lkOf]
  split
  · exact Nat.mod_lt _ (by omega)
  · omega
theorem lkOk_nil : LkOk (fun _ => (0, false)) := fun _ => by simp

/-- What can be read of a slice of uint64. -/
def Words (w : World) (a : Option Addr) (len : Nat) (v : Nat → Nat) : Prop :=
  len = 0 ∨ ∃ b off, a = some ⟨b, off, none⟩ ∧ ∀ i, i < len → w.cell? ⟨b, off + i, none⟩ = some (.int .u64 (v i : Int))

/-- WHAT THE NODE's DATA COME TO. -/
structure DataAt (w : World) (B : Nat) (mv : Value) (sp : Option Addr) (lk : ByteArray → Nat × Bool) (sch dl : Nat) (ad : Option Addr) (dc : Nat) (df : Nat → Nat) : Prop where
  lkok : LkOk lk
  map : MapAt w mv lk
  mapB : ∀ b, mv = .map (some b) → B ≤ b ∧ b < w.heap.size
  snap : SnapAt w sp sch dl ad dc
  snapB : ∀ a, sp = some a → B ≤ a.block
  bytes : Bytes w ad dl df
  bytesB : ∀ a, ad = some a → B ≤ a.block

theorem name_int (K : Int) (w : World) (h0 : 0 ≤ K) (h8 : K ≤ 8) :
    Calls Ybaf.prog 13 #[.int .i64 K] w fun e w' => (∃ s : ByteArray, e = .returned (.string s) ∧ s.size ≤ 100) ∧ w' = w := by
  obtain ⟨k, rfl⟩ : ∃ k : Nat, K = k := ⟨K.toNat, by omega⟩
  exact name_any k w (by omega)
theorem wf_u64_mk {c : Int} (h0 : 0 ≤ c) (h1 : c < 18446744073709551616) : (Lit.int .u64 c).wf = true := by
  simp [Lit.wf, IntKind.min, IntKind.max, IntKind.bits, IntKind.signed]
  omega

/-- The map of the values, made. -/
def MapMade (B : Nat) (w0 : World) (mv : Value) (wx : World) : Prop :=
  ∃ (ob : Option Nat) (lk : ByteArray → Nat × Bool), mv = .map ob ∧ LkOk lk ∧ MapAt wx mv lk ∧ (∀ b, mv = .map (some b) → B ≤ b ∧ b < wx.heap.size) ∧ Below B w0 wx

/-- What adata hands back. -/
def DataSaid (us : Bool) (sch0 nd : Nat) (w : World) (e : Ending) (w' : World) : Prop :=
  ∃ (ob : Option Nat) (sp : Option Addr) (lk : ByteArray → Nat × Bool) (sch dl : Nat) (ad : Option Addr) (dc : Nat) (df : Nat → Nat), e = .returned (.agg #[.map ob, .pointer sp]) ∧ DataAt w' w.heap.size (.map ob) sp lk sch dl ad dc df ∧ Below w.heap.size w w' ∧ (us = false → sch = 16777215 ∧ dl = 0) ∧ (us = true → sch = sch0 ∧ dl = nd) ∧ dl ≤ nd

theorem Words.below {w w' : World} {a : Option Addr} {len B : Nat} {f : Nat → Nat} (h : Words w a len f) (hb : Below B w w') (hB : w.heap.size ≤ B) : Words w' a len f := by
  rcases h with h | ⟨b, off, rfl, hc⟩
  · exact .inl h
  · refine .inr ⟨b, off, rfl, fun i hi => ?_⟩
    have := World.block_lt_of_cell? w _ (hc i hi)
    exact (hb.cell (p := ⟨b, off + i, none⟩) (by simp at this ⊢; omega)).trans (hc i hi)

/-- What aclone hands back. -/
def CloneSaid (a : Option Addr) (n : Nat) (f : Nat → Nat) (w : World) (e : Ending) (w' : World) : Prop :=
  ∃ a' c', e = .returned (.slice a' n c') ∧ ((a = none ∧ a' = none ∧ n = 0 ∧ c' = 0 ∧ w' = w) ∨ (a' = some ⟨w.heap.size, 0, none⟩ ∧ c' = n ∧ Row w' w.heap.size n f)) ∧ Below w.heap.size w w'
theorem clone_any (a : Option Addr) (n c : Nat) (f : Nat → Nat) (w : World) (hn : n ≤ 4000000) (hnil : a = none → n = 0 ∧ c = 0) (hb : Bytes w a n f) :
    Calls Ybaf.prog 5 #[.slice a n c] w (CloneSaid a n f w) := by
  cases a with
  | none =>
    obtain ⟨rfl, rfl⟩ := hnil rfl
    refine (clone_nil w).mono ?_
    rintro e w' ⟨rfl, hw⟩
    subst w'
    exact ⟨none, 0, rfl, .inl ⟨rfl, rfl, rfl, rfl, rfl⟩, Below.refl _ _⟩
  | some a =>
    refine (clone_some a n c f w hn hb).mono ?_
    rintro e w' ⟨rfl, hr, hbl⟩
    exact ⟨_, _, rfl, .inr ⟨rfl, rfl, hr⟩, hbl⟩
theorem CloneSaid.bytes {a : Option Addr} {n : Nat} {f : Nat → Nat} {w w' : World} {a' : Option Addr} {c' : Nat} (h : (a = none ∧ a' = none ∧ n = 0 ∧ c' = 0 ∧ w' = w) ∨ (a' = some ⟨w.heap.size, 0, none⟩ ∧ c' = n ∧ Row w' w.heap.size n f)) : Bytes w' a' n f ∧ ∀ p, a' = some p → w.heap.size ≤ p.block := by
  rcases h with ⟨_, rfl, h, _, _⟩ | ⟨rfl, _, hr⟩
  · exact ⟨.inl h, fun p hp => by cases hp⟩
  · exact ⟨hr.bytes, fun p hp => by cases hp; exact Nat.le_refl _⟩

set_option maxRecDepth 100000 in
set_option maxHeartbeats 1000000 in
theorem data_any (us : Bool) (ak av : Option Addr) (nk ck nv cv sch nd cd : Nat) (as_ : Option Addr) (fk v fd : Nat → Nat) (w : World) (hnil : as_ = none → nd = 0 ∧ cd = 0) (hd : Bytes w as_ nd fd) (hnd : nd ≤ 65536) (hnk : (nk : Int) ≤ 65536) (hk : Bytes w ak nk fk) (hfk : ∀ i, fk i < 256) (hv : Words w av nv v) (hvl : ∀ i, v i < 18446744073709551616) :
    Calls Ybaf.prog 7 #[.slice ak nk ck, .slice av nv cv, .bool us, .int .u32 sch, .slice as_ nd cd] w (DataSaid us sch nd w) := by
  have hmm := @run_makeMap Ybaf.prog
  have hB0 : Below w.heap.size w (w.alloc (.cells #[.map none, .pointer none] 34)) := (Below.refl _ _).alloc (Nat.le_refl _) _
  have hs0 : (w.alloc (.cells #[.map none, .pointer none] 34)).heap.size = w.heap.size + 1 := by simp
  have hk0 := hk.below hB0 (Nat.le_refl _)
  have hv0 := hv.below hB0 (Nat.le_refl _)
  go_enter Ybaf.func7, Ybaf.ntmps7
  go_upto_region 1 with fail
  obtain ⟨W, hW⟩ : ∃ W, w.alloc (.cells #[.map none, .pointer none] 34) = W := ⟨_, rfl⟩
  have hR : W.heap[w.heap.size]? = some (.cells #[.map none, .pointer none] 34 (0, 0)) := by rw [← hW]; exact World.alloc_heap_new w _
  rw [hW] at hB0 hs0 hk0 hv0 ⊢
  have HS0 : Hid (W.heap.size = w.heap.size + 1) := hs0
  clear hW hk hv hs0
  go_upto_if 17 with fail
  go_cut [11] (fun mv wx => MapMade W.heap.size W mv wx)
  case first =>
    by_cases h0 : nk = 0
    · subst h0
      go_wp2
      go_meet
      exact ⟨none, _, rfl, lkOk_nil, mapAt_nil _, (fun b hb => by cases hb), Below.refl _ _⟩
    · rcases hk0 with h | ⟨kb, ko, rfl, hkc⟩
      · exact absurd h h0
      · have hpos : (0 : Int) < (nk : Int) := by omega
        have hkb : kb < W.heap.size := World.block_lt_of_cell? W _ (hkc 0 (by omega))
        go_wp2
        rw [show decide (0 < nk) = true from decide_eq_true (by omega)]
        go_loopw [12] (fun i wr => ∃ k : Nat, k ≤ nk ∧ i = .int .i64 k ∧ (∃ D : DataW Unit, wr.ownsMap Ybaf.prog 9 (plainElem Ybaf.prog 51) W.heap.size k D) ∧ Below W.heap.size W wr) (fun i _ => nk - (intOf i).toNat)
        case atStart => exact ⟨0, Nat.zero_le _, rfl, ⟨_, World.ownsMap_made _ _ _ _⟩, (Below.refl _ _).alloc (Nat.le_refl _) _⟩
        case round =>
          obtain ⟨k, hk, rfl, ⟨D, hown⟩, hnx⟩ := hrel
          by_cases hlt : k < nk
          · have ck := (hnx.cell (p := ⟨kb, ko + k, none⟩) hkb).trans (hkc k hlt)
            have i1 : (0 : Int) ≤ (k : Int) := by omega
            have i2 : (k : Int) < (nk : Int) := by omega
            have hfkk := hfk k
            have hq0 : (0 : Int) ≤ (fk k : Int) % 9 := by omega
            have hq8 : (fk k : Int) % 9 ≤ 8 := by omega
            have hi1 : (k : Int) ≤ 65536 := by omega
            clear hkc hfk
            by_cases hvk : k < nv
            · rcases hv0 with hz | ⟨vb, vo, rfl, hvc⟩
              · omega
              · have cv0 := hvc k hvk
                have cv := (hnx.cell (p := ⟨vb, vo + k, none⟩) (World.block_lt_of_cell? W _ cv0)).trans cv0
                have i3 : (k : Int) < (nv : Int) := by omega
                have hwf : (Lit.int .u64 (v k : Int)).wf = true := wf_u64_mk (by omega) (by have := hvl k; omega)
                clear hvc hvl
                go_wp2_with (first
                  | (go_at_call 13; refine (name_int _ _ hq0 hq8).mono ?_; rintro e w' ⟨⟨s, rfl, hs⟩, hw'⟩; subst w')
                  | (at_mapUpdate; refine wpList_mapUpdate_own _ rfl _ _ _ 31 rfl 9 51 (string_keyed Ybaf.underlying9) Ybaf.underlying31 _ W.heap.size k D rfl hown (by unfold maxLen; omega) _ _ _ rfl rfl (keyOf_string_mk Ybaf.underlying9 (by unfold maxLen; omega)) _ [] (plainElem_int Ybaf.underlying51 hwf) ?_; intro w1 hown1 hgrow1))
                have R2 := hnx.grown hgrow1 hnx.size (fun j hj => by cases hj; exact Nat.le_refl _)
                go_roundw
                case rel => first | exact ⟨k + 1, by omega, by go_num, ⟨_, hown1⟩, R2⟩ | ((repeat apply Exists.intro); exact ⟨⟨k + 1, by omega, by go_num, ⟨_, hown1⟩, R2⟩, rfl⟩)
                case measure => simp [intOf]; omega
            · have i3 : (nv : Int) ≤ (k : Int) := by omega
              have hwf : (Lit.int .u64 ((k : Int) * 4311810305)).wf = true := wf_u64_mk (by omega) (by omega)
              clear hvl hv0
              go_wp2_with (first
                | (go_at_call 13; refine (name_int _ _ hq0 hq8).mono ?_; rintro e w' ⟨⟨s, rfl, hs⟩, hw'⟩; subst w')
                | (at_mapUpdate; refine wpList_mapUpdate_own _ rfl _ _ _ 31 rfl 9 51 (string_keyed Ybaf.underlying9) Ybaf.underlying31 _ W.heap.size k D rfl hown (by unfold maxLen; omega) _ _ _ rfl rfl (keyOf_string_mk Ybaf.underlying9 (by unfold maxLen; omega)) _ [] (plainElem_int Ybaf.underlying51 hwf) ?_; intro w1 hown1 hgrow1))
              have R2 := hnx.grown hgrow1 hnx.size (fun j hj => by cases hj; exact Nat.le_refl _)
              go_roundw
              case rel => first | exact ⟨k + 1, by omega, by go_num, ⟨_, hown1⟩, R2⟩ | ((repeat apply Exists.intro); exact ⟨⟨k + 1, by omega, by go_num, ⟨_, hown1⟩, R2⟩, rfl⟩)
              case measure => simp [intOf]; omega
          · go_wp2
            go_meet
            exact ⟨some W.heap.size, lkOf D, rfl, lkOk_own D, mapAt_own hown, (fun b hb => by cases hb; exact ⟨Nat.le_refl _, hown.lt⟩), hnx⟩
  case rest =>
    obtain ⟨ob, lk, rfl, hlk, hm, hmb, hbx⟩ := hcut
    have hT := (hbx.block w.heap.size (by have := HS0.out; omega)).trans hR
    have q0 : wc.cell? ⟨w.heap.size, 0, none⟩ = some (.map none) := by rw [cell_of_row wc _ _ _ 34 (0, 0) hT]; rfl
    have q1 : wc.cell? ⟨w.heap.size, 1, none⟩ = some (.pointer none) := by rw [cell_of_row wc _ _ _ 34 (0, 0) hT]; rfl
    have qf : ∀ j, wc.frozen? ⟨w.heap.size, j, none⟩ = false := fun j => frozen_of_row wc _ j _ 34 hT
    have hbw : Below w.heap.size w wc := hB0.trans (hbx.mono hB0.size)
    have hbn : ∀ b, Value.map ob = .map (some b) → b ≠ w.heap.size := fun b hb => by have := hmb b hb; have := HS0.out; omega
    have hdx : Bytes wc as_ nd fd := hd.below hbw (Nat.le_refl _)
    have hcl := clone_any as_ nd cd fd wc (by omega) hnil hdx
    clear hnk hnd hfk hvl hv0 hk0 hdx hd hmm
    cases us with
    | false =>
      go_wp2
      refine bodyPost_ret (v := .agg #[.map ob, .pointer none]) (by simp [results, Ybaf.results7, go_sem, q0, q1]) rfl ?_
      refine ⟨ob, none, lk, 16777215, 0, none, 0, fun _ => 0, rfl, ⟨hlk, ?_, ?_, .inl ⟨rfl, rfl, rfl, rfl, rfl⟩, (fun a ha => by cases ha), .inl rfl, (fun a ha => by cases ha)⟩, ?_, fun _ => ⟨rfl, rfl⟩, (fun h => by cases h), Nat.zero_le _⟩
      · refine hm.keep (fun b hb => ?_)
        have := hbn b hb
        rw [Below.heap_setCell _ _ _ _ (by simpa using this), Below.heap_setCell _ _ _ _ (by simpa using this)]
      · exact fun b hb => ⟨by have := hmb b hb; have := HS0.out; omega, by have := (hmb b hb).2; simpa [World.setCell] using this⟩
      · exact (hbw.setCell (by simp) _).setCell (by simp) _
    | true =>
      go_wp2_with fail
      refine hcl.mono ?_
      rintro e w1 ⟨a', c', rfl, hcs, hb1⟩
      obtain ⟨hby, hbB⟩ := CloneSaid.bytes hcs
      have hT1 := (hb1.block w.heap.size (World.block_lt_of_cell? wc _ q0)).trans hT
      have q2 : w1.cell? ⟨w.heap.size, 0, none⟩ = some (.map none) := by rw [cell_of_row w1 _ _ _ 34 (0, 0) hT1]; rfl
      have q3 : w1.cell? ⟨w.heap.size, 1, none⟩ = some (.pointer none) := by rw [cell_of_row w1 _ _ _ 34 (0, 0) hT1]; rfl
      have qf1 : ∀ j, w1.frozen? ⟨w.heap.size, j, none⟩ = false := fun j => frozen_of_row w1 _ j _ 34 hT1
      have hlt1 : w.heap.size < w1.heap.size := World.block_lt_of_cell? w1 _ q2
      have hne1 : ¬ (w.heap.size = w1.heap.size) := by omega
      have hne2 : ¬ (w1.heap.size = w.heap.size) := by omega
      have hbw1 := hbw.trans (hb1.mono hbw.size)
      clear q0 q1 qf hT hcl hcs
      go_wp2
      refine bodyPost_ret (v := .agg #[.map ob, .pointer (some ⟨w1.heap.size, 0, none⟩)]) (by simp [results, Ybaf.results7, go_sem, q2, q3, hlt1]) rfl ?_
      have hA : But w1.heap.size w.heap.size w1 (((w1.setCell ⟨w.heap.size, 0, none⟩ (.map ob)).setCell ⟨w.heap.size, 1, none⟩ (.pointer (some ⟨w1.heap.size, 0, none⟩))).alloc (.cells #[.int .u32 (sch : Int), .slice a' nd c'] 54)) :=
        ((But.setCell _ _ _ _ _).trans (But.setCell _ _ _ _ _)).trans (Below.but ((Below.refl w1.heap.size _).alloc (by simp) _) _)
      refine ⟨ob, some ⟨w1.heap.size, 0, none⟩, lk, sch, nd, a', c', fd, rfl, ⟨hlk, ?_, ?_, .inr ⟨w1.heap.size, rfl, ?_, ?_⟩, (fun a ha => by cases ha; exact Nat.le_of_lt hlt1), ?_, fun p hp => Nat.le_trans hbw.size (hbB p hp)⟩, ?_, (fun h => by cases h), fun _ => ⟨rfl, rfl⟩, Nat.le_refl _⟩
      · exact hm.keep (fun b hb => (hA.block b (Nat.lt_of_lt_of_le (hmb b hb).2 hb1.size) (hbn b hb)).trans (hb1.block b (hmb b hb).2))
      · exact fun b hb => ⟨by have := hmb b hb; have := HS0.out; omega, by have := (hmb b hb).2; have := hb1.size; have := hA.size; omega⟩
      · simp [go_sem]
      · simp [go_sem]
      · exact hby.but' hA (Nat.le_refl _) (fun p hp => by have := hbB p hp; have := hbw.size; have := HS0.out; have := hbx.size; omega)
      · exact ((hbw1.setCell (by simp) _).setCell (by simp) _).alloc (by simpa using Nat.le_of_lt hlt1) _
end Go.Proofs.YbulkdlqeFmt
