/-
  THE SOURCE's Read.
-/
import Derived.Test.YbulkdlswDoorB
namespace Go.Proofs.YbulkdlswDoor
open Go.RowKit Go.Shelf

/-- The source's cells. -/
abbrev SB (ta : Option Addr) (n tc : Nat) (pos : Int) (ca : Option Addr) (nc cc : Nat) (k : Int) (fail : Bool) (fe : Addr) : Array Value :=
  #[.slice ta n tc, .int .i64 pos, .slice ca nc cc, .int .i64 k, .bool fail, .iface 37 (.pointer (some fe))]

set_option maxHeartbeats 1000000 in
theorem sread_end (S n tc nc cc k m pc : Nat) (ta ca pa : Option Addr) (fail : Bool) (fe ea : Addr) (W : World) (h : W.heap[S]? = some (.cells (SB ta n tc n ca nc cc k fail fe) 29 (0, 0))) (hg : W.cell? ⟨0, 0, none⟩ = some (.iface 37 (.pointer (some ea)))) :
    Calls Ybad.prog 32 #[.pointer (some ⟨S, 0, none⟩), .slice pa m pc] W fun e w' => e = .returned (.tuple #[.int .i64 0, .iface 37 (.pointer (some (if fail then fe else ea)))]) ∧ ∃ q, w' = W.drewN q := by
  obtain ⟨s0, s1, s2, s3, s4, s5, sf⟩ := scells h
  have hge : (n : Int) ≤ (n : Int) := Int.le_refl _
  clear h
  cases fail with
  | true =>
    go_enter Ybad.func32, Ybad.ntmps32
    go_wp2
    go_quiet (fail)
    go_wp2
    go_quiet (fail)
    go_wp2
    go_ret2
    exact ⟨rfl, _, rfl⟩
  | false =>
    go_enter Ybad.func32, Ybad.ntmps32
    go_wp2
    go_quiet (fail)
    go_wp2
    go_quiet (fail)
    go_wp2
    go_ret2
    exact ⟨rfl, _, rfl⟩

/-- How many bytes the source means to give. -/
def ChunkSaid (S n tc pos nc cc k T : Nat) (ca : Option Addr) (fail : Bool) (fe : Addr) (W : World) (v : Value) (wx : World) : Prop :=
  ∃ c0 k' : Nat, v = .int .i64 (c0 : Int) ∧ 1 ≤ c0 ∧ pos + c0 ≤ n ∧ k' ≤ k + 1 ∧ wx.heap[S]? = some (.cells (SB (some ⟨T, 0, none⟩) n tc pos ca nc cc k' fail fe) 29 (0, 0)) ∧ Same [S] W wx
theorem sb_k {W : World} {S n tc pos nc cc k k' T : Nat} {ca : Option Addr} {fail : Bool} {fe : Addr} (h : W.heap[S]? = some (.cells (SB (some ⟨T, 0, none⟩) n tc pos ca nc cc k fail fe) 29 (0, 0))) :
    (W.setCell ⟨S, 3, none⟩ (.int .i64 (k' : Int))).heap[S]? = some (.cells (SB (some ⟨T, 0, none⟩) n tc pos ca nc cc k' fail fe) 29 (0, 0)) := by
  rw [heap_setCell_same W S 3 _ 29 _ h]
  rfl
theorem sb_pos {W : World} {S n tc pos pos' nc cc k T : Nat} {ca : Option Addr} {fail : Bool} {fe : Addr} (h : W.heap[S]? = some (.cells (SB (some ⟨T, 0, none⟩) n tc pos ca nc cc k fail fe) 29 (0, 0))) :
    (W.setCell ⟨S, 1, none⟩ (.int .i64 (pos' : Int))).heap[S]? = some (.cells (SB (some ⟨T, 0, none⟩) n tc pos' ca nc cc k fail fe) 29 (0, 0)) := by
  rw [heap_setCell_same W S 1 _ 29 _ h]
  rfl

/-- What the source's Read comes to, where there is text. -/
def SourceSaid (S n tc pos nc cc k T U off m N : Nat) (ca : Option Addr) (fail : Bool) (fe : Addr) (ft fU : Nat → Nat) (W : World) (e : Ending) (w' : World) : Prop :=
  ∃ c k' : Nat, e = .returned (.tuple #[.int .i64 (c : Int), .nilIface]) ∧ 1 ≤ c ∧ c ≤ m ∧ pos + c ≤ n ∧ k' ≤ k + 1 ∧ w'.heap[S]? = some (.cells (SB (some ⟨T, 0, none⟩) n tc (pos + c : Nat) ca nc cc k' fail fe) 29 (0, 0)) ∧
    Row w' U N (fun i => if off ≤ i ∧ i < off + c then ft (pos + (i - off)) else fU i) ∧ Same [S, U] W w'

set_option maxRecDepth 100000 in
set_option maxHeartbeats 2000000 in
theorem sread_some (S n tc pos nc cc k T U off m pc N : Nat) (ca : Option Addr) (fail : Bool) (fe : Addr) (ft fU fc : Nat → Nat) (W : World) (h : W.heap[S]? = some (.cells (SB (some ⟨T, 0, none⟩) n tc pos ca nc cc k fail fe) 29 (0, 0)))
    (hpos : pos < n) (hn : n ≤ 4000000) (hk : k ≤ 4000000) (hm : 0 < m) (hmN : off + m ≤ N) (hmp : m ≤ pc) (hm4 : m ≤ 4000000) (hnt : n ≤ tc) (hT : Row W T n ft) (hU : Row W U N fU) (hc : Bytes W ca nc fc) (hfc : ∀ i, fc i < 256) (hnc : nc ≤ 4000000) (hcS : ∀ p, ca = some p → p.block ≠ S ∧ p.block ≠ U) (hST : S ≠ T) (hSU : S ≠ U) (hTU : T ≠ U) :
    Calls Ybad.prog 32 #[.pointer (some ⟨S, 0, none⟩), .slice (some ⟨U, off, none⟩) m pc] W (SourceSaid S n tc pos nc cc k T U off m N ca fail fe ft fU W) := by
  obtain ⟨s0, s1, s2, s3, s4, s5, sf⟩ := scells h
  have i1 : decide ((n : Int) ≤ (pos : Int)) = false := decide_eq_false (by omega)
  have i2 : ¬ (n : Int) ≤ (pos : Int) := by omega
  have hnI : (n : Int) ≤ 4000000 := by omega
  have hkI : (k : Int) ≤ 4000000 := by omega
  have hmI : (m : Int) ≤ 4000000 := by omega
  have e1 : IntKind.i64.wrap ((n : Int) - (pos : Int)) = (n : Int) - (pos : Int) := IntWalk.i64_in _ (by omega)
  clear hn hk hm4
  go_enter Ybad.func32, Ybad.ntmps32
  go_wp2
  go_quiet (fail)
  obtain ⟨q0, hq0⟩ : ∃ q, nq = q := ⟨_, rfl⟩
  rw [hq0]
  clear hq0
  go_wp2
  go_quiet (fail)
  rw [World.drewN_drewN]
  obtain ⟨q1, hq1⟩ : ∃ q, q0 + nq = q := ⟨_, rfl⟩
  rw [hq1]
  clear hq1
  obtain ⟨d, hd⟩ : ∃ d : Nat, (n : Int) - (pos : Int) = (d : Int) := ⟨n - pos, by omega⟩
  rw [hd]
  have hd1 : pos + d = n := by omega
  clear e1 hd
  go_upto_if 42 with fail
  go_cut [6] (fun v wx => ChunkSaid S n tc pos nc cc k T ca fail fe W v wx)
  case first =>
    by_cases h0 : nc = 0
    · subst h0
      go_wp2
      go_meet
      exact ⟨d, k, rfl, by omega, by omega, by omega, h, Same.drewN _ _ _⟩
    · rcases hc with hz | ⟨cb, co, rfl, hcc⟩
      · exact absurd hz h0
      · have hnc0 : (0 : Int) < (nc : Int) := by omega
        obtain ⟨r, hr⟩ : ∃ r : Nat, (k : Int) % (nc : Int) = (r : Int) := ⟨k % nc, by omega⟩
        have hr2 : r < nc := by
          have := Int.emod_lt_of_pos (k : Int) (show (0 : Int) < (nc : Int) by omega)
          omega
        have ccr := hcc r hr2
        have hfr := hfc r
        have j1 : (0 : Int) ≤ (r : Int) := by omega
        have j2 : (r : Int) < (nc : Int) := by omega
        have j3 : ((nc : Int) == 0) = false := beq_eq_false_iff_ne.2 (by omega)
        have j4 : IntKind.i64.wrap (1 + (fc r : Int) % 16) = 1 + (fc r : Int) % 16 := IntWalk.i64_in _ (by omega)
        obtain ⟨cq, hcq⟩ : ∃ cq : Nat, 1 + (fc r : Int) % 16 = (cq : Int) := ⟨1 + fc r % 16, by omega⟩
        have hcq1 : 1 ≤ cq := by omega
        clear hcc hfc
        go_wp2
        go_quiet (fail)
        rw [World.drewN_drewN]
        obtain ⟨q2, hq2⟩ : ∃ q, q1 + nq = q := ⟨_, rfl⟩
        rw [hq2]
        clear hq2
        have hS2 : (W.drewN q2).heap[S]? = some (.cells (SB (some ⟨T, 0, none⟩) n tc pos (some ⟨cb, co, none⟩) nc cc k fail fe) 29 (0, 0)) := h
        by_cases hlt : cq < d
        · have hlt' : (cq : Int) < (d : Int) := by omega
          go_wp2
          go_meet
          rw [show (k : Int) + 1 = ((k + 1 : Nat) : Int) by omega]
          exact ⟨cq, k + 1, rfl, hcq1, by omega, Nat.le_refl _, sb_k hS2, (Same.drewN _ _ _).trans (Same.setCell _ _ _ _ (by simp))⟩
        · have hlt' : ¬ (cq : Int) < (d : Int) := by omega
          go_wp2
          go_meet
          rw [show (k : Int) + 1 = ((k + 1 : Nat) : Int) by omega]
          exact ⟨d, k + 1, rfl, by omega, by omega, Nat.le_refl _, sb_k hS2, (Same.drewN _ _ _).trans (Same.setCell _ _ _ _ (by simp))⟩
  case rest =>
    obtain ⟨c0, k', rfl, hc1, hc2, hk', hS3, hsm⟩ := hcut
    have hT3 := hT.same hsm (by simp; omega)
    have hU3 := hU.same hsm (by simp; omega)
    clear s0 s1 s2 s3 s4 s5 sf h hT hU hc hfc
    obtain ⟨s0, s1, s2, s3, s4, s5, sf⟩ := scells hS3
    go_upto_if 76 with fail
    go_cut [6] (fun v wx => wx = wc ∧ ∃ c : Nat, v = .int .i64 (c : Int) ∧ 1 ≤ c ∧ c ≤ m ∧ pos + c ≤ n)
    case first =>
      by_cases hlt : m < c0
      · have hlt' : (m : Int) < (c0 : Int) := by omega
        go_wp2
        go_meet
        exact ⟨rfl, m, rfl, by omega, Nat.le_refl _, by omega⟩
      · have hlt' : ¬ (m : Int) < (c0 : Int) := by omega
        go_wp2
        go_meet
        exact ⟨rfl, c0, rfl, by omega, by omega, by omega⟩
    case rest =>
      obtain ⟨rfl, c, rfl, hc3, hc4, hc5⟩ := hcut
      obtain ⟨hi, hhi⟩ : ∃ hi, hi = pos + c := ⟨_, rfl⟩
      have y1 : IntKind.i64.wrap ((pos : Int) + (c : Int)) = (hi : Int) := by rw [show (pos : Int) + (c : Int) = (hi : Int) by omega]; exact IntWalk.i64_in _ (by omega)
      have y0 : (pos : Int) + (c : Int) = (hi : Int) := by omega
      have y2 : (c : Int) ≤ (pc : Int) := by omega
      have y9 : pos ≤ hi := by omega
      have y3 : (pos : Int) ≤ (hi : Int) := by omega
      have y4 : (hi : Int) ≤ (tc : Int) := by omega
      have y5 : ¬ tc = pos := by omega
      have y6 : hi - pos = c := by omega
      have y7 : (0 : Int) ≤ (pos : Int) := by omega
      have y8 : (0 : Int) ≤ (c : Int) := by omega
      have hTb : Bytes wc.drew (some ⟨T, pos, none⟩) c (fun j => ft (pos + j)) := .inr ⟨T, pos, rfl, fun j hj => hT3.cell (by omega)⟩
      have hU3d : Row wc.drew U N fU := hU3
      have HI : Hid (hi = pos + c) := hhi
      have y10 : IntKind.i64.wrap (hi : Int) = (hi : Int) := IntWalk.i64_in _ (by omega)
      clear hhi y1
      go_wp2
      go_region_law ((refine step_copy_but rfl (.tmp 81) (.tmp 96) rfl _ _ _ _ _ _ rfl rfl U off N c _ (fun j => ft (pos + j)) hU3d ?_ hTb ?_ (by omega) ?_; (first | rfl | (show c = min c _; omega)); (intro _; rfl); intro w3 hr3 hb3))
      all_goals
        have hS4 : w3.heap[S]? = some (.cells (SB (some ⟨T, 0, none⟩) n tc pos ca nc cc k' fail fe) 29 (0, 0)) := ((hb3 (S + 1)).block S (by omega) hSU).trans hS3
        have hsame : Same [S, U] wc w3 := (Same.drew _ wc).trans ((But.same (hb3 wc.drew.heap.size)).more (by simp))
        clear s0 s1 s2 s3 s4 s5 sf
        obtain ⟨s0, s1, s2, s3, s4, s5, sf⟩ := scells hS4
        go_wp2
        go_ret2
        have hl := HI.out
        subst hl
        exact ⟨c, k', rfl, hc3, hc4, hc5, hk', sb_pos hS4, (hr3.block (Below.heap_setCell _ _ _ _ (by show U ≠ S; omega))), ((hsm.more (by simp)).trans hsame).trans (Same.setCell _ _ _ _ (by simp))⟩
end Go.Proofs.YbulkdlswDoor
