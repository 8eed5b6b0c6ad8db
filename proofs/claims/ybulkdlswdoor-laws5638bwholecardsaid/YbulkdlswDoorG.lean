/-
  Texts out of bytes; withoutByteOrderMark.
-/
import Derived.Test.YbulkdlswDoorE
import Derived.Test.YbulkdlswDoorF
import Derived.Laws.BytesArg
import Derived.MapKept
import Derived.Laws.StructEq
namespace Go.Proofs.YbulkdlswDoor
open Go.RowKit Go.Shelf

/-- The string of the first m bytes. -/
def str (f : Nat → Nat) (m : Nat) : ByteArray := strOfNums ((List.range m).map fun i => (f i : Int))

theorem under5 : Ybad.prog.underlying 5 = some (.int .u8) := by kernel_rfl
theorem under9 : Ybad.prog.underlying 9 = some .string := by kernel_rfl

theorem conv_bytes {w : World} {a : Option Addr} {len cap : Nat} {f : Nat → Nat} (h : Bytes w a len f) : (convert 22 9 (.slice a len cap)).run Ybad.prog w = .ok (.string (str f len)) w := by
  by_cases h0 : len = 0
  · subst h0
    cases a with
    | none => rw [run_convert_bytes_nil w 22 5 Ybad.underlying22 under5 0 cap 9 under9]; rfl
    | some p => rw [run_convert_bytes_string w 22 9 5 _ 0 cap Ybad.underlying22 under5 under9, run_bytesToString w p 0 cap [] (by simpa using run_loadCells_list (P := Ybad.prog) w p [] (by simp))]; rfl
  · rcases h with h | ⟨b, off, rfl, hc⟩
    · exact absurd h h0
    · exact run_convert_bytes_arg w 22 5 Ybad.underlying22 under5 b off len cap _ (by simp) (fun i hi => by rw [hc i hi]; simp [List.getD, hi]) 9 under9

theorem str_eq (f g : Nat → Nat) (m m' : Nat) (hf : ∀ i, i < m → f i < 256) (hg : ∀ i, i < m' → g i < 256) : str f m = str g m' ↔ m = m' ∧ ∀ i, i < m → f i = g i := by
  constructor
  · intro h
    have h2 : (str f m).data.toList = (str g m').data.toList := by rw [h]
    rw [str, str, strOfNums_data, strOfNums_data] at h2
    have hl : m = m' := by simpa using congrArg List.length h2
    subst hl
    refine ⟨rfl, fun i hi => ?_⟩
    have h3 := congrArg (fun l => l[i]?) h2
    simp [hi] at h3
    have h4 := congrArg UInt8.toNat h3
    simpa [Nat.mod_eq_of_lt (hf i hi), Nat.mod_eq_of_lt (hg i hi)] using h4
  · rintro ⟨rfl, h⟩
    unfold str
    congr 1
    exact List.map_congr_left (fun i hi => by rw [h i (List.mem_range.1 hi)])

theorem bytes_ne {s t : ByteArray} (h : ¬ s = t) : (s.toList == t.toList) = false := by
  rw [← beq_toListBytes]
  exact Bool.eq_false_iff.2 (fun e => h ((MapKept.bytes_beq s t).1 e))
theorem bytes_yes {s t : ByteArray} (h : s = t) : (s.toList == t.toList) = true := by
  rw [← beq_toListBytes]
  exact (MapKept.bytes_beq s t).2 h
theorem markList : ({ data := #[239, 187, 191] } : ByteArray).toList = [239, 187, 191] := by decide +kernel

/-- The mark's bytes. -/
def markB (i : Nat) : Nat := if i = 0 then 239 else if i = 1 then 187 else 191
theorem markStr : ({ data := #[239, 187, 191] } : ByteArray) = str markB 3 := by decide +kernel
/-- The text begins with the mark. -/
abbrev Marked (n : Nat) (ft : Nat → Nat) : Prop := 3 ≤ n ∧ ft 0 = 239 ∧ ft 1 = 187 ∧ ft 2 = 191
theorem mark_eq (f : Nat → Nat) (m : Nat) (hf : ∀ i, i < m → f i < 256) : str f m = { data := #[239, 187, 191] } ↔ m = 3 ∧ f 0 = 239 ∧ f 1 = 187 ∧ f 2 = 191 := by
  rw [markStr, str_eq f markB m 3 hf (fun i _ => by unfold markB; split <;> (try split) <;> omega)]
  constructor
  · rintro ⟨rfl, h⟩
    exact ⟨rfl, h 0 (by omega), h 1 (by omega), h 2 (by omega)⟩
  · rintro ⟨rfl, h0, h1, h2⟩
    refine ⟨rfl, fun i hi => ?_⟩
    rcases (show i = 0 ∨ i = 1 ∨ i = 2 by omega) with rfl | rfl | rfl
    · exact h0
    · exact h1
    · exact h2

/-- The reader between two calls: 'at' bytes of the text were handed out; the buffer's rest are the next. -/
def Live (R S U bl n tc nc cc : Nat) (ta ca : Option Addr) (fail : Bool) (fe : Addr) (ft : Nat → Nat) (at' : Nat) (wr : World) : Prop :=
  ∃ (r w pos k : Nat) (fU : Nat → Nat) (lb lr : Int), r ≤ w ∧ w ≤ bl ∧ pos ≤ n ∧ k ≤ pos ∧ at' + (w - r) = pos ∧ wr.heap[R]? = some (.cells (RB U bl (.iface 27 (.pointer (some ⟨S, 0, none⟩))) r w .nilIface lb lr) 47 (0, 0)) ∧
    wr.heap[S]? = some (.cells (SB ta n tc pos ca nc cc k fail fe) 29 (0, 0)) ∧ Row wr U bl fU ∧ (∀ i, r ≤ i → i < w → fU i = ft (at' + (i - r)))

theorem Same.shed {ex ex' : List Nat} {a b c : World} (h : Same ex' a b) (k : Same ex b c) (hx : ∀ i ∈ ex, i ∈ ex' ∨ a.heap.size ≤ i) : Same ex' a c :=
  ⟨k.os.trans h.os, k.tape.trans h.tape, k.output.trans h.output, Nat.le_trans h.size k.size, fun i hi hn => (k.block i (Nat.lt_of_lt_of_le hi h.size) (fun hm => by rcases hx i hm with h1 | h1; exact hn h1; omega)).trans (h.block i hi hn)⟩

/-- What withoutByteOrderMark comes to. -/
def BomSaid (S bl n tc nc cc : Nat) (ta ca : Option Addr) (fail : Bool) (fe : Addr) (ft : Nat → Nat) (W : World) (e : Ending) (w' : World) : Prop :=
  e = .returned (.pointer (some ⟨W.heap.size, 0, none⟩)) ∧ Live W.heap.size S (W.heap.size + 1) bl n tc nc cc ta ca fail fe ft (if Marked n ft then 3 else 0) w' ∧ Same [S] W w'

set_option maxRecDepth 100000 in
set_option maxHeartbeats 2000000 in
theorem bom_any (S bl n tc nc cc : Nat) (ta ca : Option Addr) (fail : Bool) (fe ea : Addr) (ft fc : Nat → Nat) (W : World) (hblI : (bl : Int) = 65536)
    (hS : W.heap[S]? = some (.cells (SB ta n tc 0 ca nc cc 0 fail fe) 29 (0, 0))) (hg : W.cell? ⟨0, 0, none⟩ = some (.iface 37 (.pointer (some ea)))) (h0 : 0 ≠ S) (hn : n ≤ 3000000) (hnt : n ≤ tc) (hT : TextAt W ta n ft [S]) (hft : ∀ i, i < n → ft i < 256) (hc : Bytes W ca nc fc) (hfc : ∀ i, fc i < 256) (hnc : nc ≤ 4000000)
    (hcS : ∀ p, ca = some p → p.block ≠ S ∧ p.block < W.heap.size) :
    Calls Ybad.prog 6 #[.iface 27 (.pointer (some ⟨S, 0, none⟩))] W (BomSaid S bl n tc nc cc ta ca fail fe ft W) := by
  have hSl : S < W.heap.size := World.block_lt_of_cell? W _ (scells hS).1
  have h0l := World.block_lt_of_cell? W _ hg
  have h10 := newReader bl (.pointer (some ⟨S, 0, none⟩)) W (by omega) (by omega)
  rw [hblI] at h10
  have HB : Hid ((bl : Int) = 65536) := hblI
  clear hblI
  go_enter Ybad.func6, Ybad.ntmps6
  go_wp2_with fail
  refine h10.mono ?_
  rintro e w1 ⟨rfl, hR1, hU1, hb1⟩
  obtain ⟨R, hR⟩ : ∃ R, R = W.heap.size := ⟨_, rfl⟩
  have hs1 : Same [S] W w1 := Below.same hb1 _ (Nat.le_refl _)
  have hS1 := (hb1.block S hSl).trans hS
  have hT1 : TextAt w1 ta n ft [W.heap.size, S, W.heap.size + 1] := by
    rcases hT with h | ⟨T, h1, h2, h3⟩
    · exact .inl h
    · have := h2.lt
      exact .inr ⟨T, h1, h2.below hb1 h2.lt, by simp at h3 ⊢; omega⟩
  have hc1 := hc.below hb1 (Nat.le_refl _)
  have hg1 : w1.cell? ⟨0, 0, none⟩ = some (.iface 37 (.pointer (some ea))) := (hb1.cell (p := ⟨0, 0, none⟩) h0l).trans hg
  simp only [← hR] at hR1 hU1 hSl hT1 h0l hcS hb1 ⊢
  obtain ⟨va, hva⟩ : ∃ va, (if fail = true then fe else ea) = va := ⟨_, rfl⟩
  have h11 := peek_any R S (R + 1) bl n tc nc cc ta ca fail fe ea va (-1) (-1) ft _ fc w1 hR1 hS1 hva hg1 ⟨by have h0l2 : 0 < R := h0l; omega, h0, by omega⟩ (by have := HB.out; omega) (by have := HB.out; omega) hn hnt hT1 hU1 hc1 hfc hnc (fun p hp => by have := hcS p hp; omega) (by omega) (by omega) (by omega)
  have HR : Hid (R = W.heap.size) := hR
  clear hn hnc hfc hc hc1 hcS hR1 hS1 hT1 hU1 hg1 hva hg h0l hR h10
  go_wp2_with fail
  refine h11.mono ?_
  rintro e w2 ⟨w, m, ev, rfl, hm, k', fU', hwn, hwb, hkw, -, hR2, hS2, hU2, hfU2, hsm2⟩
  have hconv := conv_bytes (cap := bl) ((hU2.shorter (show m ≤ bl by rcases hm with h | h <;> omega)).bytes)
  have hmk := mark_eq fU' m (fun i hi => by rw [hfU2 i (by rcases hm with h | h <;> omega)]; exact hft i (by rcases hm with h | h <;> omega))
  have hs2 : Same [S] W w2 := hs1.shed hsm2 (by have := HR.out; simp; omega)
  have hmark : (m = 3 ∧ fU' 0 = 239 ∧ fU' 1 = 187 ∧ fU' 2 = 191) ↔ Marked n ft := by
    constructor
    · rintro ⟨rfl, h0, h1, h2⟩
      rcases hm with h | h
      · exact ⟨by omega, by rw [← hfU2 0 (by omega)]; exact h0, by rw [← hfU2 1 (by omega)]; exact h1, by rw [← hfU2 2 (by omega)]; exact h2⟩
      · omega
    · rintro ⟨h3, h0, h1, h2⟩
      rcases hm with h | h
      · exact ⟨by omega, by rw [hfU2 0 (by omega)]; exact h0, by rw [hfU2 1 (by omega)]; exact h1, by rw [hfU2 2 (by omega)]; exact h2⟩
      · omega
  obtain ⟨s, hs⟩ : ∃ s, str fU' m = s := ⟨_, rfl⟩
  rw [hs] at hconv hmk
  by_cases hM : Marked n ft
  · obtain ⟨rfl, -⟩ := hmark.2 hM
    have hs3 : s = { data := #[239, 187, 191] } := hmk.2 (hmark.2 hM)
    have hw3 : 3 ≤ w := by have := hM.1; omega
    have h12 := discard3 R (R + 1) bl w _ (-1) (-1) w2 hR2 hw3 (by have := HB.out; omega)
    subst hs3
    have HM : Hid (Marked n ft) := hM
    clear hmk hmark hs hM hm hft h11
    go_wp2_with fail
    refine h12.mono ?_
    rintro e w3 ⟨rfl, hR3, hsm3⟩
    go_wp2
    go_ret
    have hR := HR.out
    rw [hR]
    refine ⟨rfl, ?_, hs2.shed hsm3 (by have := HR.out; simp; omega)⟩
    rw [if_pos HM.out, ← hR]
    exact ⟨3, w, w, k', fU', -1, -1, hw3, hwb, hwn, hkw, by omega, hR3, (hsm3.block S (World.block_lt_of_cell? w2 _ (scells hS2).1) (by simp; omega)).trans hS2, hU2.same hsm3 (by simp), fun i h1 h2 => by rw [hfU2 i h2]; congr 1; omega⟩
  · have hs3 : ¬ s = { data := #[239, 187, 191] } := fun e => hM (hmark.1 (hmk.1 e))
    have hs4 := bytes_ne hs3
    rw [markList] at hs4
    clear hs3
    have HM : Hid (¬ Marked n ft) := hM
    clear hmk hmark hs hM hm hft h11
    go_wp2
    go_ret
    have hR := HR.out
    rw [hR]
    refine ⟨rfl, ?_, hs2⟩
    rw [if_neg HM.out, ← hR]
    exact ⟨0, w, w, k', fU', -1, -1, Nat.zero_le _, hwb, hwn, hkw, by omega, hR2, hS2, hU2, fun i h1 h2 => by rw [hfU2 i h2]; congr 1; omega⟩
end Go.Proofs.YbulkdlswDoor
