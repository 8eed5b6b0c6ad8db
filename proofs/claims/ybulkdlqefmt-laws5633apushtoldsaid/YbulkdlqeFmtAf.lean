/-
  THE ARGUMENT OF LawS5633APart, OPENED.
-/
import Derived.Test.YbulkdlqeFmtAe
import Derived.Test.YbulkdlqeFmtT
import Derived.SizedLaws
namespace Go.Proofs.YbulkdlqeFmt
open Go.ChangeShapes Go.WideShapes Go.ChangeAt Go.RowKit Go.WideMaps Go.WideElems

theorem nat_u8 {x : Int} (h : (Lit.int .u8 x).wf = true) : ∃ n : Nat, x = n ∧ n < 256 := by
  have := bounds_u8 h
  exact ⟨x.toNat, by omega, by omega⟩
theorem nat_u16 {x : Int} (h : (Lit.int .u16 x).wf = true) : ∃ n : Nat, x = n ∧ n < 65536 := by
  have := bounds_u16 h
  exact ⟨x.toNat, by omega, by omega⟩
theorem nat_u32 {x : Int} (h : (Lit.int .u32 x).wf = true) : ∃ n : Nat, x = n ∧ n < 4294967296 := by
  have := bounds_u32 h
  exact ⟨x.toNat, by omega, by omega⟩

/-- Numbers within a bound, as a function on all places. -/
theorem fun_of (k : IntKind) (M : Nat) (hM : 0 < M) (hb : ∀ x : Int, (Lit.int k x).wf = true → 0 ≤ x ∧ x < M) (zs : List Int) (hz : ∀ n ∈ zs, (Lit.int k n).wf = true) :
    ∃ f : Nat → Nat, (∀ i, f i < M) ∧ ∀ i, i < zs.length → zs.getD i 0 = (f i : Int) := by
  refine ⟨fun i => (zs.getD i 0).toNat, fun i => ?_, fun i hi => ?_⟩
  · by_cases hi : i < zs.length
    · have := hb _ (hz (zs.getD i 0) (by simp [List.getD, hi]))
      show (zs.getD i 0).toNat < M
      omega
    · show (zs.getD i 0).toNat < M
      rw [List.getD, List.getElem?_eq_none (by omega)]
      simpa using hM
  · have := hb _ (hz (zs.getD i 0) (by simp [List.getD, hi]))
    show zs.getD i 0 = ((zs.getD i 0).toNat : Int)
    omega

/-- A slice of bytes that came in. -/
theorem bytes_of {H : Type} {enc : TypeId × Value → H} {W : World} {held : Bool} {fuel : Nat} {v : Value} {x : DataW H × List MemPlace} (h : DataW.trod enc Ybaf.prog W 0 (fun _ => true) held fuel 22 [v] = some x) :
    ∃ a len cap f, v = .slice a len cap ∧ Bytes W a len f ∧ (∀ i, f i < 256) ∧ (a = none → len = 0 ∧ cap = 0) ∧ (len = 0 ∨ ∃ es sp, x.1 = .slice es sp ∧ es.length = len) := by
  rcases open_ints Ybaf.underlying22 Ybaf.underlying5 (by kernel_rfl) h with ⟨hcs, hx⟩ | ⟨a, l, c, zs, hcs, _, hl, hm, hz, hx, hcell, hwz⟩
  · simp at hcs
    exact ⟨none, 0, 0, fun _ => 0, hcs, .inl rfl, fun _ => (by decide : (0 : Nat) < 256), fun _ => ⟨rfl, rfl⟩, .inl rfl⟩
  · simp at hcs hz
    obtain ⟨f, hf, hfz⟩ := fun_of .u8 256 (by omega) (fun x hx => by have := bounds_u8 hx; omega) zs hwz
    refine ⟨some a, l, c, f, hcs, ?_, hf, (fun h => by cases h), .inr ⟨lits .u8 (zs.take l), lits .u8 (zs.drop l), by rw [hx], by simp [lits]; omega⟩⟩
    by_cases h0 : l = 0
    · exact .inl h0
    · obtain ⟨b, off, spot⟩ := a
      have hspot : spot = none := by simpa [Addr.add] using World.cell?_spot (hcell 0 (by omega))
      subst hspot
      refine .inr ⟨b, off, rfl, fun i hi => ?_⟩
      rw [← add_plain, ← hfz i (by omega)]
      exact hcell i (by omega)
/-- A slice of uint64 that came in. -/
theorem words_of {H : Type} {enc : TypeId × Value → H} {W : World} {held : Bool} {fuel : Nat} {v : Value} {x : DataW H × List MemPlace} (h : DataW.trod enc Ybaf.prog W 0 (fun _ => true) held fuel 25 [v] = some x) :
    ∃ a len cap f, v = .slice a len cap ∧ Words W a len f ∧ (∀ i, f i < 18446744073709551616) := by
  rcases open_ints Ybaf.underlying25 Ybaf.underlying51 (by kernel_rfl) h with ⟨hcs, hx⟩ | ⟨a, l, c, zs, hcs, _, hl, hm, hz, hx, hcell, hwz⟩
  · simp at hcs
    exact ⟨none, 0, 0, fun _ => 0, hcs, .inl rfl, fun _ => (by decide : (0 : Nat) < 18446744073709551616)⟩
  · simp at hcs hz
    obtain ⟨f, hf, hfz⟩ := fun_of .u64 18446744073709551616 (by omega) (fun x hx => by have := wf_u64 hx; omega) zs hwz
    refine ⟨some a, l, c, f, hcs, ?_, hf⟩
    by_cases h0 : l = 0
    · exact .inl h0
    · obtain ⟨b, off, spot⟩ := a
      have hspot : spot = none := by simpa [Addr.add] using World.cell?_spot (hcell 0 (by omega))
      subst hspot
      refine .inr ⟨b, off, rfl, fun i hi => ?_⟩
      rw [← add_plain, ← hfz i (by omega)]
      exact hcell i (by omega)
theorem u8_of {H : Type} {enc : TypeId × Value → H} {W : World} {held : Bool} {fuel : Nat} {v : Value} {x : DataW H × List MemPlace} (h : DataW.trod enc Ybaf.prog W 0 (fun _ => true) held fuel 5 [v] = some x) : ∃ n : Nat, v = .int .u8 (n : Int) ∧ n < 256 := by
  obtain ⟨z, hz, _, hw⟩ := DataW.trod_int Ybaf.underlying5 h
  obtain ⟨n, rfl, hn⟩ := nat_u8 hw
  exact ⟨n, by simpa using hz, hn⟩
theorem u16_of {H : Type} {enc : TypeId × Value → H} {W : World} {held : Bool} {fuel : Nat} {v : Value} {x : DataW H × List MemPlace} (h : DataW.trod enc Ybaf.prog W 0 (fun _ => true) held fuel 23 [v] = some x) : ∃ n : Nat, v = .int .u16 (n : Int) ∧ n < 65536 := by
  obtain ⟨z, hz, _, hw⟩ := DataW.trod_int Ybaf.underlying23 h
  obtain ⟨n, rfl, hn⟩ := nat_u16 hw
  exact ⟨n, by simpa using hz, hn⟩
theorem u32_of {H : Type} {enc : TypeId × Value → H} {W : World} {held : Bool} {fuel : Nat} {v : Value} {x : DataW H × List MemPlace} (h : DataW.trod enc Ybaf.prog W 0 (fun _ => true) held fuel 24 [v] = some x) : ∃ n : Nat, v = .int .u32 (n : Int) ∧ n < 4294967296 := by
  obtain ⟨z, hz, _, hw⟩ := DataW.trod_int Ybaf.underlying24 h
  obtain ⟨n, rfl, hn⟩ := nat_u32 hw
  exact ⟨n, by simpa using hz, hn⟩
theorem bool_of {H : Type} {enc : TypeId × Value → H} {W : World} {held : Bool} {fuel : Nat} {v : Value} {x : DataW H × List MemPlace} (h : DataW.trod enc Ybaf.prog W 0 (fun _ => true) held fuel 4 [v] = some x) : ∃ b : Bool, v = .bool b := by
  obtain ⟨b, hz, _⟩ := DataW.trod_bool Ybaf.underlying4 h
  exact ⟨b, by simpa using hz⟩

theorem c5 : Ybaf.prog.cellsOf 5 = 1 := by kernel_rfl
theorem c4 : Ybaf.prog.cellsOf 4 = 1 := by kernel_rfl
theorem c22 : Ybaf.prog.cellsOf 22 = 1 := by kernel_rfl
theorem c23 : Ybaf.prog.cellsOf 23 = 1 := by kernel_rfl
theorem c24 : Ybaf.prog.cellsOf 24 = 1 := by kernel_rfl
theorem c25 : Ybaf.prog.cellsOf 25 = 1 := by kernel_rfl
theorem c27 : Ybaf.prog.cellsOf 27 = 15 := by kernel_rfl
theorem c46 : Ybaf.prog.cellsOf 46 = 12 := by kernel_rfl
theorem b5 : Ybaf.prog.bytesOf 5 = 1 := by kernel_rfl
end Go.Proofs.YbulkdlqeFmt
