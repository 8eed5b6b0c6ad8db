/-
  THE ROW PROVED, AND ITS TIED CARD. The frame after the guide's shell and the worked Mapy*.lean.
-/
import Derived.Test.YbulkdlswDoorRows
import Derived.Test.YbulkdlswDoorTie
import Derived.Test.YbulkdlswDoorCards
import Derived.Test.YbulkdlswDoorM
import Derived.ProofKit
import Derived.LaidMore
import Derived.OpenShut
import Derived.OpenVars
import Derived.Stop.Joined
import Derived.Stop.LaidErr
import Derived.ChangeOld
import Derived.SizedLaws
import Derived.SevenTiedAt
namespace Go.Proofs.YbulkdlswDoor
open Go.ChangeShapes Go.WideShapes Go.ChangeAt Go.WideMaps Go.WideElems Go.RowKit
set_option linter.unusedVariables false

theorem own : ownKnob Ybad.prog.godebug = none := by kernel_rfl
theorem laidOut : laidOutB Ybad.prog = true := by kernel_rfl
abbrev laid5 : List (String × DataW Unit) := Rows.lawS5638BWholeRow.laid
theorem gn0 : Ybad.prog.globalNamed "io.EOF" = some 0 := by kernel_rfl
theorem bytes5 : Ybad.prog.bytesOf 5 = 1 := by kernel_rfl
/-- The name that the errors' type bears in a datum. -/
def errName : String :=
  match (Rows.laid_io_EOF : DataW Unit) with
  | .iface s _ => s
  | _ => ""
theorem row37 (u : TypeId) (h : Ybad.prog.typeName? 3 u = some errName) : u = 37 :=
  typeName_ptr_named (nm := "errors.errorString") (by kernel_rfl) (by kernel_rfl) (by decide) u (h.trans (by decide))

set_option maxRecDepth 1000000 in
/-- The door's own heap meets the condition. -/
theorem door_met (os : Os) (args : Array Value) : laidMetH Ybad.prog laid5 ((World.doorLaid Ybad.prog 104 os).forCall (fun _ _ => 0) ⟨#[], args, []⟩).memory :=
  laidMetH_of_parts3 (fuel := 8) (laidMet_of_run' 8 (by kernel_rfl) (by kernel_rfl)) (by kernel_rfl) (by kernel_rfl)

theorem laidPlain {W : World} (h : laidMetH Ybad.prog laid5 W) : laidMet Ybad.prog laid5 W := by
  rw [MakeChecks.laidMetH_plain _ _ _ (by kernel_rfl)] at h
  exact h
theorem err_of {n : String} {text : List UInt8} {r : List (String × DataW Unit)} {W : World} {g : Nat} (h : laidMet Ybad.prog ((n, .iface errName (.ptr (.agg [.lit (.string text)]))) :: r) W) (hg : Ybad.prog.globalNamed n = some g) (ht : (Ybad.prog.globals[g]?).map (·.type) = some 25) :
    ∃ a : Addr, W.cell? ⟨g, 0, none⟩ = some (.iface 37 (.pointer (some a))) := by
  obtain ⟨a, s, hv, _, _, _⟩ := laid_sentinel (g := g) h hg ht Ybad.underlying25 row37 Ybad.underlying37 Ybad.underlying39 rfl rfl Ybad.underlying9 (by kernel_rfl) (by kernel_rfl)
  exact ⟨a, by simpa using World.var?_cell hg hv 0⟩
/-- What the condition gives the walk: io.EOF. -/
theorem of_laid {W : World} (h : laidMetH Ybad.prog laid5 W) : ∃ a : Addr, W.cell? ⟨0, 0, none⟩ = some (.iface 37 (.pointer (some a))) :=
  err_of (g := 0) (laidPlain h) gn0 (by kernel_rfl)

/-- What the walk is told of a slice of bytes that came in. -/
def IsRow (w : World) (a : Option Addr) (len cap : Nat) (zs : List Int) : Prop :=
  (a = none ∧ len = 0 ∧ cap = 0 ∧ zs = []) ∨
  ∃ x, a = some x ∧ len ≤ cap ∧ cap ≤ maxLen ∧ zs.length = cap ∧ (∀ i, i < zs.length → w.cell? (x.add i) = some (.int .u8 (zs.getD i 0))) ∧ ∀ n ∈ zs, (Lit.int .u8 n).wf = true
theorem IsRow.lt {w : World} {a : Option Addr} {len cap : Nat} {zs : List Int} (h : IsRow w a len cap zs) (i : Nat) : 0 ≤ zs.getD i 0 ∧ zs.getD i 0 < 256 := by
  by_cases hi : i < zs.length
  · have hm : zs.getD i 0 ∈ zs := by rw [List.getD_eq_getElem?_getD, List.getElem?_eq_getElem hi]; exact List.getElem_mem hi
    rcases h with ⟨_, _, _, rfl⟩ | ⟨x, _, _, _, _, _, hw⟩
    · cases hm
    · have := bounds_u8 (hw _ hm)
      omega
  · rw [List.getD_eq_getElem?_getD, List.getElem?_eq_none (by omega)]
    simp
theorem IsRow.bytes {w : World} {a : Option Addr} {len cap : Nat} {zs : List Int} (h : IsRow w a len cap zs) : Bytes w a len (fun i => (zs.getD i 0).toNat) ∧ (a = none → len = 0 ∧ cap = 0) := by
  have hlt := h.lt
  rcases h with ⟨rfl, rfl, rfl, rfl⟩ | ⟨x, rfl, hl, hm, hz, hc, hw⟩
  · exact ⟨.inl rfl, fun _ => ⟨rfl, rfl⟩⟩
  · refine ⟨?_, fun h => by cases h⟩
    by_cases h0 : len = 0
    · exact .inl h0
    · obtain ⟨b, off, spot⟩ := x
      have hspot : spot = none := by simpa [Addr.add] using World.cell?_spot (hc 0 (by omega))
      subst hspot
      refine .inr ⟨b, off, rfl, fun i hi => ?_⟩
      rw [← add_plain, hc i (by omega)]
      have := hlt i
      congr 2
      show zs.getD i 0 = (((zs.getD i 0).toNat : Nat) : Int)
      omega

theorem block_of_ok {W : World} {base : Nat} {a : Option Addr} {len cap : Nat} (h : Value.okWide Ybad.prog W .any base 22 (.slice a len cap)) : ∀ p, a = some p → p.block < W.heap.size := by
  rintro p rfl
  have h2 : Cell.ok Ybad.prog W .any base 22 (.slice (some p) len cap) := by
    have h1 := h
    unfold Value.okWide Cell.okWide at h1
    rw [Ybad.underlying22] at h1
    exact h1
  unfold Cell.ok at h2
  rw [Ybad.underlying22] at h2
  obtain ⟨_, _, _, _, row, cells, hsh, _⟩ := h2
  by_cases hl : p.block < W.heap.size
  · exact hl
  · unfold World.shape? at hsh
    rw [Array.getElem?_eq_none (by omega)] at hsh
    cases hsh

theorem walk (a0 : Option Addr) (len0 cap0 : Nat) (z0 : List Int) (a1 : Int) (a2 : Option Addr) (len2 cap2 : Nat) (z2 : List Int) (b3 : Bool) (ea : Addr) (w : World) (w0 : IsRow w a0 len0 cap0 z0) (w1 : (Lit.int .u8 a1).wf = true) (w2 : IsRow w a2 len2 cap2 z2) (r0 : len0 ≤ 140737488351232) (r2 : len2 ≤ 140737488351232) (x0 : ∀ p, a0 = some p → p.block < w.heap.size) (x2 : ∀ p, a2 = some p → p.block < w.heap.size)
    (hg : w.cell? ⟨0, 0, none⟩ = some (.iface 37 (.pointer (some ea)))) :
    Calls Ybad.prog 3 #[.slice a0 len0 cap0, .int .u8 a1, .slice a2 len2 cap2, .bool b3] w fun e w' => e = .returned (.bool true) ∧ Below w.heap.size w w' := by
  have hb := bounds_u8 w1
  obtain ⟨ld, rfl⟩ : ∃ ld : Nat, a1 = (ld : Int) := ⟨a1.toNat, by omega⟩
  by_cases hbig : 1048576 < len0 + len2
  · refine (law_big a0 a2 len0 cap0 len2 cap2 ld b3 w hbig r0 r2).mono ?_
    rintro e w' ⟨rfl, rfl⟩
    exact ⟨rfl, Below.refl _ _⟩
  · exact law_small a0 a2 len0 cap0 len2 cap2 ld b3 ea _ _ w hg w0.bytes.1 w2.bytes.1 (fun i => by have := w0.lt i; show (z0.getD i 0).toNat < 256; omega) (fun i => by have := w2.lt i; show (z2.getD i 0).toNat < 256; omega) w0.bytes.2 x0 x2 (by omega)

set_option maxRecDepth 100000 in
theorem lifted (os : Os) (started : os.Started) (H : Type) (enc : TypeId × Value → H) :
    ReturnsInHanded {} Ybad.checked os 3 .any (fun w args => (Rows.lawS5638BWholeSpec.pre enc Ybad.prog Ybad.f3 [] false w args ∧ laidMetH Ybad.prog laid5 w) ∧ sizedMet enc Ybad.prog Ybad.f3 (OpenSpec.ofChange Rows.lawS5638BWholeSpec) false w args)
      (Rows.lawS5638BWholeSpec.post enc Ybad.prog Ybad.f3 false true false false) := by
  refine returnsInHanded_of_change_and (C := Ybad.checked) (X := fun w _ => laidMetH Ybad.prog laid5 w) (fun _ _ _ hh h => h.of_heap hh) own started (by kernel_rfl) Ybad.func3
    (ChangeSpec.witness_shaped (enc := enc) (C := Ybad.checked) (os := os) (X := fun w _ => laidMetH Ybad.prog laid5 w) false (World.doorLaid Ybad.prog 104 os) #[.slice none 0 0, .int .u8 0, .slice none 0 0, .bool false] 8 rfl (World.shaped_of_RefB (by kernel_rfl) (by kernel_rfl)) (by kernel_rfl) (by kernel_rfl) (by kernel_rfl) (door_met os _)) ?_
  intro W base args ds gs before hval0 hW _ hsz0 hL _
  have hval : ∀ (j : Nat) t v, Ybad.f3.params[j]? = some t → args[j]? = some v → Value.okWide Ybad.prog W .any base t v := hval0
  have hsz : (DataW.weightsEach Ybad.prog (Ybad.f3.params.toList ++ Rows.lawS5638BWholeSpec.plain.varTypes Ybad.prog) (ds ++ gs)).all (· ≤ reachBytes) = true := hsz0
  have hW' := hW
  obtain ⟨p, q, hA0, hV0, rfl, hfz, hnd⟩ := hW
  have hA : DataW.TrodAll enc Ybad.prog W 0 (fun _ => true) true Ybad.f3.params.toList args.toList ds p := hA0
  have hV : DataW.TrodVars enc Ybad.prog W (fun _ => true) [] gs q := hV0
  rw [Ybad.params3] at hA hval hsz
  obtain ⟨v0, vs0, d0, ds0, p0, q0, hargs, rfl, rfl, h0, r0⟩ := trodAll_cons hA
  obtain ⟨v1, vs1, d1, ds1, p1, q1, rfl, rfl, rfl, h1, r1⟩ := trodAll_cons r0
  obtain ⟨v2, vs2, d2, ds2, p2, q2, rfl, rfl, rfl, h2, r2⟩ := trodAll_cons r1
  obtain ⟨v3, vs3, d3, ds3, p3, q3, rfl, rfl, rfl, h3, r3⟩ := trodAll_cons r2
  obtain ⟨rfl, rfl, rfl⟩ := trodAll_nil r3
  obtain rfl : args = #[v0, v1, v2, v3] := by cases args; simp_all
  obtain ⟨rfl, rfl⟩ := trodVars_none hV
  obtain ⟨a1, rfl, rfl, rfl, w1⟩ := open_int Ybad.underlying5 (hval 1 5 v1 rfl rfl) h1
  obtain ⟨b3, rfl, rfl, rfl⟩ := open_bool Ybad.underlying4 (hval 3 4 v3 rfl rfl) h3
  obtain ⟨a0, len0, cap0, rfl⟩ := okWide_slice Ybad.underlying22 (hval 0 22 v0 rfl rfl)
  have x0 := block_of_ok (hval 0 22 _ rfl rfl)
  have k0 := h0
  have lt0 : ∀ x ∈ p0, x.block < W.heap.size := by obtain ⟨m, hm⟩ := k0; exact DataW.trod_lt m _ _ _ hm
  obtain ⟨z0, w0, rr0⟩ : ∃ zs, IsRow W a0 len0 cap0 zs ∧ len0 ≤ 140737488351232 := by
    obtain ⟨fuel, hf⟩ := h0
    rcases open_ints Ybad.underlying22 Ybad.underlying5 (by kernel_rfl) hf with ⟨hcs, _⟩ | ⟨x, l, c, zs, hcs, _, hl, hm, hz, hx, hcell, hwz⟩
    · simp [Value.cells] at hcs
      obtain ⟨rfl, rfl, rfl⟩ := hcs
      exact ⟨[], .inl ⟨rfl, rfl, rfl, rfl⟩, by omega⟩
    · simp [Value.cells] at hcs
      obtain ⟨rfl, rfl, rfl⟩ := hcs
      refine ⟨zs, .inr ⟨_, rfl, hl, hm, by simpa using hz, hcell, hwz⟩, ?_⟩
      simp only [Prod.mk.injEq] at hx
      have := sized_slice hsz (j := 0) (t := 22) (e := 5) rfl (by rw [← hx.1]; rfl) Ybad.underlying22
      rw [bytes5] at this
      simp only [lits, List.length_map, List.length_take, List.length_drop, reachBytes] at this
      simp at hz
      omega
  obtain ⟨a2, len2, cap2, rfl⟩ := okWide_slice Ybad.underlying22 (hval 2 22 v2 rfl rfl)
  have x2 := block_of_ok (hval 2 22 _ rfl rfl)
  have k2 := h2
  have lt2 : ∀ x ∈ p2, x.block < W.heap.size := by obtain ⟨m, hm⟩ := k2; exact DataW.trod_lt m _ _ _ hm
  obtain ⟨z2, w2, rr2⟩ : ∃ zs, IsRow W a2 len2 cap2 zs ∧ len2 ≤ 140737488351232 := by
    obtain ⟨fuel, hf⟩ := h2
    rcases open_ints Ybad.underlying22 Ybad.underlying5 (by kernel_rfl) hf with ⟨hcs, _⟩ | ⟨x, l, c, zs, hcs, _, hl, hm, hz, hx, hcell, hwz⟩
    · simp [Value.cells] at hcs
      obtain ⟨rfl, rfl, rfl⟩ := hcs
      exact ⟨[], .inl ⟨rfl, rfl, rfl, rfl⟩, by omega⟩
    · simp [Value.cells] at hcs
      obtain ⟨rfl, rfl, rfl⟩ := hcs
      refine ⟨zs, .inr ⟨_, rfl, hl, hm, by simpa using hz, hcell, hwz⟩, ?_⟩
      simp only [Prod.mk.injEq] at hx
      have := sized_slice hsz (j := 2) (t := 22) (e := 5) rfl (by rw [← hx.1]; rfl) Ybad.underlying22
      rw [bytes5] at this
      simp only [lits, List.length_map, List.length_take, List.length_drop, reachBytes] at this
      simp at hz
      omega
  clear hA0 hval0 hV0
  obtain ⟨ea, c0⟩ := of_laid hL
  refine (walk a0 len0 cap0 z0 a1 a2 len2 cap2 z2 b3 ea W w0 w1 w2 rr0 rr2 x0 x2 c0).mono fun e W' ⟨he, bel⟩ => ?_
  subst he
  exact ⟨_, rfl, _, _, _, [], _, _, hW', trodAll_mk1 (shut_bool Ybad.underlying4 _), (trodAll_cons_mk (Below.trod laidOut (by kernel_rfl) (of_decide_eq_true (by kernel_rfl)) k0 bel lt0) (trodAll_cons_mk (shut_int Ybad.underlying5 w1) (trodAll_cons_mk (Below.trod laidOut (by kernel_rfl) (of_decide_eq_true (by kernel_rfl)) k2 bel lt2) (trodAll_cons_mk (shut_bool Ybad.underlying4 _) trodAll_mk0)))), rfl, bel.frame _, fun h => by cases h⟩

theorem over : Rows.LawS5638BWholeSaid :=
  OpenClaim.holds_of_wide 3 Ybad.f3 rfl rfl rfl rfl rfl rfl rfl ⟨rfl, rfl, rfl, rfl, rfl⟩ rfl rfl rfl rfl rfl (by kernel_rfl) Ybad.func3 (by kernel_rfl)
    (of_decide_eq_true (by kernel_rfl)) (by unfold Func.isWrapper; first | (rw [if_pos (by decide +kernel)]; kernel_rfl) | (rw [if_neg (by decide +kernel)]; exact ⟨rfl, rfl⟩))
    (fun os started H enc _ => lifted os started H enc)

/-- ████ THE TIED CARD ████ -/
theorem card_holds : Rows.LawS5638BWholeCardSaid :=
  Claim7.holds_tied_plain_at .later [] [.called, .called, .called, .called, .called] true (true, "5e74e2dc2de207e70335b0e675643b355611187f87396a8feeb5af83a95fbc37") true
    over (fun _ h => by cases h) (by kernel_rfl) (fun _ h => by cases h) lawS5638BWhole_row_tie rfl ⟨rfl, rfl⟩ (by kernel_rfl) rfl
    (fun f fn hf hfn => by
      obtain rfl : f = 3 := Option.some.inj ((show Ybad.prog.funcNamed Rows.lawS5638BWholeRow.func = some 3 by kernel_rfl).symm.trans hf) |>.symm
      obtain rfl : fn = Ybad.f3 := (Option.some.inj (Ybad.func3.symm.trans hfn)).symm
      exact ⟨by kernel_rfl, fun j t ht => by
        rw [Ybad.params3] at ht
        have hm : t ∈ [22, 5, 22, 4] := by simpa using Array.mem_of_getElem? ht
        have hall : ([22, 5, 22, 4].all fun u => !Ybad.prog.wantsStandIn u) = true := by kernel_rfl
        exact (show Ybad.prog.wantsStandIn t = false by simpa using List.all_eq_true.1 hall t hm)⟩)
    (by kernel_rfl)
end Go.Proofs.YbulkdlswDoor
