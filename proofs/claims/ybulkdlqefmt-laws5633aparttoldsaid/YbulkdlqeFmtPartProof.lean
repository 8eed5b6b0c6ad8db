/-
  THE TOLD AND TIED CARD OF LawS5633APart.
-/
import Derived.Test.YbulkdlqeFmtRows
import Derived.Test.YbulkdlqeFmtTie
import Derived.Test.YbulkdlqeFmtCards
import Derived.Test.YbulkdlqeFmtAg
import Derived.Test.YbulkdlqeFmtAh
import Derived.Stop.JoinedTold
import Derived.SevenTiedAt
namespace Go.Proofs.YbulkdlqeFmt
open Go.ChangeShapes Go.WideShapes Go.ChangeAt Go.RowKit Go.WideMaps Go.WideElems
open Go.Extern.Stop Go.Stop Go.Extern
set_option linter.unusedVariables false

theorem trodVars_len {H : Type} {enc : TypeId × Value → H} {P : Program} {w : World} {sp : Nat → Bool} : ∀ {ns : List String} {gs : List (DataW H)} {ps : List MemPlace}, DataW.TrodVars enc P w sp ns gs ps → gs.length = ns.length
  | [], [], _, _ => rfl
  | [], _ :: _, _, h => h.elim
  | _ :: _, [], _, h => h.elim
  | _ :: _, _ :: _, _, h => by
    obtain ⟨_, _, _, _, _, _, _, _, _, _, hs, _⟩ := h
    simp [trodVars_len hs]
theorem list7 {α : Type} (l : List α) (h : l.length = 7) : ∃ x0 x1 x2 x3 x4 x5 x6, l = [x0, x1, x2, x3, x4, x5, x6] := by
  match l, h with
  | [x0, x1, x2, x3, x4, x5, x6], _ => exact ⟨_, _, _, _, _, _, _, rfl⟩

set_option maxRecDepth 100000 in
set_option maxHeartbeats 4000000 in
theorem part_lifted (os : Os) (started : os.Started) (H : Type) (enc : TypeId × Value → H) :
    ReturnsInTold none {} Ybaf.checked os 3 .any Input.okWide ((OpenSpec.ofChange Rows.lawS5633APartSpec).preRow enc Ybaf.prog Ybaf.f3 [] false laid7) (fun F => ((OpenSpec.ofChange Rows.lawS5633APartSpec).at F).post enc Ybaf.prog Ybaf.f3 false true false false) (aloneAtReturn Ybaf.prog) nothingAlways := by
  refine returnsInTold_of_row (C := Ybaf.checked) (s := OpenSpec.ofChange Rows.lawS5633APartSpec) (by kernel_rfl) own started (by kernel_rfl) Ybaf.func3 (witness3 os enc) ?_
  intro F W base args ds gs before _ hF hval0 hW _ _ hsz0 hL _
  have hval : ∀ (j : Nat) t v, Ybaf.f3.params[j]? = some t → args[j]? = some v → Value.okWide Ybaf.prog W .any base t v := hval0
  have hsz : (DataW.weightsEach Ybaf.prog (Ybaf.f3.params.toList ++ Rows.lawS5633APartSpec.plain.varTypes Ybaf.prog) (ds ++ gs)).all (· ≤ reachBytes) = true := hsz0
  have hW' := hW
  obtain ⟨p, q, hA0, hV0, rfl, hfz, hnd⟩ := hW
  have hA : DataW.TrodAll enc Ybaf.prog W 0 (fun _ => true) true Ybaf.f3.params.toList args.toList ds p := hA0
  have hV : DataW.TrodVars enc Ybaf.prog W (fun _ => true) Rows.lawS5633APartSpec.vars gs q := hV0
  rw [Ybaf.params3] at hA hval hsz
  obtain ⟨v0, d0, rfl, rfl, h0⟩ := trodAll_one hA
  obtain ⟨cs, rfl, hcs⟩ := okWide_struct Ybaf.underlying27 (hval 0 27 v0 rfl rfl)
  have k0 := h0
  have lt0 : ∀ x ∈ p, x.block < W.heap.size := by obtain ⟨m, hm⟩ := k0; exact DataW.trod_lt m _ _ _ hm
  obtain ⟨fo, F', c, ea, hE⟩ := env_of_laid hL
  obtain ⟨fuel, hf⟩ := h0
  refine (part_walk F.told _ _ _ ea W cs fuel d0 p _ _ hf hsz rfl rfl hF hE).mono fun e W' ⟨he, bel⟩ => ?_
  subst he
  obtain ⟨g1, g2, g3, g4, g5, g6, g7, rfl⟩ := list7 gs (trodVars_len hV)
  exact ⟨_, rfl, _, _, _, [], _, _, hW', trodAll_mk1 (shut_bool Ybaf.underlying4 _), trodAll_mk1 (Below.trod laidOut' (by kernel_rfl) (of_decide_eq_true (by kernel_rfl)) k0 bel lt0), Below.trodVars laidOut' bel (by kernel_rfl) hV, bel.frame _, fun h => by cases h⟩

/-- ████ THE TOLD AND TIED CARD ████ -/
theorem part_holds : Rows.LawS5633APartToldSaid :=
  Claim7.holds_of_told_tied_any_at .later 3 Ybaf.f3 "fmt.errorf" [] [] _ _ _ _ _ (by kernel_rfl) rfl rfl rfl laidOut (by kernel_rfl) rfl ⟨rfl, rfl, rfl, rfl, rfl, rfl, rfl⟩ rfl rfl (by kernel_rfl) (by kernel_rfl) Ybaf.func3 (by kernel_rfl)
    (of_decide_eq_true (by kernel_rfl)) (of_decide_eq_true (by kernel_rfl)) stopsAre.symm rfl knobsAre.symm (by kernel_rfl)
    (by kernel_rfl) (by kernel_rfl) (by kernel_rfl) (by kernel_rfl) (by kernel_rfl) (by kernel_rfl) (by kernel_rfl) (by kernel_rfl) (by kernel_rfl) rfl (by kernel_rfl) rfl rfl
    rfl rfl
    rfl (by kernel_rfl) (by kernel_rfl) (by kernel_rfl) (by decide) (by kernel_rfl) lawS5633APart_row_tie
    (OpenClaim.moreEntering_of (by kernel_rfl) (by kernel_rfl) (by kernel_rfl) (by kernel_rfl) (by kernel_rfl) (by kernel_rfl) (by kernel_rfl) (by kernel_rfl) (by kernel_rfl) (by kernel_rfl))
    ⟨_, WideRow.started_initial, isQuiet _⟩
    (fun os started _ H enc _ => part_lifted os started H enc)
end Go.Proofs.YbulkdlqeFmt
