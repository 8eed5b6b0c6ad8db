/-
  THE TOLD AND TIED CARD OF LawS5636BWhole.
-/
import Derived.Test.YbulkdlruFmtRows
import Derived.Test.YbulkdlruFmtTie
import Derived.Test.YbulkdlruFmtCards
import Derived.Test.YbulkdlruFmtAt
import Derived.Stop.LaidErr
import Derived.Stop.Joined
import Derived.Deep.DeepWitnessRef
import Derived.Stop.JoinedTold
import Derived.SevenTiedAt
namespace Go.Proofs.YbulkdlruFmt
open Go.ChangeShapes Go.WideShapes Go.ChangeAt Go.RowKit Go.WideMaps Go.WideElems
open Go.Extern.Stop Go.Stop Go.Extern
set_option linter.unusedVariables false

abbrev laid1 : List (String × DataW Unit) := Rows.lawS5636BWholeRow.laid
abbrev vname : String := Rows.lawS5636BWholeSpec.vars.headD ""
theorem gn0 : Ybaf.prog.globalNamed vname = some 0 := by kernel_rfl
/-- The name that the error's type bears in a datum. -/
def errName : String :=
  match (laid1.map (·.2)).headD .nil with
  | .iface s _ => s
  | _ => ""
theorem row118 (u : TypeId) (h : Ybaf.prog.typeName? 3 u = some errName) : u = 118 :=
  typeName_ptr_named (nm := "errors.errorString") (by kernel_rfl) (by kernel_rfl) (by decide) u (h.trans (by decide))
theorem laidPlain {W : World} (h : laidMetH Ybaf.prog laid1 W) : laidMet Ybaf.prog laid1 W := by
  rw [MakeChecks.laidMetH_plain _ _ _ (by kernel_rfl)] at h
  exact h
theorem err_of {n : String} {text : List UInt8} {r : List (String × DataW Unit)} {W : World} {g : Nat} (h : laidMet Ybaf.prog ((n, .iface errName (.ptr (.agg [.lit (.string text)]))) :: r) W) (hg : Ybaf.prog.globalNamed n = some g) (ht : (Ybaf.prog.globals[g]?).map (·.type) = some 88) :
    ∃ (a : Addr) (s : ByteArray), W.cell? ⟨g, 0, none⟩ = some (.iface 118 (.pointer (some a))) ∧ W.cell? a = some (.string s) := by
  obtain ⟨a, s, hv, hs, _, _⟩ := laid_sentinel (g := g) h hg ht Ybaf.underlying88 row118 Ybaf.underlying118 Ybaf.underlying120 rfl rfl Ybaf.underlying9 (by kernel_rfl) (by kernel_rfl)
  exact ⟨a, s, by simpa using World.var?_cell hg hv 0, hs⟩
/-- What the condition gives the walk: errEndsEarly. -/
theorem of_laid {W : World} (h : laidMetH Ybaf.prog laid1 W) : ∃ (a : Addr) (s : ByteArray), W.cell? ⟨0, 0, none⟩ = some (.iface 118 (.pointer (some a))) ∧ W.cell? a = some (.string s) :=
  err_of (g := 0) (laidPlain h) gn0 (by kernel_rfl)

theorem own : ownKnob Ybaf.prog.godebug = none := by kernel_rfl
theorem laidOut : laidOutB Ybaf.pinned.checked.prog = true := by kernel_rfl
theorem laidOut' : laidOutB Ybaf.prog = true := by kernel_rfl
theorem stopsAre : Ybaf.pinned.checked.prog.stops = ["fmt.errorf"] := by kernel_rfl
theorem knobsAre : Ybaf.pinned.checked.prog.stopKnobs = [] := by kernel_rfl
theorem isQuiet (os : Os) : Stop.quiet Ybaf.pinned.checked.prog os := by
  intro k hk
  rw [knobsAre] at hk
  cases hk

set_option maxRecDepth 1000000 in
/-- The door's own heap meets the condition. -/
theorem door_met (os : Os) (args : Array Value) : laidMetH Ybaf.prog laid1 ((World.doorLaid Ybaf.prog 33 os).forCall (fun _ _ => 0) ⟨#[], args, []⟩).memory :=
  laidMetH_of_parts3 (fuel := 8) (laidMet_of_run' 8 (by kernel_rfl) (by kernel_rfl)) (by kernel_rfl) (by kernel_rfl)
abbrev args4 : Array Value := #[.slice none 0 0, .slice none 0 0, .int .u8 0, .int .u64 0, .agg (H32 fun _ => 0), .slice none 0 0, .slice none 0 0, .int .u32 0, .bool false]
set_option maxRecDepth 1000000 in
theorem witness4 (os : Os) {H : Type} (enc : TypeId × Value → H) (F : Stop.Interp) :
    ∃ (w : World) (tape : Tape) (i : Input), w.os = os ∧ (w.forCall tape i).Shaped Ybaf.checked.prog ∧ i.vars = [] ∧ Input.okWide Ybaf.checked.prog (w.forCall tape i) .any w.heap.size 4 i ∧
      (OpenSpec.ofChange Rows.lawS5636BWholeSpec).preRow enc Ybaf.checked.prog Ybaf.f4 [] false laid1 (w.forCall tape i).memory i.args ∧ ({ modest := false } : Assume).holds Ybaf.checked.prog (lone (Frame.enter Ybaf.checked.prog 4 i.args .normal) [] (w.forCall tape i)) ∧ F.answers tape :=
  OpenSpec.witness_stopped_atRef (enc := enc) (C := Ybaf.checked) false (World.doorLaid Ybaf.prog 33 os) args4 rfl (by kernel_rfl) (by kernel_rfl) (by kernel_rfl)
    (OpenSpec.preRow_of_B rfl 8 (by kernel_rfl) (by kernel_rfl) (door_met os _)) F

theorem trodVars_len {H : Type} {enc : TypeId × Value → H} {P : Program} {w : World} {sp : Nat → Bool} : ∀ {ns : List String} {gs : List (DataW H)} {ps : List MemPlace}, DataW.TrodVars enc P w sp ns gs ps → gs.length = ns.length
  | [], [], _, _ => rfl
  | [], _ :: _, _, h => h.elim
  | _ :: _, [], _, h => h.elim
  | _ :: _, _ :: _, _, h => by
    obtain ⟨_, _, _, _, _, _, _, _, _, _, hs, _⟩ := h
    simp [trodVars_len hs]
theorem list1 {α : Type} (l : List α) (h : l.length = 1) : ∃ x, l = [x] := by
  match l, h with
  | [x], _ => exact ⟨x, rfl⟩
set_option maxRecDepth 100000 in
theorem okWide_array {W : World} {base : Nat} {v : Value} (h : Value.okWide Ybaf.prog W .any base 59 v) : ∃ cs, v = .agg cs := by
  simp only [Value.okWide, Ybaf.underlying59] at h
  obtain ⟨cs, h1, _⟩ := h
  exact ⟨cs, h1⟩

set_option maxRecDepth 100000 in
set_option maxHeartbeats 4000000 in
theorem lifted (os : Os) (started : os.Started) (H : Type) (enc : TypeId × Value → H) :
    ReturnsInTold none {} Ybaf.checked os 4 .any Input.okWide ((OpenSpec.ofChange Rows.lawS5636BWholeSpec).preRow enc Ybaf.prog Ybaf.f4 [] false laid1) (fun F => ((OpenSpec.ofChange Rows.lawS5636BWholeSpec).at F).post enc Ybaf.prog Ybaf.f4 false true false false) (aloneAtReturn Ybaf.prog) nothingAlways := by
  refine returnsInTold_of_row (C := Ybaf.checked) (s := OpenSpec.ofChange Rows.lawS5636BWholeSpec) (by kernel_rfl) own started (by kernel_rfl) Ybaf.func4 (witness4 os enc) ?_
  intro F W base args ds gs before _ hF hval0 hW _ _ hsz0 hL _
  have hval : ∀ (j : Nat) t v, Ybaf.f4.params[j]? = some t → args[j]? = some v → Value.okWide Ybaf.prog W .any base t v := hval0
  have hsz : (DataW.weightsEach Ybaf.prog (Ybaf.f4.params.toList ++ Rows.lawS5636BWholeSpec.plain.varTypes Ybaf.prog) (ds ++ gs)).all (· ≤ reachBytes) = true := hsz0
  have hW' := hW
  obtain ⟨p, q, hA0, hV0, rfl, hfz, hnd⟩ := hW
  have hA : DataW.TrodAll enc Ybaf.prog W 0 (fun _ => true) true Ybaf.f4.params.toList args.toList ds p := hA0
  have hV : DataW.TrodVars enc Ybaf.prog W (fun _ => true) Rows.lawS5636BWholeSpec.vars gs q := hV0
  rw [Ybaf.params4] at hA hval hsz
  obtain ⟨v0, vs0, d0, ds0, p0, q0, hargs, rfl, rfl, h0, r0⟩ := trodAll_cons hA
  obtain ⟨v1, vs1, d1, ds1, p1, q1, rfl, rfl, rfl, h1, r1⟩ := trodAll_cons r0
  obtain ⟨v2, vs2, d2, ds2, p2, q2, rfl, rfl, rfl, h2, r2⟩ := trodAll_cons r1
  obtain ⟨v3, vs3, d3, ds3, p3, q3, rfl, rfl, rfl, h3, r3⟩ := trodAll_cons r2
  obtain ⟨v4, vs4, d4, ds4, p4, q4, rfl, rfl, rfl, h4, r4⟩ := trodAll_cons r3
  obtain ⟨v5, vs5, d5, ds5, p5, q5, rfl, rfl, rfl, h5, r5⟩ := trodAll_cons r4
  obtain ⟨v6, vs6, d6, ds6, p6, q6, rfl, rfl, rfl, h6, r6⟩ := trodAll_cons r5
  obtain ⟨v7, vs7, d7, ds7, p7, q7, rfl, rfl, rfl, h7, r7⟩ := trodAll_cons r6
  obtain ⟨v8, vs8, d8, ds8, p8, q8, rfl, rfl, rfl, h8, r8⟩ := trodAll_cons r7
  obtain ⟨rfl, rfl, rfl⟩ := trodAll_nil r8
  obtain rfl : args = #[v0, v1, v2, v3, v4, v5, v6, v7, v8] := by cases args; simp_all
  have w0 : WOK 74 d0 := WOK.each hsz (j := 0) rfl rfl
  have w1 : WOK 75 d1 := WOK.each hsz (j := 1) rfl rfl
  have w5 : WOK 76 d5 := WOK.each hsz (j := 5) rfl rfl
  have w6 : WOK 33 d6 := WOK.each hsz (j := 6) rfl rfl
  have k0 := h0
  have k1 := h1
  have k2 := h2
  have k3 := h3
  have k4 := h4
  have k5 := h5
  have k6 := h6
  have k7 := h7
  have k8 := h8
  obtain ⟨a0, l0, c0, rfl⟩ := okWide_slice Ybaf.underlying74 (hval 0 74 v0 rfl rfl)
  obtain ⟨a1, l1, c1, rfl⟩ := okWide_slice Ybaf.underlying75 (hval 1 75 v1 rfl rfl)
  obtain ⟨z2, rfl⟩ := okWide_int Ybaf.underlying5 (hval 2 5 v2 rfl rfl)
  obtain ⟨z3, rfl⟩ := okWide_int Ybaf.underlying22 (hval 3 22 v3 rfl rfl)
  obtain ⟨cs4, rfl⟩ := okWide_array (hval 4 59 v4 rfl rfl)
  obtain ⟨a5, l5, c5', rfl⟩ := okWide_slice Ybaf.underlying76 (hval 5 76 v5 rfl rfl)
  obtain ⟨a6, l6, c6, rfl⟩ := okWide_slice Ybaf.underlying33 (hval 6 33 v6 rfl rfl)
  obtain ⟨z7, rfl⟩ := okWide_int Ybaf.underlying77 (hval 7 77 v7 rfl rfl)
  obtain ⟨b8, rfl⟩ := okWide_bool Ybaf.underlying4 (hval 8 4 v8 rfl rfl)
  obtain ⟨n0, h0⟩ := h0
  obtain ⟨n1, h1⟩ := h1
  obtain ⟨n2, h2⟩ := h2
  obtain ⟨n4, h4⟩ := h4
  obtain ⟨n5, h5⟩ := h5
  obtain ⟨n6, h6⟩ := h6
  obtain ⟨n7, h7⟩ := h7
  obtain ⟨ba, nb, bc, pl, e0, hbs, b1, b5⟩ := blks_of (fuel := n0) h0 w0
  obtain ⟨fa, nf, fc, sl, e1, hfs, b2, b6⟩ := fins_of (fuel := n1) h1 w1
  obtain ⟨fl, e2, hfl⟩ := u8_of (fuel := n2) h2
  obtain ⟨hb, hhb, e4⟩ := hash_of (fuel := n4) h4
  obtain ⟨va, nv, vc, e5, hvs, b3⟩ := sigs_of (fuel := n5) h5 w5
  obtain ⟨ta, tn, tc, ft, e6, htl, hft, htn, b4, _⟩ := bytes_of (fuel := n6) h6 w6
  obtain ⟨ct, e7, hct⟩ := u32_of (fuel := n7) h7
  have e4' : cs4 = (vals hb 32).toArray := by rw [← e4]; simp [Value.cells]
  obtain ⟨ea, sa, hg0, hea⟩ := of_laid hL
  rw [e5] at hvs
  have lt0 : ∀ x ∈ p0, x.block < W.heap.size := by obtain ⟨m, hm⟩ := k0; exact DataW.trod_lt m _ _ _ hm
  have lt1 : ∀ x ∈ p1, x.block < W.heap.size := by obtain ⟨m, hm⟩ := k1; exact DataW.trod_lt m _ _ _ hm
  have lt2 : ∀ x ∈ p2, x.block < W.heap.size := by obtain ⟨m, hm⟩ := k2; exact DataW.trod_lt m _ _ _ hm
  have lt3 : ∀ x ∈ p3, x.block < W.heap.size := by obtain ⟨m, hm⟩ := k3; exact DataW.trod_lt m _ _ _ hm
  have lt4 : ∀ x ∈ p4, x.block < W.heap.size := by obtain ⟨m, hm⟩ := k4; exact DataW.trod_lt m _ _ _ hm
  have lt5 : ∀ x ∈ p5, x.block < W.heap.size := by obtain ⟨m, hm⟩ := k5; exact DataW.trod_lt m _ _ _ hm
  have lt6 : ∀ x ∈ p6, x.block < W.heap.size := by obtain ⟨m, hm⟩ := k6; exact DataW.trod_lt m _ _ _ hm
  have lt7 : ∀ x ∈ p7, x.block < W.heap.size := by obtain ⟨m, hm⟩ := k7; exact DataW.trod_lt m _ _ _ hm
  have lt8 : ∀ x ∈ p8, x.block < W.heap.size := by obtain ⟨m, hm⟩ := k8; exact DataW.trod_lt m _ _ _ hm
  have hwalk := law_any F.told ea (.string sa) hb va nv vc ta tn tc ft fl ct z3 b8 fa nf fc sl ba nb bc pl W hF hg0 hea hhb hvs htl hft htn hfl hct hfs hbs b1 b2 b3 b4 b5 b6
  rw [← e0, ← e1, ← e2, ← e4', ← e5, ← e6, ← e7] at hwalk
  obtain ⟨g1, rfl⟩ := list1 gs (trodVars_len hV)
  refine hwalk.mono fun e W' ⟨he, bel⟩ => ?_
  subst he
  exact ⟨_, rfl, _, _, _, [], _, _, hW', trodAll_mk1 (shut_bool Ybaf.underlying4 _),
    trodAll_cons_mk (Below.trod laidOut' (by kernel_rfl) (of_decide_eq_true (by kernel_rfl)) k0 bel lt0) (trodAll_cons_mk (Below.trod laidOut' (by kernel_rfl) (of_decide_eq_true (by kernel_rfl)) k1 bel lt1) (trodAll_cons_mk (Below.trod laidOut' (by kernel_rfl) (of_decide_eq_true (by kernel_rfl)) k2 bel lt2)
      (trodAll_cons_mk (Below.trod laidOut' (by kernel_rfl) (of_decide_eq_true (by kernel_rfl)) k3 bel lt3) (trodAll_cons_mk (Below.trod laidOut' (by kernel_rfl) (of_decide_eq_true (by kernel_rfl)) k4 bel lt4) (trodAll_cons_mk (Below.trod laidOut' (by kernel_rfl) (of_decide_eq_true (by kernel_rfl)) k5 bel lt5)
        (trodAll_cons_mk (Below.trod laidOut' (by kernel_rfl) (of_decide_eq_true (by kernel_rfl)) k6 bel lt6) (trodAll_cons_mk (Below.trod laidOut' (by kernel_rfl) (of_decide_eq_true (by kernel_rfl)) k7 bel lt7) (trodAll_cons_mk (Below.trod laidOut' (by kernel_rfl) (of_decide_eq_true (by kernel_rfl)) k8 bel lt8) trodAll_mk0)))))))),
    Below.trodVars laidOut' bel (by kernel_rfl) hV, bel.frame _, fun h => by cases h⟩

/-- ████ THE TOLD AND TIED CARD ████ -/
theorem card_holds : Rows.LawS5636BWholeToldSaid :=
  Claim7.holds_of_told_tied_any_at .later 4 Ybaf.f4 "fmt.errorf" [] [] _ _ _ _ _ (by kernel_rfl) rfl rfl rfl laidOut (by kernel_rfl) rfl ⟨rfl, rfl, rfl, rfl, rfl, rfl, rfl⟩ rfl rfl (by kernel_rfl) (by kernel_rfl) Ybaf.func4 (by kernel_rfl)
    (of_decide_eq_true (by kernel_rfl)) (of_decide_eq_true (by kernel_rfl)) stopsAre.symm rfl knobsAre.symm (by kernel_rfl)
    (by kernel_rfl) (by kernel_rfl) (by kernel_rfl) (by kernel_rfl) (by kernel_rfl) (by kernel_rfl) (by kernel_rfl) (by kernel_rfl) (by kernel_rfl) rfl (by kernel_rfl) rfl rfl
    rfl rfl
    rfl (by kernel_rfl) (by kernel_rfl) (by kernel_rfl) (by decide) (by kernel_rfl) lawS5636BWhole_row_tie
    (OpenClaim.moreEntering_of (by kernel_rfl) (by kernel_rfl) (by kernel_rfl) (by kernel_rfl) (by kernel_rfl) (by kernel_rfl) (by kernel_rfl) (by kernel_rfl) (by kernel_rfl) (by kernel_rfl))
    ⟨_, WideRow.started_initial, isQuiet _⟩
    (fun os started _ H enc _ => lifted os started H enc)
end Go.Proofs.YbulkdlruFmt
