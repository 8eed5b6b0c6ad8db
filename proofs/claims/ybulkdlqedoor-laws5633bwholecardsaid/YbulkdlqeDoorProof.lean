/-
  THE ROW PROVED, AND ITS TIED CARD. The frame after the guide's shell (proof-skeleton.mjs) and the worked Mapy*.lean.
-/
import Derived.Test.YbulkdlqeDoorRows
import Derived.Test.YbulkdlqeDoorTie
import Derived.Test.YbulkdlqeDoorCards
import Derived.Test.YbulkdlqeDoorW5
import Derived.ProofKit
import Derived.LaidMore
import Derived.OpenShut
import Derived.Stop.Joined
import Derived.ChangeOld
import Derived.SizedLaws
import Derived.SevenTiedAt
namespace Go.Proofs.YbulkdlqeDoor
open Go.ChangeShapes Go.WideShapes Go.ChangeAt Go.WideMaps Go.WideElems Go.RowKit
set_option linter.unusedVariables false

theorem own : ownKnob Ybad.prog.godebug = none := by kernel_rfl
theorem laidOut : laidOutB Ybad.prog = true := by kernel_rfl
abbrev nodeName : String := Rows.lawS5633BWholeSpec.vars.headD ""
theorem gNode : Ybad.prog.globalNamed nodeName = some 0 := by kernel_rfl
theorem tNode : (Ybad.prog.globals[0]?).map (·.type) = some 39 := by kernel_rfl
theorem bytes5 : Ybad.prog.bytesOf 5 = 1 := by kernel_rfl
abbrev laid1 : List (String × DataW Unit) := Rows.lawS5633BWholeRow.laid

/-- The door's own heap meets the condition. -/
theorem door_met (os : Os) (args : Array Value) : laidMetH Ybad.prog laid1 ((World.doorLaid Ybad.prog 41 os).forCall (fun _ _ => 0) ⟨#[], args, []⟩).memory :=
  laidMetH_of_parts3 (fuel := 8) (laidMet_of_run' 8 (by kernel_rfl) (by kernel_rfl)) (by kernel_rfl) (by kernel_rfl)

/-- What the condition gives the walk: the table's width. -/
theorem of_laid {W : World} (h : laidMetH Ybad.prog laid1 W) : ∃ f, W.cell? ⟨0, 0, none⟩ = some (.int .u64 24) ∧ W.cell? ⟨0, 1, none⟩ = some f := by
  rw [MakeChecks.laidMetH_plain _ _ _ (by kernel_rfl)] at h
  obtain ⟨ps, ⟨g0, t0, cs0, f0, p0, q0, hg0, ht0, hv0, hd0, _⟩, _, _⟩ := h
  obtain rfl := Option.some.inj (gNode.symm.trans hg0)
  obtain rfl := Option.some.inj (tNode.symm.trans ht0)
  obtain ⟨y0, y1, n, hx, hlen, h0, h1⟩ := trod_struct2 Ybad.underlying39 hd0
  have c27 : Ybad.prog.cellsOf 27 = 1 := by kernel_rfl
  have c39 : Ybad.prog.cellsOf 39 = 2 := by kernel_rfl
  obtain ⟨k, e1, e2, _⟩ := DataW.trod_int Ybad.underlying27 h0
  rw [c39] at hlen
  rw [c27] at e1
  subst e2
  have hk : k = 24 := by
    simp only [Rows.laid_example_com_hopscribe_hopscribe_pkg_ioam_nodeFields, Prod.mk.injEq, DataW.agg.injEq, List.cons.injEq] at hx
    simpa using hx.1.1.symm
  subst hk
  have w0 := World.var?_cell hg0 hv0 0
  have w1 := World.var?_cell hg0 hv0 1
  obtain ⟨l⟩ := cs0
  match l, hlen, e1 with
  | [x0, x1], _, e1 =>
    simp at e1
    subst e1
    exact ⟨x1, by simpa using w0, by simpa using w1⟩

theorem var_below {P : Program} {w w' : World} {n : String} {g B : Nat} {cs : Array Value} (h : w.var? P n = some cs) (hg : P.globalNamed n = some g) (hb : Below B w w') (hlt : g < B) : w'.var? P n = some cs := by
  unfold World.var? at h ⊢
  simp only [hg, Option.bind_some] at h ⊢
  rw [hb.block g hlt]
  exact h

/-- WHAT THE WALK IS TOLD OF A SLICE OF INTEGERS THAT CAME IN: it is nil; or it leads to a row of 'cap' cells, the numbers 'zs' (the first 'len' are its elements, the rest its spare room), each fitting its kind. -/
def IsRow (k : IntKind) (w : World) (a : Option Addr) (len cap : Nat) (zs : List Int) : Prop :=
  (a = none ∧ len = 0 ∧ cap = 0 ∧ zs = []) ∨
  ∃ x, a = some x ∧ len ≤ cap ∧ cap ≤ maxLen ∧ zs.length = cap ∧ (∀ i, i < zs.length → w.cell? (x.add i) = some (.int k (zs.getD i 0))) ∧ ∀ n ∈ zs, (Lit.int k n).wf = true

/-- What can be read of such a slice. -/
theorem IsRow.bytes {w : World} {a : Option Addr} {len cap : Nat} {zs : List Int} (h : IsRow .u8 w a len cap zs) : Bytes w a len (fun i => zs.getD i 0) ∧ (a = none → len = 0 ∧ cap = 0) := by
  rcases h with ⟨rfl, rfl, rfl, rfl⟩ | ⟨x, rfl, hl, hm, hz, hc, hw⟩
  · exact ⟨.inl rfl, fun _ => ⟨rfl, rfl⟩⟩
  · refine ⟨?_, fun h => by cases h⟩
    by_cases h0 : len = 0
    · exact .inl h0
    · obtain ⟨b, off, spot⟩ := x
      have hspot : spot = none := by simpa [Addr.add] using World.cell?_spot (hc 0 (by omega))
      subst hspot
      exact .inr ⟨b, off, rfl, fun i hi => by rw [← add_plain]; exact hc i (by omega)⟩

theorem nat_of_u8 {x : Int} (h : (Lit.int .u8 x).wf = true) : ∃ n : Nat, x = n ∧ n < 256 := by
  have := bounds_u8 h
  exact ⟨x.toNat, by omega, by omega⟩
theorem nat_of_u32 {x : Int} (h : (Lit.int .u32 x).wf = true) : ∃ n : Nat, x = n ∧ n < 4294967296 := by
  have := bounds_u32 h
  exact ⟨x.toNat, by omega, by omega⟩

theorem walk (a0 : Int) (a1 : Int) (a2 : Int) (a3 : Int) (a4 : Int) (a5 : Int) (a6 : Option Addr) (len6 cap6 : Nat) (z6 : List Int) (a7 : Option Addr) (len7 cap7 : Nat) (z7 : List Int) (f : Value) (w : World) (w0 : (Lit.int .u8 a0).wf = true) (w1 : (Lit.int .u8 a1).wf = true) (w2 : (Lit.int .u8 a2).wf = true) (w3 : (Lit.int .u32 a3).wf = true) (w4 : (Lit.int .u8 a4).wf = true) (w5 : (Lit.int .u32 a5).wf = true) (w6 : IsRow .u8 w a6 len6 cap6 z6) (w7 : IsRow .u8 w a7 len7 cap7 z7)
    (r6 : len6 ≤ 140737488351232) (r7 : len7 ≤ 140737488351232) (h0 : w.cell? ⟨0, 0, none⟩ = some (.int .u64 24)) (h1 : w.cell? ⟨0, 1, none⟩ = some f) :
    Calls Ybad.prog 3 #[.int .u8 a0, .int .u8 a1, .int .u8 a2, .int .u32 a3, .int .u8 a4, .int .u32 a5, .slice a6 len6 cap6, .slice a7 len7 cap7] w fun e w' => e = .returned (.bool true) ∧ Below w.heap.size w w' := by
  by_cases hbig : 1048576 < len6 + len7
  · refine (law_big a0 a1 a2 a3 a4 a5 a6 a7 len6 cap6 len7 cap7 w r6 r7 hbig).mono ?_
    rintro e w' ⟨rfl, rfl⟩
    exact ⟨rfl, Below.refl _ _⟩
  · obtain ⟨nl, rfl, hnl⟩ := nat_of_u8 w0
    obtain ⟨fl, rfl, _⟩ := nat_of_u8 w1
    obtain ⟨rm, rfl, _⟩ := nat_of_u8 w2
    obtain ⟨ty, rfl, hty⟩ := nat_of_u32 w3
    obtain ⟨lo, rfl, hlo⟩ := nat_of_u8 w4
    obtain ⟨sc, rfl, hsc⟩ := nat_of_u32 w5
    exact law_small nl fl rm ty lo sc a6 a7 len6 cap6 len7 cap7 _ _ f w hnl hlo hty hsc (by omega) w6.bytes.1 w7.bytes.1 w7.bytes.2 h0 h1

set_option maxRecDepth 100000 in
theorem lifted (os : Os) (started : os.Started) (H : Type) (enc : TypeId × Value → H) :
    ReturnsInHanded {} Ybad.checked os 3 .any (fun w args => (Rows.lawS5633BWholeSpec.pre enc Ybad.prog Ybad.f3 [] false w args ∧ laidMetH Ybad.prog laid1 w) ∧ sizedMet enc Ybad.prog Ybad.f3 (OpenSpec.ofChange Rows.lawS5633BWholeSpec) false w args)
      (Rows.lawS5633BWholeSpec.post enc Ybad.prog Ybad.f3 false true false false) := by
  refine returnsInHanded_of_change_and (C := Ybad.checked) (X := fun w _ => laidMetH Ybad.prog laid1 w) (fun _ _ _ hh h => h.of_heap hh) own started (by kernel_rfl) Ybad.func3
    (ChangeSpec.witness_shaped (enc := enc) (C := Ybad.checked) (os := os) (X := fun w _ => laidMetH Ybad.prog laid1 w) false (World.doorLaid Ybad.prog 41 os) #[.int .u8 0, .int .u8 0, .int .u8 0, .int .u32 0, .int .u8 0, .int .u32 0, .slice none 0 0, .slice none 0 0] 8 rfl (World.shaped_of_RefB (by kernel_rfl) (by kernel_rfl)) (by kernel_rfl) (by kernel_rfl) (by kernel_rfl) (door_met os _)) ?_
  intro W base args ds gs before hval0 hW _ hsz0 hL _
  have hval : ∀ (j : Nat) t v, Ybad.f3.params[j]? = some t → args[j]? = some v → Value.okWide Ybad.prog W .any base t v := hval0
  have hsz : (DataW.weightsEach Ybad.prog (Ybad.f3.params.toList ++ Rows.lawS5633BWholeSpec.plain.varTypes Ybad.prog) (ds ++ gs)).all (· ≤ reachBytes) = true := hsz0
  have hW' := hW
  obtain ⟨p, q, hA0, hV0, rfl, hfz, hnd⟩ := hW
  have hA : DataW.TrodAll enc Ybad.prog W 0 (fun _ => true) true Ybad.f3.params.toList args.toList ds p := hA0
  have hV : DataW.TrodVars enc Ybad.prog W (fun _ => true) [nodeName] gs q := hV0
  rw [Ybad.params3] at hA hval hsz
  obtain ⟨v0, vs0, d0, ds0, p0, q0, hargs, rfl, rfl, h0, r0⟩ := trodAll_cons hA
  obtain ⟨v1, vs1, d1, ds1, p1, q1, rfl, rfl, rfl, h1, r1⟩ := trodAll_cons r0
  obtain ⟨v2, vs2, d2, ds2, p2, q2, rfl, rfl, rfl, h2, r2⟩ := trodAll_cons r1
  obtain ⟨v3, vs3, d3, ds3, p3, q3, rfl, rfl, rfl, h3, r3⟩ := trodAll_cons r2
  obtain ⟨v4, vs4, d4, ds4, p4, q4, rfl, rfl, rfl, h4, r4⟩ := trodAll_cons r3
  obtain ⟨v5, vs5, d5, ds5, p5, q5, rfl, rfl, rfl, h5, r5⟩ := trodAll_cons r4
  obtain ⟨v6, vs6, d6, ds6, p6, q6, rfl, rfl, rfl, h6, r6⟩ := trodAll_cons r5
  obtain ⟨v7, vs7, d7, ds7, p7, q7, rfl, rfl, rfl, h7, r7⟩ := trodAll_cons r6
  obtain ⟨rfl, rfl, rfl⟩ := trodAll_nil r7
  obtain rfl : args = #[v0, v1, v2, v3, v4, v5, v6, v7] := by cases args; simp_all
  obtain ⟨g, t, cs, fuel, d, p', rfl, hg, ht, hvar, hd, rfl⟩ := trodVars_one hV
  obtain rfl := Option.some.inj (gNode.symm.trans hg)
  obtain rfl := Option.some.inj (tNode.symm.trans ht)
  obtain ⟨a0, rfl, rfl, rfl, w0⟩ := open_int Ybad.underlying5 (hval 0 5 v0 rfl rfl) h0
  obtain ⟨a1, rfl, rfl, rfl, w1⟩ := open_int Ybad.underlying5 (hval 1 5 v1 rfl rfl) h1
  obtain ⟨a2, rfl, rfl, rfl, w2⟩ := open_int Ybad.underlying5 (hval 2 5 v2 rfl rfl) h2
  obtain ⟨a3, rfl, rfl, rfl, w3⟩ := open_int Ybad.underlying22 (hval 3 22 v3 rfl rfl) h3
  obtain ⟨a4, rfl, rfl, rfl, w4⟩ := open_int Ybad.underlying5 (hval 4 5 v4 rfl rfl) h4
  obtain ⟨a5, rfl, rfl, rfl, w5⟩ := open_int Ybad.underlying22 (hval 5 22 v5 rfl rfl) h5
  obtain ⟨a6, len6, cap6, rfl⟩ := okWide_slice Ybad.underlying23 (hval 6 23 v6 rfl rfl)
  have k6 := h6
  have lt6 : ∀ x ∈ p6, x.block < W.heap.size := by obtain ⟨m, hm⟩ := k6; exact DataW.trod_lt m _ _ _ hm
  obtain ⟨z6, w6, rr6⟩ : ∃ zs, IsRow .u8 W a6 len6 cap6 zs ∧ len6 ≤ 140737488351232 := by
    obtain ⟨fuel, hf⟩ := h6
    rcases open_ints Ybad.underlying23 Ybad.underlying5 (by kernel_rfl) hf with ⟨hcs, _⟩ | ⟨x, l, c, zs, hcs, _, hl, hm, hz, hx, hcell, hwz⟩
    · simp [Value.cells] at hcs
      obtain ⟨rfl, rfl, rfl⟩ := hcs
      exact ⟨[], .inl ⟨rfl, rfl, rfl, rfl⟩, by omega⟩
    · simp [Value.cells] at hcs
      obtain ⟨rfl, rfl, rfl⟩ := hcs
      refine ⟨zs, .inr ⟨_, rfl, hl, hm, by simpa using hz, hcell, hwz⟩, ?_⟩
      simp only [Prod.mk.injEq] at hx
      have := sized_slice hsz (j := 6) (t := 23) (e := 5) rfl (by rw [← hx.1]; rfl) Ybad.underlying23
      rw [bytes5] at this
      simp only [lits, List.length_map, List.length_take, List.length_drop, reachBytes] at this
      simp at hz
      omega
  obtain ⟨a7, len7, cap7, rfl⟩ := okWide_slice Ybad.underlying23 (hval 7 23 v7 rfl rfl)
  have k7 := h7
  have lt7 : ∀ x ∈ p7, x.block < W.heap.size := by obtain ⟨m, hm⟩ := k7; exact DataW.trod_lt m _ _ _ hm
  obtain ⟨z7, w7, rr7⟩ : ∃ zs, IsRow .u8 W a7 len7 cap7 zs ∧ len7 ≤ 140737488351232 := by
    obtain ⟨fuel, hf⟩ := h7
    rcases open_ints Ybad.underlying23 Ybad.underlying5 (by kernel_rfl) hf with ⟨hcs, _⟩ | ⟨x, l, c, zs, hcs, _, hl, hm, hz, hx, hcell, hwz⟩
    · simp [Value.cells] at hcs
      obtain ⟨rfl, rfl, rfl⟩ := hcs
      exact ⟨[], .inl ⟨rfl, rfl, rfl, rfl⟩, by omega⟩
    · simp [Value.cells] at hcs
      obtain ⟨rfl, rfl, rfl⟩ := hcs
      refine ⟨zs, .inr ⟨_, rfl, hl, hm, by simpa using hz, hcell, hwz⟩, ?_⟩
      simp only [Prod.mk.injEq] at hx
      have := sized_slice hsz (j := 7) (t := 23) (e := 5) rfl (by rw [← hx.1]; rfl) Ybad.underlying23
      rw [bytes5] at this
      simp only [lits, List.length_map, List.length_take, List.length_drop, reachBytes] at this
      simp at hz
      omega
  clear hA0 hval0 hV0
  obtain ⟨f, c0, c1⟩ := of_laid hL
  have hlt0 : 0 < W.heap.size := World.block_lt_of_cell? W _ c0
  have ltv : ∀ x ∈ p', x.block < W.heap.size := DataW.trod_lt _ _ _ _ hd
  have kv : DataW.Trod enc Ybad.prog W 0 (fun _ => true) true 39 (.agg cs) d p' := ⟨fuel, hd⟩
  refine (walk a0 a1 a2 a3 a4 a5 a6 len6 cap6 z6 a7 len7 cap7 z7 f W w0 w1 w2 w3 w4 w5 w6 w7 rr6 rr7 c0 c1).mono fun e W' ⟨he, bel⟩ => ?_
  subst he
  obtain ⟨fuel', hd'⟩ := Below.trod laidOut (by kernel_rfl) (of_decide_eq_true (by kernel_rfl)) kv bel ltv
  exact ⟨_, rfl, _, _, _, [], _, _, hW', trodAll_mk1 (shut_bool Ybad.underlying4 _), (trodAll_cons_mk (shut_int Ybad.underlying5 w0) (trodAll_cons_mk (shut_int Ybad.underlying5 w1) (trodAll_cons_mk (shut_int Ybad.underlying5 w2) (trodAll_cons_mk (shut_int Ybad.underlying22 w3) (trodAll_cons_mk (shut_int Ybad.underlying5 w4) (trodAll_cons_mk (shut_int Ybad.underlying22 w5) (trodAll_cons_mk (Below.trod laidOut (by kernel_rfl) (of_decide_eq_true (by kernel_rfl)) k6 bel lt6) (trodAll_cons_mk (Below.trod laidOut (by kernel_rfl) (of_decide_eq_true (by kernel_rfl)) k7 bel lt7) trodAll_mk0)))))))), trodVars_mk1 gNode tNode (var_below hvar gNode bel hlt0) hd', bel.frame _, fun h => by cases h⟩

theorem over : Rows.LawS5633BWholeSaid :=
  OpenClaim.holds_of_wide 3 Ybad.f3 rfl rfl rfl rfl rfl rfl rfl ⟨rfl, rfl, rfl, rfl, rfl⟩ rfl rfl rfl rfl rfl (by kernel_rfl) Ybad.func3 (by kernel_rfl)
    (of_decide_eq_true (by kernel_rfl)) (by unfold Func.isWrapper; first | (rw [if_pos (by decide +kernel)]; kernel_rfl) | (rw [if_neg (by decide +kernel)]; exact ⟨rfl, rfl⟩))
    (fun os started H enc _ => lifted os started H enc)


/-- ████ THE TIED CARD ████ -/
theorem card_holds : Rows.LawS5633BWholeCardSaid :=
  Claim7.holds_tied_plain_at .later [] [.widerDeep] true (true, "3ccef9a793926e083babe400488b68f57a478da1f14443dbe3d50ba48819083e") false
    over (fun _ h => by cases h) (by kernel_rfl) (fun _ h => by cases h) lawS5633BWhole_row_tie rfl ⟨rfl, rfl⟩ (by kernel_rfl) rfl
    (fun f fn hf hfn => by
      obtain rfl : f = 3 := Option.some.inj ((show Ybad.prog.funcNamed Rows.lawS5633BWholeRow.func = some 3 by kernel_rfl).symm.trans hf) |>.symm
      obtain rfl : fn = Ybad.f3 := (Option.some.inj (Ybad.func3.symm.trans hfn)).symm
      exact ⟨by kernel_rfl, fun j t ht => by
        rw [Ybad.params3] at ht
        have hm : t ∈ [5, 5, 5, 22, 5, 22, 23, 23] := by simpa using Array.mem_of_getElem? ht
        have hall : ([5, 5, 5, 22, 5, 22, 23, 23].all fun u => !Ybad.prog.wantsStandIn u) = true := by kernel_rfl
        exact (show Ybad.prog.wantsStandIn t = false by simpa using List.all_eq_true.1 hall t hm)⟩)
    (by kernel_rfl)
#print axioms card_holds
end Go.Proofs.YbulkdlqeDoor
