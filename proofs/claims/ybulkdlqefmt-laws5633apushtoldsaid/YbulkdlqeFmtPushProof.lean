/-
  LawS5633APush OVER ITS ARGUMENT's READING; THE TOLD AND TIED CARD.
-/
import Derived.Test.YbulkdlqeFmtRows
import Derived.Test.YbulkdlqeFmtTie
import Derived.Test.YbulkdlqeFmtCards
import Derived.Test.YbulkdlqeFmtAf
import Derived.Test.YbulkdlqeFmtAh
import Derived.Test.YbulkdlqeFmtCc
import Derived.Stop.JoinedTold
import Derived.SevenTiedAt
namespace Go.Proofs.YbulkdlqeFmt
open Go.ChangeShapes Go.WideShapes Go.ChangeAt Go.RowKit Go.WideMaps Go.WideElems
open Go.Extern.Stop Go.Stop Go.Extern
set_option linter.unusedVariables false

theorem list12 (l : List Value) (h : l.length = 12) : ∃ x0 x1 x2 x3 x4 x5 x6 x7 x8 x9 x10 x11, l = [x0, x1, x2, x3, x4, x5, x6, x7, x8, x9, x10, x11] := by
  match l, h with
  | [x0, x1, x2, x3, x4, x5, x6, x7, x8, x9, x10, x11], _ => exact ⟨_, _, _, _, _, _, _, _, _, _, _, _, rfl⟩
/-- The weights of a struct's fields are among its own. -/
theorem sized_fields4 {H : Type} {ts : List TypeId} {ds : List (DataW H)} {j : Nat} {t : TypeId} {fs : Array Field} {parts : List (DataW H)} (h : (DataW.weightsEach Ybaf.prog ts ds).all (· ≤ reachBytes) = true) (ht : ts[j]? = some t) (hd : ds[j]? = some (.agg parts)) (hu : Ybaf.prog.underlying t = some (.struct fs)) :
    (DataW.weightsEach Ybaf.prog (fs.toList.map (·.type)) parts).all (· ≤ reachBytes) = true := by
  rw [List.all_eq_true] at h ⊢
  intro x hx
  exact h x (DataW.weights_mem_each ht hd x (by simpa [DataW.weights, hu] using hx))

set_option maxRecDepth 100000 in
theorem push_walk {H : Type} {enc : TypeId × Value → H} (I : Interp) (F fo c : Nat) (ea : Nat → Addr) (W : World) (cs : Array Value) (fuel : Nat) (d : DataW H) (p : List MemPlace) (ts : List TypeId) (ds : List (DataW H)) (h : DataW.trod enc Ybaf.prog W 0 (fun _ => true) true fuel 46 cs.toList = some (d, p))
    (hsz : (DataW.weightsEach Ybaf.prog ts ds).all (· ≤ reachBytes) = true) (ht : ts[0]? = some 46) (hd : ds[0]? = some d) (hI : I.answers W.tape) (hE : Env W F fo c ea) : Calls Ybaf.prog 4 #[.agg cs] W (LawPost W) := by
  obtain ⟨xs, m, _, hx, hlen, hxl, hf⟩ := DataW.trod_struct Ybaf.underlying46 h
  rw [c46] at hlen
  obtain ⟨l⟩ := cs
  obtain ⟨x0, x1, x2, x3, x4, x5, x6, x7, x8, x9, x10, x11, hl⟩ := list12 l hlen
  subst hl
  obtain ⟨y0, g0, k0⟩ : ∃ y, DataW.trod enc Ybaf.prog W 0 (fun _ => true) true m 24 [x0] = some y ∧ xs[0]? = some y := by
    have hi : 0 < xs.length := by rw [hxl]; decide
    have h1 := hf 0 _ rfl
    have h2 : DataW.trod enc Ybaf.prog W 0 (fun _ => true) true m 24 (List.take (Ybaf.prog.cellsOf 24) (List.drop 0 [x0, x1, x2, x3, x4, x5, x6, x7, x8, x9, x10, x11])) = xs[0]? := h1
    rw [c24] at h2
    exact ⟨xs[0], by rw [← List.getElem?_eq_getElem hi]; exact h2, List.getElem?_eq_getElem hi⟩
  obtain ⟨y1, g1, k1⟩ : ∃ y, DataW.trod enc Ybaf.prog W 0 (fun _ => true) true m 5 [x1] = some y ∧ xs[1]? = some y := by
    have hi : 1 < xs.length := by rw [hxl]; decide
    have h1 := hf 1 _ rfl
    have h2 : DataW.trod enc Ybaf.prog W 0 (fun _ => true) true m 5 (List.take (Ybaf.prog.cellsOf 5) (List.drop 1 [x0, x1, x2, x3, x4, x5, x6, x7, x8, x9, x10, x11])) = xs[1]? := h1
    rw [c5] at h2
    exact ⟨xs[1], by rw [← List.getElem?_eq_getElem hi]; exact h2, List.getElem?_eq_getElem hi⟩
  obtain ⟨y2, g2, k2⟩ : ∃ y, DataW.trod enc Ybaf.prog W 0 (fun _ => true) true m 5 [x2] = some y ∧ xs[2]? = some y := by
    have hi : 2 < xs.length := by rw [hxl]; decide
    have h1 := hf 2 _ rfl
    have h2 : DataW.trod enc Ybaf.prog W 0 (fun _ => true) true m 5 (List.take (Ybaf.prog.cellsOf 5) (List.drop 2 [x0, x1, x2, x3, x4, x5, x6, x7, x8, x9, x10, x11])) = xs[2]? := h1
    rw [c5] at h2
    exact ⟨xs[2], by rw [← List.getElem?_eq_getElem hi]; exact h2, List.getElem?_eq_getElem hi⟩
  obtain ⟨y3, g3, k3⟩ : ∃ y, DataW.trod enc Ybaf.prog W 0 (fun _ => true) true m 23 [x3] = some y ∧ xs[3]? = some y := by
    have hi : 3 < xs.length := by rw [hxl]; decide
    have h1 := hf 3 _ rfl
    have h2 : DataW.trod enc Ybaf.prog W 0 (fun _ => true) true m 23 (List.take (Ybaf.prog.cellsOf 23) (List.drop 3 [x0, x1, x2, x3, x4, x5, x6, x7, x8, x9, x10, x11])) = xs[3]? := h1
    rw [c23] at h2
    exact ⟨xs[3], by rw [← List.getElem?_eq_getElem hi]; exact h2, List.getElem?_eq_getElem hi⟩
  obtain ⟨y4, g4, k4⟩ : ∃ y, DataW.trod enc Ybaf.prog W 0 (fun _ => true) true m 5 [x4] = some y ∧ xs[4]? = some y := by
    have hi : 4 < xs.length := by rw [hxl]; decide
    have h1 := hf 4 _ rfl
    have h2 : DataW.trod enc Ybaf.prog W 0 (fun _ => true) true m 5 (List.take (Ybaf.prog.cellsOf 5) (List.drop 4 [x0, x1, x2, x3, x4, x5, x6, x7, x8, x9, x10, x11])) = xs[4]? := h1
    rw [c5] at h2
    exact ⟨xs[4], by rw [← List.getElem?_eq_getElem hi]; exact h2, List.getElem?_eq_getElem hi⟩
  obtain ⟨y5, g5, k5⟩ : ∃ y, DataW.trod enc Ybaf.prog W 0 (fun _ => true) true m 5 [x5] = some y ∧ xs[5]? = some y := by
    have hi : 5 < xs.length := by rw [hxl]; decide
    have h1 := hf 5 _ rfl
    have h2 : DataW.trod enc Ybaf.prog W 0 (fun _ => true) true m 5 (List.take (Ybaf.prog.cellsOf 5) (List.drop 5 [x0, x1, x2, x3, x4, x5, x6, x7, x8, x9, x10, x11])) = xs[5]? := h1
    rw [c5] at h2
    exact ⟨xs[5], by rw [← List.getElem?_eq_getElem hi]; exact h2, List.getElem?_eq_getElem hi⟩
  obtain ⟨y6, g6, k6⟩ : ∃ y, DataW.trod enc Ybaf.prog W 0 (fun _ => true) true m 22 [x6] = some y ∧ xs[6]? = some y := by
    have hi : 6 < xs.length := by rw [hxl]; decide
    have h1 := hf 6 _ rfl
    have h2 : DataW.trod enc Ybaf.prog W 0 (fun _ => true) true m 22 (List.take (Ybaf.prog.cellsOf 22) (List.drop 6 [x0, x1, x2, x3, x4, x5, x6, x7, x8, x9, x10, x11])) = xs[6]? := h1
    rw [c22] at h2
    exact ⟨xs[6], by rw [← List.getElem?_eq_getElem hi]; exact h2, List.getElem?_eq_getElem hi⟩
  obtain ⟨y7, g7, k7⟩ : ∃ y, DataW.trod enc Ybaf.prog W 0 (fun _ => true) true m 4 [x7] = some y ∧ xs[7]? = some y := by
    have hi : 7 < xs.length := by rw [hxl]; decide
    have h1 := hf 7 _ rfl
    have h2 : DataW.trod enc Ybaf.prog W 0 (fun _ => true) true m 4 (List.take (Ybaf.prog.cellsOf 4) (List.drop 7 [x0, x1, x2, x3, x4, x5, x6, x7, x8, x9, x10, x11])) = xs[7]? := h1
    rw [c4] at h2
    exact ⟨xs[7], by rw [← List.getElem?_eq_getElem hi]; exact h2, List.getElem?_eq_getElem hi⟩
  obtain ⟨y8, g8, k8⟩ : ∃ y, DataW.trod enc Ybaf.prog W 0 (fun _ => true) true m 24 [x8] = some y ∧ xs[8]? = some y := by
    have hi : 8 < xs.length := by rw [hxl]; decide
    have h1 := hf 8 _ rfl
    have h2 : DataW.trod enc Ybaf.prog W 0 (fun _ => true) true m 24 (List.take (Ybaf.prog.cellsOf 24) (List.drop 8 [x0, x1, x2, x3, x4, x5, x6, x7, x8, x9, x10, x11])) = xs[8]? := h1
    rw [c24] at h2
    exact ⟨xs[8], by rw [← List.getElem?_eq_getElem hi]; exact h2, List.getElem?_eq_getElem hi⟩
  obtain ⟨y9, g9, k9⟩ : ∃ y, DataW.trod enc Ybaf.prog W 0 (fun _ => true) true m 22 [x9] = some y ∧ xs[9]? = some y := by
    have hi : 9 < xs.length := by rw [hxl]; decide
    have h1 := hf 9 _ rfl
    have h2 : DataW.trod enc Ybaf.prog W 0 (fun _ => true) true m 22 (List.take (Ybaf.prog.cellsOf 22) (List.drop 9 [x0, x1, x2, x3, x4, x5, x6, x7, x8, x9, x10, x11])) = xs[9]? := h1
    rw [c22] at h2
    exact ⟨xs[9], by rw [← List.getElem?_eq_getElem hi]; exact h2, List.getElem?_eq_getElem hi⟩
  obtain ⟨y10, g10, k10⟩ : ∃ y, DataW.trod enc Ybaf.prog W 0 (fun _ => true) true m 22 [x10] = some y ∧ xs[10]? = some y := by
    have hi : 10 < xs.length := by rw [hxl]; decide
    have h1 := hf 10 _ rfl
    have h2 : DataW.trod enc Ybaf.prog W 0 (fun _ => true) true m 22 (List.take (Ybaf.prog.cellsOf 22) (List.drop 10 [x0, x1, x2, x3, x4, x5, x6, x7, x8, x9, x10, x11])) = xs[10]? := h1
    rw [c22] at h2
    exact ⟨xs[10], by rw [← List.getElem?_eq_getElem hi]; exact h2, List.getElem?_eq_getElem hi⟩
  obtain ⟨y11, g11, k11⟩ : ∃ y, DataW.trod enc Ybaf.prog W 0 (fun _ => true) true m 25 [x11] = some y ∧ xs[11]? = some y := by
    have hi : 11 < xs.length := by rw [hxl]; decide
    have h1 := hf 11 _ rfl
    have h2 : DataW.trod enc Ybaf.prog W 0 (fun _ => true) true m 25 (List.take (Ybaf.prog.cellsOf 25) (List.drop 11 [x0, x1, x2, x3, x4, x5, x6, x7, x8, x9, x10, x11])) = xs[11]? := h1
    rw [c25] at h2
    exact ⟨xs[11], by rw [← List.getElem?_eq_getElem hi]; exact h2, List.getElem?_eq_getElem hi⟩
  obtain ⟨tt, rfl, htt⟩ := u32_of g0
  obtain ⟨rm, rfl, hrm⟩ := u8_of g1
  obtain ⟨fl, rfl, hfl⟩ := u8_of g2
  obtain ⟨ns, rfl, hns⟩ := u16_of g3
  obtain ⟨b7, rfl, hb7⟩ := u8_of g4
  obtain ⟨rs, rfl, hrs⟩ := u8_of g5
  obtain ⟨af, nf, cf, ff, rfl, hf6, hff, _, hwt⟩ := bytes_of g6
  obtain ⟨us, rfl⟩ := bool_of g7
  obtain ⟨sch, rfl, hsch⟩ := u32_of g8
  obtain ⟨as_, nd, cd, fd, rfl, hd9, hfd, hdnil, _⟩ := bytes_of g9
  obtain ⟨ak, nk, ck, fk, rfl, hk, hfk, _, _⟩ := bytes_of g10
  obtain ⟨av, nv, cv, fv, rfl, hv, hfv⟩ := words_of g11
  have hnf : nf ≤ 140737488351232 := by
    rcases hwt with h0 | ⟨es, sp, he, hel⟩
    · omega
    · have hd' : ds[0]? = some (.agg (xs.map (·.1))) := by rw [hd, (Prod.mk.inj hx).1]
      have h1 := sized_fields4 hsz ht hd' Ybaf.underlying46
      have h2 := sized_slice h1 (j := 6) (t := 22) (e := 5) rfl (by rw [List.getElem?_map, k6, Option.map_some, he]) Ybaf.underlying22
      rw [b5] at h2
      simp only [reachBytes] at h2
      omega
  by_cases hbig : 65536 < nk ∨ 65536 < nd
  · exact apush_big tt rm fl ns b7 rs nf cf sch nd cd nk ck nv cv af as_ ak av us W hbig
  · exact apush_any I F fo c ea tt rm fl ns b7 rs nf cf sch nd cd nk ck nv cv af as_ ak av us ff fd fk fv W hI hE htt hrm hfl hns hb7 (by omega) (by omega) hnf hdnil hf6 hd9 hk hv hff hfk hfv

abbrev args4 : Array Value := #[.agg #[.int .u32 0, .int .u8 0, .int .u8 0, .int .u16 0, .int .u8 0, .int .u8 0, .slice none 0 0, .bool false, .int .u32 0, .slice none 0 0, .slice none 0 0, .slice none 0 0]]
set_option maxRecDepth 1000000 in
theorem witness4 (os : Os) {H : Type} (enc : TypeId × Value → H) (F : Stop.Interp) :
    ∃ (w : World) (tape : Tape) (i : Input), w.os = os ∧ (w.forCall tape i).Shaped Ybaf.checked.prog ∧ i.vars = [] ∧ Input.okWide Ybaf.checked.prog (w.forCall tape i) .any w.heap.size 4 i ∧
      (OpenSpec.ofChange Rows.lawS5633APushSpec).preRow enc Ybaf.checked.prog Ybaf.f4 [] false laid7 (w.forCall tape i).memory i.args ∧ ({ modest := false } : Assume).holds Ybaf.checked.prog (lone (Frame.enter Ybaf.checked.prog 4 i.args .normal) [] (w.forCall tape i)) ∧ F.answers tape :=
  OpenSpec.witness_stopped_atRef (enc := enc) (C := Ybaf.checked) false (World.doorLaid Ybaf.prog 155 os) args4 rfl (by kernel_rfl) (by kernel_rfl) (by kernel_rfl)
    (OpenSpec.preRow_of_B rfl 8 (by kernel_rfl) (by kernel_rfl) (door_met os _)) F

theorem trodVars_len4 {H : Type} {enc : TypeId × Value → H} {P : Program} {w : World} {sp : Nat → Bool} : ∀ {ns : List String} {gs : List (DataW H)} {ps : List MemPlace}, DataW.TrodVars enc P w sp ns gs ps → gs.length = ns.length
  | [], [], _, _ => rfl
  | [], _ :: _, _, h => h.elim
  | _ :: _, [], _, h => h.elim
  | _ :: _, _ :: _, _, h => by
    obtain ⟨_, _, _, _, _, _, _, _, _, _, hs, _⟩ := h
    simp [trodVars_len4 hs]
theorem list7' {α : Type} (l : List α) (h : l.length = 7) : ∃ x0 x1 x2 x3 x4 x5 x6, l = [x0, x1, x2, x3, x4, x5, x6] := by
  match l, h with
  | [x0, x1, x2, x3, x4, x5, x6], _ => exact ⟨_, _, _, _, _, _, _, rfl⟩

set_option maxRecDepth 100000 in
set_option maxHeartbeats 4000000 in
theorem push_lifted (os : Os) (started : os.Started) (H : Type) (enc : TypeId × Value → H) :
    ReturnsInTold none {} Ybaf.checked os 4 .any Input.okWide ((OpenSpec.ofChange Rows.lawS5633APushSpec).preRow enc Ybaf.prog Ybaf.f4 [] false laid7) (fun F => ((OpenSpec.ofChange Rows.lawS5633APushSpec).at F).post enc Ybaf.prog Ybaf.f4 false true false false) (aloneAtReturn Ybaf.prog) nothingAlways := by
  refine returnsInTold_of_row (C := Ybaf.checked) (s := OpenSpec.ofChange Rows.lawS5633APushSpec) (by kernel_rfl) own started (by kernel_rfl) Ybaf.func4 (witness4 os enc) ?_
  intro F W base args ds gs before _ hF hval0 hW _ _ hsz0 hL _
  have hval : ∀ (j : Nat) t v, Ybaf.f4.params[j]? = some t → args[j]? = some v → Value.okWide Ybaf.prog W .any base t v := hval0
  have hsz : (DataW.weightsEach Ybaf.prog (Ybaf.f4.params.toList ++ Rows.lawS5633APushSpec.plain.varTypes Ybaf.prog) (ds ++ gs)).all (· ≤ reachBytes) = true := hsz0
  have hW' := hW
  obtain ⟨p, q, hA0, hV0, rfl, hfz, hnd⟩ := hW
  have hA : DataW.TrodAll enc Ybaf.prog W 0 (fun _ => true) true Ybaf.f4.params.toList args.toList ds p := hA0
  have hV : DataW.TrodVars enc Ybaf.prog W (fun _ => true) Rows.lawS5633APushSpec.vars gs q := hV0
  rw [Ybaf.params4] at hA hval hsz
  obtain ⟨v0, d0, rfl, rfl, h0⟩ := trodAll_one hA
  obtain ⟨cs, rfl, hcs⟩ := okWide_struct Ybaf.underlying46 (hval 0 46 v0 rfl rfl)
  have k0 := h0
  have lt0 : ∀ x ∈ p, x.block < W.heap.size := by obtain ⟨m, hm⟩ := k0; exact DataW.trod_lt m _ _ _ hm
  obtain ⟨F', fo, c, ea, hE⟩ := env_of_laid hL
  obtain ⟨fuel, hf⟩ := h0
  refine (push_walk F.told _ _ _ ea W cs fuel d0 p _ _ hf hsz rfl rfl hF hE).mono fun e W' ⟨he, bel⟩ => ?_
  subst he
  obtain ⟨g1, g2, g3, g4, g5, g6, g7, rfl⟩ := list7' gs (trodVars_len4 hV)
  exact ⟨_, rfl, _, _, _, [], _, _, hW', trodAll_mk1 (shut_bool Ybaf.underlying4 _), trodAll_mk1 (Below.trod laidOut' (by kernel_rfl) (of_decide_eq_true (by kernel_rfl)) k0 bel lt0), Below.trodVars laidOut' bel (by kernel_rfl) hV, bel.frame _, fun h => by cases h⟩

/-- ████ THE TOLD AND TIED CARD ████ -/
theorem push_holds : Rows.LawS5633APushToldSaid :=
  Claim7.holds_of_told_tied_any_at .later 4 Ybaf.f4 "fmt.errorf" [] [] _ _ _ _ _ (by kernel_rfl) rfl rfl rfl laidOut (by kernel_rfl) rfl ⟨rfl, rfl, rfl, rfl, rfl, rfl, rfl⟩ rfl rfl (by kernel_rfl) (by kernel_rfl) Ybaf.func4 (by kernel_rfl)
    (of_decide_eq_true (by kernel_rfl)) (of_decide_eq_true (by kernel_rfl)) stopsAre.symm rfl knobsAre.symm (by kernel_rfl)
    (by kernel_rfl) (by kernel_rfl) (by kernel_rfl) (by kernel_rfl) (by kernel_rfl) (by kernel_rfl) (by kernel_rfl) (by kernel_rfl) (by kernel_rfl) rfl (by kernel_rfl) rfl rfl
    rfl rfl
    rfl (by kernel_rfl) (by kernel_rfl) (by kernel_rfl) (by decide) (by kernel_rfl) lawS5633APush_row_tie
    (OpenClaim.moreEntering_of (by kernel_rfl) (by kernel_rfl) (by kernel_rfl) (by kernel_rfl) (by kernel_rfl) (by kernel_rfl) (by kernel_rfl) (by kernel_rfl) (by kernel_rfl) (by kernel_rfl))
    ⟨_, WideRow.started_initial, isQuiet _⟩
    (fun os started _ H enc _ => push_lifted os started H enc)
end Go.Proofs.YbulkdlqeFmt
