/-
  LawS5633APart OVER ITS ARGUMENT's READING.
-/
import Derived.Test.YbulkdlqeFmtAf
import Derived.Test.YbulkdlqeFmtAd
namespace Go.Proofs.YbulkdlqeFmt
open Go.ChangeShapes Go.WideShapes Go.ChangeAt Go.RowKit Go.WideMaps Go.WideElems
open Go.Extern.Stop Go.Stop Go.Extern

theorem list15 (l : List Value) (h : l.length = 15) : ∃ x0 x1 x2 x3 x4 x5 x6 x7 x8 x9 x10 x11 x12 x13 x14, l = [x0, x1, x2, x3, x4, x5, x6, x7, x8, x9, x10, x11, x12, x13, x14] := by
  match l, h with
  | [x0, x1, x2, x3, x4, x5, x6, x7, x8, x9, x10, x11, x12, x13, x14], _ => exact ⟨_, _, _, _, _, _, _, _, _, _, _, _, _, _, _, rfl⟩

/-- The weights of a struct's fields are among its own. -/
theorem sized_fields {H : Type} {ts : List TypeId} {ds : List (DataW H)} {j : Nat} {t : TypeId} {fs : Array Field} {parts : List (DataW H)} (h : (DataW.weightsEach Ybaf.prog ts ds).all (· ≤ reachBytes) = true) (ht : ts[j]? = some t) (hd : ds[j]? = some (.agg parts)) (hu : Ybaf.prog.underlying t = some (.struct fs)) :
    (DataW.weightsEach Ybaf.prog (fs.toList.map (·.type)) parts).all (· ≤ reachBytes) = true := by
  rw [List.all_eq_true] at h ⊢
  intro x hx
  exact h x (DataW.weights_mem_each ht hd x (by simpa [DataW.weights, hu] using hx))

set_option maxRecDepth 100000 in
theorem part_walk {H : Type} {enc : TypeId × Value → H} (I : Interp) (F fo c : Nat) (ea : Nat → Addr) (W : World) (cs : Array Value) (fuel : Nat) (d : DataW H) (p : List MemPlace) (ts : List TypeId) (ds : List (DataW H)) (h : DataW.trod enc Ybaf.prog W 0 (fun _ => true) true fuel 27 cs.toList = some (d, p))
    (hsz : (DataW.weightsEach Ybaf.prog ts ds).all (· ≤ reachBytes) = true) (ht : ts[0]? = some 27) (hd : ds[0]? = some d) (hI : I.answers W.tape) (hE : Env W F fo c ea) : Calls Ybaf.prog 3 #[.agg cs] W (LawPost W) := by
  obtain ⟨xs, m, _, hx, hlen, hxl, hf⟩ := DataW.trod_struct Ybaf.underlying27 h
  rw [c27] at hlen
  obtain ⟨l⟩ := cs
  obtain ⟨x0, x1, x2, x3, x4, x5, x6, x7, x8, x9, x10, x11, x12, x13, x14, hl⟩ := list15 l hlen
  subst hl
  obtain ⟨y0, g0, k0⟩ : ∃ y, DataW.trod enc Ybaf.prog W 0 (fun _ => true) true m 5 [x0] = some y ∧ xs[0]? = some y := by
    have hi : 0 < xs.length := by rw [hxl]; decide
    have h1 := hf 0 _ rfl
    have h2 : DataW.trod enc Ybaf.prog W 0 (fun _ => true) true m 5 (List.take (Ybaf.prog.cellsOf 5) (List.drop 0 [x0, x1, x2, x3, x4, x5, x6, x7, x8, x9, x10, x11, x12, x13, x14])) = xs[0]? := h1
    rw [c5] at h2
    exact ⟨xs[0], by rw [← List.getElem?_eq_getElem hi]; exact h2, List.getElem?_eq_getElem hi⟩
  obtain ⟨y1, g1, k1⟩ : ∃ y, DataW.trod enc Ybaf.prog W 0 (fun _ => true) true m 4 [x1] = some y ∧ xs[1]? = some y := by
    have hi : 1 < xs.length := by rw [hxl]; decide
    have h1 := hf 1 _ rfl
    have h2 : DataW.trod enc Ybaf.prog W 0 (fun _ => true) true m 4 (List.take (Ybaf.prog.cellsOf 4) (List.drop 1 [x0, x1, x2, x3, x4, x5, x6, x7, x8, x9, x10, x11, x12, x13, x14])) = xs[1]? := h1
    rw [c4] at h2
    exact ⟨xs[1], by rw [← List.getElem?_eq_getElem hi]; exact h2, List.getElem?_eq_getElem hi⟩
  obtain ⟨y2, g2, k2⟩ : ∃ y, DataW.trod enc Ybaf.prog W 0 (fun _ => true) true m 22 [x2] = some y ∧ xs[2]? = some y := by
    have hi : 2 < xs.length := by rw [hxl]; decide
    have h1 := hf 2 _ rfl
    have h2 : DataW.trod enc Ybaf.prog W 0 (fun _ => true) true m 22 (List.take (Ybaf.prog.cellsOf 22) (List.drop 2 [x0, x1, x2, x3, x4, x5, x6, x7, x8, x9, x10, x11, x12, x13, x14])) = xs[2]? := h1
    rw [c22] at h2
    exact ⟨xs[2], by rw [← List.getElem?_eq_getElem hi]; exact h2, List.getElem?_eq_getElem hi⟩
  obtain ⟨y3, g3, k3⟩ : ∃ y, DataW.trod enc Ybaf.prog W 0 (fun _ => true) true m 23 [x3] = some y ∧ xs[3]? = some y := by
    have hi : 3 < xs.length := by rw [hxl]; decide
    have h1 := hf 3 _ rfl
    have h2 : DataW.trod enc Ybaf.prog W 0 (fun _ => true) true m 23 (List.take (Ybaf.prog.cellsOf 23) (List.drop 3 [x0, x1, x2, x3, x4, x5, x6, x7, x8, x9, x10, x11, x12, x13, x14])) = xs[3]? := h1
    rw [c23] at h2
    exact ⟨xs[3], by rw [← List.getElem?_eq_getElem hi]; exact h2, List.getElem?_eq_getElem hi⟩
  obtain ⟨y4, g4, k4⟩ : ∃ y, DataW.trod enc Ybaf.prog W 0 (fun _ => true) true m 24 [x4] = some y ∧ xs[4]? = some y := by
    have hi : 4 < xs.length := by rw [hxl]; decide
    have h1 := hf 4 _ rfl
    have h2 : DataW.trod enc Ybaf.prog W 0 (fun _ => true) true m 24 (List.take (Ybaf.prog.cellsOf 24) (List.drop 4 [x0, x1, x2, x3, x4, x5, x6, x7, x8, x9, x10, x11, x12, x13, x14])) = xs[4]? := h1
    rw [c24] at h2
    exact ⟨xs[4], by rw [← List.getElem?_eq_getElem hi]; exact h2, List.getElem?_eq_getElem hi⟩
  obtain ⟨y5, g5, k5⟩ : ∃ y, DataW.trod enc Ybaf.prog W 0 (fun _ => true) true m 5 [x5] = some y ∧ xs[5]? = some y := by
    have hi : 5 < xs.length := by rw [hxl]; decide
    have h1 := hf 5 _ rfl
    have h2 : DataW.trod enc Ybaf.prog W 0 (fun _ => true) true m 5 (List.take (Ybaf.prog.cellsOf 5) (List.drop 5 [x0, x1, x2, x3, x4, x5, x6, x7, x8, x9, x10, x11, x12, x13, x14])) = xs[5]? := h1
    rw [c5] at h2
    exact ⟨xs[5], by rw [← List.getElem?_eq_getElem hi]; exact h2, List.getElem?_eq_getElem hi⟩
  obtain ⟨y6, g6, k6⟩ : ∃ y, DataW.trod enc Ybaf.prog W 0 (fun _ => true) true m 5 [x6] = some y ∧ xs[6]? = some y := by
    have hi : 6 < xs.length := by rw [hxl]; decide
    have h1 := hf 6 _ rfl
    have h2 : DataW.trod enc Ybaf.prog W 0 (fun _ => true) true m 5 (List.take (Ybaf.prog.cellsOf 5) (List.drop 6 [x0, x1, x2, x3, x4, x5, x6, x7, x8, x9, x10, x11, x12, x13, x14])) = xs[6]? := h1
    rw [c5] at h2
    exact ⟨xs[6], by rw [← List.getElem?_eq_getElem hi]; exact h2, List.getElem?_eq_getElem hi⟩
  obtain ⟨y7, g7, k7⟩ : ∃ y, DataW.trod enc Ybaf.prog W 0 (fun _ => true) true m 5 [x7] = some y ∧ xs[7]? = some y := by
    have hi : 7 < xs.length := by rw [hxl]; decide
    have h1 := hf 7 _ rfl
    have h2 : DataW.trod enc Ybaf.prog W 0 (fun _ => true) true m 5 (List.take (Ybaf.prog.cellsOf 5) (List.drop 7 [x0, x1, x2, x3, x4, x5, x6, x7, x8, x9, x10, x11, x12, x13, x14])) = xs[7]? := h1
    rw [c5] at h2
    exact ⟨xs[7], by rw [← List.getElem?_eq_getElem hi]; exact h2, List.getElem?_eq_getElem hi⟩
  obtain ⟨y8, g8, k8⟩ : ∃ y, DataW.trod enc Ybaf.prog W 0 (fun _ => true) true m 5 [x8] = some y ∧ xs[8]? = some y := by
    have hi : 8 < xs.length := by rw [hxl]; decide
    have h1 := hf 8 _ rfl
    have h2 : DataW.trod enc Ybaf.prog W 0 (fun _ => true) true m 5 (List.take (Ybaf.prog.cellsOf 5) (List.drop 8 [x0, x1, x2, x3, x4, x5, x6, x7, x8, x9, x10, x11, x12, x13, x14])) = xs[8]? := h1
    rw [c5] at h2
    exact ⟨xs[8], by rw [← List.getElem?_eq_getElem hi]; exact h2, List.getElem?_eq_getElem hi⟩
  obtain ⟨y9, g9, k9⟩ : ∃ y, DataW.trod enc Ybaf.prog W 0 (fun _ => true) true m 22 [x9] = some y ∧ xs[9]? = some y := by
    have hi : 9 < xs.length := by rw [hxl]; decide
    have h1 := hf 9 _ rfl
    have h2 : DataW.trod enc Ybaf.prog W 0 (fun _ => true) true m 22 (List.take (Ybaf.prog.cellsOf 22) (List.drop 9 [x0, x1, x2, x3, x4, x5, x6, x7, x8, x9, x10, x11, x12, x13, x14])) = xs[9]? := h1
    rw [c22] at h2
    exact ⟨xs[9], by rw [← List.getElem?_eq_getElem hi]; exact h2, List.getElem?_eq_getElem hi⟩
  obtain ⟨y10, g10, k10⟩ : ∃ y, DataW.trod enc Ybaf.prog W 0 (fun _ => true) true m 4 [x10] = some y ∧ xs[10]? = some y := by
    have hi : 10 < xs.length := by rw [hxl]; decide
    have h1 := hf 10 _ rfl
    have h2 : DataW.trod enc Ybaf.prog W 0 (fun _ => true) true m 4 (List.take (Ybaf.prog.cellsOf 4) (List.drop 10 [x0, x1, x2, x3, x4, x5, x6, x7, x8, x9, x10, x11, x12, x13, x14])) = xs[10]? := h1
    rw [c4] at h2
    exact ⟨xs[10], by rw [← List.getElem?_eq_getElem hi]; exact h2, List.getElem?_eq_getElem hi⟩
  obtain ⟨y11, g11, k11⟩ : ∃ y, DataW.trod enc Ybaf.prog W 0 (fun _ => true) true m 24 [x11] = some y ∧ xs[11]? = some y := by
    have hi : 11 < xs.length := by rw [hxl]; decide
    have h1 := hf 11 _ rfl
    have h2 : DataW.trod enc Ybaf.prog W 0 (fun _ => true) true m 24 (List.take (Ybaf.prog.cellsOf 24) (List.drop 11 [x0, x1, x2, x3, x4, x5, x6, x7, x8, x9, x10, x11, x12, x13, x14])) = xs[11]? := h1
    rw [c24] at h2
    exact ⟨xs[11], by rw [← List.getElem?_eq_getElem hi]; exact h2, List.getElem?_eq_getElem hi⟩
  obtain ⟨y12, g12, k12⟩ : ∃ y, DataW.trod enc Ybaf.prog W 0 (fun _ => true) true m 22 [x12] = some y ∧ xs[12]? = some y := by
    have hi : 12 < xs.length := by rw [hxl]; decide
    have h1 := hf 12 _ rfl
    have h2 : DataW.trod enc Ybaf.prog W 0 (fun _ => true) true m 22 (List.take (Ybaf.prog.cellsOf 22) (List.drop 12 [x0, x1, x2, x3, x4, x5, x6, x7, x8, x9, x10, x11, x12, x13, x14])) = xs[12]? := h1
    rw [c22] at h2
    exact ⟨xs[12], by rw [← List.getElem?_eq_getElem hi]; exact h2, List.getElem?_eq_getElem hi⟩
  obtain ⟨y13, g13, k13⟩ : ∃ y, DataW.trod enc Ybaf.prog W 0 (fun _ => true) true m 22 [x13] = some y ∧ xs[13]? = some y := by
    have hi : 13 < xs.length := by rw [hxl]; decide
    have h1 := hf 13 _ rfl
    have h2 : DataW.trod enc Ybaf.prog W 0 (fun _ => true) true m 22 (List.take (Ybaf.prog.cellsOf 22) (List.drop 13 [x0, x1, x2, x3, x4, x5, x6, x7, x8, x9, x10, x11, x12, x13, x14])) = xs[13]? := h1
    rw [c22] at h2
    exact ⟨xs[13], by rw [← List.getElem?_eq_getElem hi]; exact h2, List.getElem?_eq_getElem hi⟩
  obtain ⟨y14, g14, k14⟩ : ∃ y, DataW.trod enc Ybaf.prog W 0 (fun _ => true) true m 25 [x14] = some y ∧ xs[14]? = some y := by
    have hi : 14 < xs.length := by rw [hxl]; decide
    have h1 := hf 14 _ rfl
    have h2 : DataW.trod enc Ybaf.prog W 0 (fun _ => true) true m 25 (List.take (Ybaf.prog.cellsOf 25) (List.drop 14 [x0, x1, x2, x3, x4, x5, x6, x7, x8, x9, x10, x11, x12, x13, x14])) = xs[14]? := h1
    rw [c25] at h2
    exact ⟨xs[14], by rw [← List.getElem?_eq_getElem hi]; exact h2, List.getElem?_eq_getElem hi⟩
  obtain ⟨ot, rfl, hot⟩ := u8_of g0
  obtain ⟨raw, rfl⟩ := bool_of g1
  obtain ⟨ar, nr, cr, fr, rfl, hr, hfr, hrnil, _⟩ := bytes_of g2
  obtain ⟨ns, rfl, hns⟩ := u16_of g3
  obtain ⟨tt, rfl, htt⟩ := u32_of g4
  obtain ⟨rm, rfl, hrm⟩ := u8_of g5
  obtain ⟨fl, rfl, hfl⟩ := u8_of g6
  obtain ⟨b7, rfl, hb7⟩ := u8_of g7
  obtain ⟨el, rfl, hel⟩ := u8_of g8
  obtain ⟨af, nf, cf, ff, rfl, hf9, hff, _, hwt⟩ := bytes_of g9
  obtain ⟨us, rfl⟩ := bool_of g10
  obtain ⟨sch, rfl, hsch⟩ := u32_of g11
  obtain ⟨as_, nd, cd, fd, rfl, hd12, hfd, hdnil, _⟩ := bytes_of g12
  obtain ⟨ak, nk, ck, fk, rfl, hk, hfk, _, _⟩ := bytes_of g13
  obtain ⟨av, nv, cv, fv, rfl, hv, hfv⟩ := words_of g14
  have hnf : nf ≤ 140737488351232 := by
    rcases hwt with h0 | ⟨es, sp, he, hel9⟩
    · omega
    · have hd' : ds[0]? = some (.agg (xs.map (·.1))) := by rw [hd, (Prod.mk.inj hx).1]
      have h1 := sized_fields hsz ht hd' Ybaf.underlying27
      have h2 := sized_slice h1 (j := 9) (t := 22) (e := 5) rfl (by rw [List.getElem?_map, k9, Option.map_some, he]) Ybaf.underlying22
      rw [b5] at h2
      simp only [reachBytes] at h2
      omega
  by_cases hbig : 65536 < nr ∨ 65536 < nk ∨ 65536 < nd
  · exact apart_big ot ns tt rm fl b7 el nr cr nf cf sch nd cd nk ck nv cv ar af as_ ak av raw us W hbig
  · exact apart_any I F fo c ea ot ns tt rm fl b7 el nr cr nf cf sch nd cd nk ck nv cv ar af as_ ak av raw us fr ff fd fk fv W hI hE hot hns htt hrm hfl hb7 hel (by omega) (by omega) (by omega) hnf hrnil hdnil hr hf9 hd12 hk hv hfr hff hfd hfk hfv
end Go.Proofs.YbulkdlqeFmt
