/-
  THE ARGUMENTS OF THE LAW, OPENED.
-/
import Derived.Test.YbulkdlruFmtRows
import Derived.Test.YbulkdlruFmtAs
import Derived.ProofKit
import Derived.LaidMore
import Derived.OpenShut
import Derived.ChangeOld
import Derived.OpenVars
import Derived.SizedLaws
namespace Go.Proofs.YbulkdlruFmt
open Go.ChangeShapes Go.WideShapes Go.ChangeAt Go.RowKit Go.WideMaps Go.WideElems
set_option linter.unusedVariables false

theorem nat_u8 {x : Int} (h : (Lit.int .u8 x).wf = true) : ∃ n : Nat, x = n ∧ n < 256 := by
  have := bounds_u8 h
  exact ⟨x.toNat, by omega, by omega⟩
theorem nat_u16 {x : Int} (h : (Lit.int .u16 x).wf = true) : ∃ n : Nat, x = n ∧ n < 65536 := by
  have := bounds_u16 h
  exact ⟨x.toNat, by omega, by omega⟩
theorem nat_u32 {x : Int} (h : (Lit.int .u32 x).wf = true) : ∃ n : Nat, x = n ∧ n < 4294967296 := by
  have := bounds_u32 h
  exact ⟨x.toNat, by omega, by omega⟩
theorem fun_of (k : IntKind) (M : Nat) (hM : 0 < M) (hb : ∀ x : Int, (Lit.int k x).wf = true → 0 ≤ x ∧ x < M) (zs : List Int) (hz : ∀ n ∈ zs, (Lit.int k n).wf = true) :
    ∃ f : Nat → Nat, (∀ i, f i < M) ∧ ∀ i, i < zs.length → zs.getD i 0 = (f i : Int) := by
  refine ⟨fun i => (zs.getD i 0).toNat, fun i => ?_, fun i hi => ?_⟩
  · by_cases hi : i < zs.length
    · have := hb _ (hz (zs.getD i 0) (by simp [List.getD, hi]))
      show (zs.getD i 0).toNat < M
      omega
    · show (zs.getD i 0).toNat < M
      rw [List.getD, List.getElem?_eq_none (by omega)]
      simpa using hM
  · have := hb _ (hz (zs.getD i 0) (by simp [List.getD, hi]))
    show zs.getD i 0 = ((zs.getD i 0).toNat : Int)
    omega

/-- The byte in a cell; the length in a cell. -/
def byteAt : Option Value → Nat
  | some (.int .u8 n) => n.toNat % 256
  | _ => 0
def lenAt : Option Value → Nat
  | some (.slice _ m _) => m
  | _ => 0
theorem byteAt_lt (o : Option Value) : byteAt o < 256 := by
  unfold byteAt
  split <;> omega
theorem byteAt_u8 {m : Nat} (h : m < 256) : byteAt (some (.int .u8 (m : Int))) = m := by
  simp only [byteAt, Int.toNat_natCast]
  omega

section
variable {H : Type} {enc : TypeId × Value → H} {W : World}
/-- A reading, short. -/
abbrev Reads (enc : TypeId × Value → H) (W : World) (fuel : Nat) (t : TypeId) (cs : List Value) (x : DataW H × List MemPlace) : Prop := DataW.trod enc Ybaf.prog W 0 (fun _ => true) true fuel t cs = some x
/-- The datum's weights are within reach. -/
def WOK (t : TypeId) (d : DataW H) : Prop := ∀ n ∈ DataW.weights Ybaf.prog t d, n ≤ reachBytes
theorem WOK.each {ts : List TypeId} {ds : List (DataW H)} (h : (DataW.weightsEach Ybaf.prog ts ds).all (· ≤ reachBytes) = true) {j : Nat} {t : TypeId} {d : DataW H} (ht : ts[j]? = some t) (hd : ds[j]? = some d) : WOK t d := by
  intro n hn
  have := List.all_eq_true.1 h n (DataW.weights_mem_each ht hd n hn)
  simpa using this
theorem mem_weightsAll {P : Program} {e : TypeId} : ∀ {ds : List (DataW H)} {j : Nat} {d : DataW H}, ds[j]? = some d → ∀ n ∈ d.weights P e, n ∈ DataW.weightsAll P e ds
  | [], j, d, h, n, hn => by simp at h
  | d0 :: ds, 0, d, h, n, hn => by
    simp at h
    subst h
    simp only [DataW.weightsAll, List.mem_append]
    exact .inl hn
  | d0 :: ds, j + 1, d, h, n, hn => by
    simp only [List.getElem?_cons_succ] at h
    simp only [DataW.weightsAll, List.mem_append]
    exact .inr (mem_weightsAll h n hn)
theorem WOK.elem {t e : TypeId} {es sp : List (DataW H)} (h : WOK t (.slice es sp)) (hu : Ybaf.prog.underlying t = some (.slice e)) {j : Nat} {d : DataW H} (hd : es[j]? = some d) : WOK e d := by
  intro n hn
  refine h n ?_
  simp only [DataW.weights, hu, List.mem_cons, List.mem_append]
  exact .inr (.inl (mem_weightsAll hd n hn))
theorem WOK.len {t e : TypeId} {es sp : List (DataW H)} (h : WOK t (.slice es sp)) (hu : Ybaf.prog.underlying t = some (.slice e)) (hb : 0 < Ybaf.prog.bytesOf e) : es.length ≤ 140737488355328 := by
  have h1 : (es.length + sp.length) * Ybaf.prog.bytesOf e ≤ reachBytes := by
    refine h _ ?_
    simp [DataW.weights, hu]
  have h2 : es.length ≤ (es.length + sp.length) * Ybaf.prog.bytesOf e := Nat.le_trans (Nat.le_add_right _ _) (Nat.le_mul_of_pos_right _ hb)
  unfold reachBytes at h1
  omega

/-- The elements of a slice that came in. -/
theorem elem_of {t e K : Nat} (ht : Ybaf.prog.underlying t = some (.slice e)) (hc : Ybaf.prog.cellsOf e = K) (hb : 0 < Ybaf.prog.bytesOf e) {fuel : Nat} {v : Value} {x : DataW H × List MemPlace} (h : Reads enc W fuel t [v] x) (hw : WOK t x.1) :
    v = .slice none 0 0 ∨ ∃ a len cap n, v = .slice (some a) len cap ∧ len ≤ 140737488355328 ∧ ∀ i, i < len → ∃ cs y, cs.length = K ∧ (∀ j, j < K → W.cell? ((a.add (i * K)).add j) = cs[j]?) ∧ Reads enc W n e cs y ∧ WOK e y.1 := by
  rcases DataW.trod_slice ht h with ⟨hcs, _⟩ | ⟨a, len, cap, elems, rest, n, _, hcs, hx, _, hlc, _, hlen, hel, _, _⟩
  · simp at hcs
    exact .inl hcs
  · simp at hcs
    subst hx
    refine .inr ⟨a, len, cap, n, hcs, ?_, fun i hi => ?_⟩
    · have := hw.len ht hb
      simp at this
      omega
    · have h1 := hel i hi
      rw [hc] at h1
      have hi2 : i < elems.length := by omega
      rw [List.getElem?_eq_getElem hi2] at h1
      obtain ⟨cs, hcells, htr⟩ := Option.bind_eq_some_iff.1 h1
      obtain ⟨_, hl, hcell⟩ := World.cells?_some hcells
      exact ⟨cs, _, hl, hcell, htr, hw.elem ht (j := i) (by simp [List.getElem?_eq_getElem hi2])⟩
/-- Where the elements lie. -/
theorem place_of {a : Addr} {len K : Nat} {Ps : Nat → List Value → Prop} (hK : 0 < K) (h : ∀ i, i < len → ∃ cs : List Value, cs.length = K ∧ (∀ j, j < K → W.cell? ((a.add (i * K)).add j) = cs[j]?) ∧ Ps i cs) :
    len = 0 ∨ ∃ b o, a = ⟨b, o, none⟩ ∧ b < W.heap.size ∧ ∀ i, i < len → ∃ cs : List Value, cs.length = K ∧ (∀ j, j < K → W.cell? ⟨b, o + i * K + j, none⟩ = cs[j]?) ∧ Ps i cs := by
  by_cases h0 : len = 0
  · exact .inl h0
  · obtain ⟨cs, hl, hc, _⟩ := h 0 (by omega)
    have h1 := hc 0 hK
    rw [List.getElem?_eq_getElem (by omega)] at h1
    obtain ⟨b, o, sp⟩ := a
    have hsp : sp = none := by simpa [Addr.add] using World.cell?_spot h1
    subst hsp
    refine .inr ⟨b, o, rfl, ?_, fun i hi => ?_⟩
    · have := World.block_lt_of_cell? W _ h1
      simpa [Addr.add] using this
    · obtain ⟨cs, hl, hc, hp⟩ := h i hi
      refine ⟨cs, hl, fun j hj => ?_, hp⟩
      rw [← hc j hj, Addr.add_mid, Addr.add_mid]
/-- A struct's fields. -/
theorem field_of {t : TypeId} {fs : Array Field} (ht : Ybaf.prog.underlying t = some (.struct fs)) {fuel : Nat} {cs : List Value} {x : DataW H × List MemPlace} (h : Reads enc W fuel t cs x) (hw : WOK t x.1) :
    ∃ m, ∀ (i : Nat) (f : Field), fs[i]? = some f → ∃ y, Reads enc W m f.type ((cs.drop f.offset).take (Ybaf.prog.cellsOf f.type)) y ∧ WOK f.type y.1 := by
  obtain ⟨xs, m, _, hx, _, hxl, hf⟩ := DataW.trod_struct ht h
  refine ⟨m, fun i f hfi => ?_⟩
  have hi : i < fs.size := (Array.getElem?_eq_some_iff.1 hfi).1
  have hi2 : i < xs.length := by omega
  have h1 := hf i f hfi
  rw [List.getElem?_eq_getElem hi2] at h1
  refine ⟨_, h1, fun n hn => hw n ?_⟩
  subst hx
  simp only [DataW.weights, ht]
  exact DataW.weights_mem_each (j := i) (by simp [hfi]) (by simp [List.getElem?_eq_getElem hi2]) n hn
theorem cell_of_list {cs : List Value} {o : Nat} (h : o < cs.length) : ∃ v, cs[o]? = some v ∧ (cs.drop o).take 1 = [v] := by
  refine ⟨cs[o], List.getElem?_eq_getElem h, ?_⟩
  rw [List.drop_eq_getElem_cons h]
  rfl

theorem c5 : Ybaf.prog.cellsOf 5 = 1 := by kernel_rfl
theorem c4 : Ybaf.prog.cellsOf 4 = 1 := by kernel_rfl
theorem c22 : Ybaf.prog.cellsOf 22 = 1 := by kernel_rfl
theorem c23 : Ybaf.prog.cellsOf 23 = 1 := by kernel_rfl
theorem c33 : Ybaf.prog.cellsOf 33 = 1 := by kernel_rfl
theorem c59 : Ybaf.prog.cellsOf 59 = 32 := by kernel_rfl
theorem c76 : Ybaf.prog.cellsOf 76 = 1 := by kernel_rfl
theorem c77 : Ybaf.prog.cellsOf 77 = 1 := by kernel_rfl
theorem c79 : Ybaf.prog.cellsOf 79 = 37 := by kernel_rfl
theorem c81 : Ybaf.prog.cellsOf 81 = 34 := by kernel_rfl
theorem c117 : Ybaf.prog.cellsOf 117 = 2 := by kernel_rfl
theorem y5 : 0 < Ybaf.prog.bytesOf 5 := of_decide_eq_true (by kernel_rfl)
theorem y79 : 0 < Ybaf.prog.bytesOf 79 := of_decide_eq_true (by kernel_rfl)
theorem y81 : 0 < Ybaf.prog.bytesOf 81 := of_decide_eq_true (by kernel_rfl)
theorem y117 : 0 < Ybaf.prog.bytesOf 117 := of_decide_eq_true (by kernel_rfl)

theorem u8_of {fuel : Nat} {v : Value} {x : DataW H × List MemPlace} (h : Reads enc W fuel 5 [v] x) : ∃ n : Nat, v = .int .u8 (n : Int) ∧ n < 256 := by
  obtain ⟨z, hz, _, hw⟩ := DataW.trod_int Ybaf.underlying5 h
  obtain ⟨n, rfl, hn⟩ := nat_u8 hw
  exact ⟨n, by simpa using hz, hn⟩
theorem u16_of {fuel : Nat} {v : Value} {x : DataW H × List MemPlace} (h : Reads enc W fuel 23 [v] x) : ∃ n : Nat, v = .int .u16 (n : Int) := by
  obtain ⟨z, hz, _, hw⟩ := DataW.trod_int Ybaf.underlying23 h
  obtain ⟨n, rfl, hn⟩ := nat_u16 hw
  exact ⟨n, by simpa using hz⟩
theorem u32_of {fuel : Nat} {v : Value} {x : DataW H × List MemPlace} (h : Reads enc W fuel 77 [v] x) : ∃ n : Nat, v = .int .u32 (n : Int) ∧ n < 4294967296 := by
  obtain ⟨z, hz, _, hw⟩ := DataW.trod_int Ybaf.underlying77 h
  obtain ⟨n, rfl, hn⟩ := nat_u32 hw
  exact ⟨n, by simpa using hz, hn⟩
theorem u64_of {fuel : Nat} {v : Value} {x : DataW H × List MemPlace} (h : Reads enc W fuel 22 [v] x) : ∃ z : Int, v = .int .u64 z := by
  obtain ⟨z, hz, _, hw⟩ := DataW.trod_int Ybaf.underlying22 h
  exact ⟨z, by simpa using hz⟩
theorem bool_of {fuel : Nat} {v : Value} {x : DataW H × List MemPlace} (h : Reads enc W fuel 4 [v] x) : ∃ b : Bool, v = .bool b := by
  obtain ⟨b, hz, _⟩ := DataW.trod_bool Ybaf.underlying4 h
  exact ⟨b, by simpa using hz⟩
/-- 32 bytes. -/
theorem hash_of {fuel : Nat} {cs : List Value} {x : DataW H × List MemPlace} (h : Reads enc W fuel 59 cs x) : ∃ hh : Nat → Nat, (∀ j, hh j < 256) ∧ cs = vals hh 32 := by
  obtain ⟨xs, m, _, _, hl, hxl, hf⟩ := DataW.trod_array Ybaf.underlying59 h
  rw [c59] at hl
  have key : ∀ i, i < 32 → ∃ n : Nat, cs[i]? = some (.int .u8 (n : Int)) ∧ n < 256 := by
    intro i hi
    have h1 := hf i hi
    rw [c5, Nat.mul_one, List.getElem?_eq_getElem (by omega)] at h1
    obtain ⟨v, hv, hv1⟩ := cell_of_list (cs := cs) (o := i) (by omega)
    rw [hv1] at h1
    obtain ⟨n, rfl, hn⟩ := u8_of h1
    exact ⟨n, hv, hn⟩
  refine ⟨fun i => byteAt cs[i]?, fun j => byteAt_lt _, ?_⟩
  · apply List.ext_getElem?
    intro i
    by_cases hi : i < 32
    · obtain ⟨n, hn, hl2⟩ := key i hi
      rw [vals_at _ 32 i hi, hn, byteAt_u8 hl2]
    · rw [List.getElem?_eq_none (by omega), List.getElem?_eq_none (by rw [length_vals]; omega)]
/-- A slice of bytes that came in. -/
theorem bytes_of {fuel : Nat} {v : Value} {x : DataW H × List MemPlace} (h : Reads enc W fuel 33 [v] x) (hw : WOK 33 x.1) :
    ∃ a len cap f, v = .slice a len cap ∧ Bytes W a len f ∧ (∀ i, f i < 256) ∧ (a = none → len = 0 ∧ cap = 0) ∧ len ≤ 140737488355328 ∧ ∀ p, a = some p → len ≠ 0 → p.block < W.heap.size := by
  rcases elem_of Ybaf.underlying33 c5 y5 h hw with hv | ⟨a, len, cap, n, hv, hl, he⟩
  · exact ⟨none, 0, 0, fun _ => 0, hv, .inl rfl, fun _ => (by decide : (0 : Nat) < 256), fun _ => ⟨rfl, rfl⟩, Nat.zero_le _, fun p hp => by cases hp⟩
  · rcases place_of (W := W) (Ps := fun i cs => ∃ n : Nat, cs[0]? = some (.int .u8 (n : Int)) ∧ n < 256) (a := a) (len := len) (K := 1) (by omega) (fun i hi => by
      obtain ⟨cs, y, h1, h2, h3, h4⟩ := he i hi
      match cs, h1 with
      | [u], _ =>
        obtain ⟨m, rfl, hm⟩ := u8_of h3
        exact ⟨_, rfl, h2, m, rfl, hm⟩) with h0 | ⟨b, o, rfl, hb, hp⟩
    · exact ⟨some a, len, cap, fun _ => 0, hv, .inl h0, fun _ => (by decide : (0 : Nat) < 256), (fun h => by cases h), hl, fun p _ h => absurd h0 h⟩
    · refine ⟨some ⟨b, o, none⟩, len, cap, fun i => byteAt (W.cell? ⟨b, o + i, none⟩), hv, .inr ⟨b, o, rfl, fun i hi => ?_⟩, fun i => ?_, (fun h => by cases h), hl, fun p hp _ => by cases hp; exact hb⟩
      · obtain ⟨cs, h1, h2, m, h3, h4⟩ := hp i hi
        have h5 := h2 0 (by omega)
        rw [Nat.mul_one, Nat.add_zero, h3] at h5
        show W.cell? ⟨b, o + i, none⟩ = some (.int .u8 ((byteAt (W.cell? ⟨b, o + i, none⟩) : Nat) : Int))
        rw [h5, byteAt_u8 h4]
      · exact byteAt_lt _
/-- A slice of signatures. -/
theorem sigs_of {fuel : Nat} {v : Value} {x : DataW H × List MemPlace} (h : Reads enc W fuel 76 [v] x) (hw : WOK 76 x.1) :
    ∃ a len cap, v = .slice a len cap ∧ SigV W.heap.size W v len ∧ len ≤ 140737488355328 := by
  rcases elem_of Ybaf.underlying76 c117 y117 h hw with hv | ⟨a, len, cap, n, hv, hl, he⟩
  · exact ⟨none, 0, 0, hv, ⟨none, 0, hv, .inl rfl⟩, Nat.zero_le _⟩
  · refine ⟨some a, len, cap, hv, ⟨some a, cap, hv, ?_⟩, hl⟩
    rcases place_of (W := W) (Ps := fun i cs => ∃ x y : Nat, cs[0]? = some (.int .u16 (x : Int)) ∧ cs[1]? = some (.int .u8 (y : Int))) (a := a) (len := len) (K := 2) (by omega) (fun i hi => by
      obtain ⟨cs, y, h1, h2, h3, h4⟩ := he i hi
      refine ⟨cs, h1, h2, ?_⟩
      obtain ⟨m, hf⟩ := field_of Ybaf.underlying117 h3 h4
      obtain ⟨y0, g0, _⟩ := hf 0 _ rfl
      obtain ⟨y1, g1, _⟩ := hf 1 _ rfl
      change Reads enc W m 23 (List.take (Ybaf.prog.cellsOf 23) (List.drop 0 cs)) y0 at g0
      change Reads enc W m 5 (List.take (Ybaf.prog.cellsOf 5) (List.drop 1 cs)) y1 at g1
      rw [c23] at g0
      rw [c5] at g1
      obtain ⟨v0, k0, e0⟩ := cell_of_list (cs := cs) (o := 0) (by omega)
      obtain ⟨v1, k1, e1⟩ := cell_of_list (cs := cs) (o := 1) (by omega)
      rw [e0] at g0
      rw [e1] at g1
      obtain ⟨n0, rfl⟩ := u16_of g0
      obtain ⟨n1, rfl, _⟩ := u8_of g1
      exact ⟨n0, n1, k0, k1⟩) with h0 | ⟨b, o, rfl, hb, hp⟩
    · exact .inl h0
    · refine .inr ⟨b, o, rfl, hb, fun i hi => ?_⟩
      obtain ⟨cs, h1, h2, x, y, h3, h4⟩ := hp i hi
      exact ⟨x, y, by rw [← h3]; exact h2 0 (by omega), by rw [← h4]; exact h2 1 (by omega)⟩
/-- A slice of finalizations. -/
theorem fins_of {fuel : Nat} {v : Value} {x : DataW H × List MemPlace} (h : Reads enc W fuel 75 [v] x) (hw : WOK 75 x.1) :
    ∃ a len cap sl, v = .slice a len cap ∧ Fins W.heap.size W a len sl ∧ len ≤ 140737488355328 ∧ ∀ i, i < len → sl i ≤ 140737488355328 := by
  rcases elem_of Ybaf.underlying75 c81 y81 h hw with hv | ⟨a, len, cap, n, hv, hl, he⟩
  · exact ⟨none, 0, 0, fun _ => 0, hv, .inl rfl, Nat.zero_le _, fun i hi => by omega⟩
  · rcases place_of (W := W) (Ps := fun i cs => (∃ x : Int, cs[0]? = some (.int .u64 x)) ∧ (∃ hh : Nat → Nat, (∀ j, hh j < 256) ∧ ∀ j, j < 32 → cs[1 + j]? = some (.int .u8 (hh j : Int))) ∧ ∃ sa m sc, cs[33]? = some (.slice sa m sc) ∧ SigV W.heap.size W (.slice sa m sc) m ∧ m ≤ 140737488355328) (a := a) (len := len) (K := 34) (by omega) (fun i hi => by
      obtain ⟨cs, y, h1, h2, h3, h4⟩ := he i hi
      refine ⟨cs, h1, h2, ?_⟩
      obtain ⟨m, hf⟩ := field_of Ybaf.underlying81 h3 h4
      obtain ⟨f0, g0, _⟩ := hf 0 _ rfl
      obtain ⟨f1, g1, _⟩ := hf 1 _ rfl
      obtain ⟨f2, g2, w2⟩ := hf 2 _ rfl
      change Reads enc W m 22 (List.take (Ybaf.prog.cellsOf 22) (List.drop 0 cs)) f0 at g0
      change Reads enc W m 59 (List.take (Ybaf.prog.cellsOf 59) (List.drop 1 cs)) f1 at g1
      change Reads enc W m 76 (List.take (Ybaf.prog.cellsOf 76) (List.drop 33 cs)) f2 at g2
      change WOK 76 f2.1 at w2
      rw [c22] at g0
      rw [c59] at g1
      rw [c76] at g2
      obtain ⟨v0, k0, e0⟩ := cell_of_list (cs := cs) (o := 0) (by omega)
      obtain ⟨v2, k2, e2⟩ := cell_of_list (cs := cs) (o := 33) (by omega)
      rw [e0] at g0
      rw [e2] at g2
      obtain ⟨z, rfl⟩ := u64_of g0
      obtain ⟨hh, k3, k4⟩ := hash_of g1
      obtain ⟨sa, m2, sc, rfl, k5, k6⟩ := sigs_of g2 w2
      refine ⟨⟨z, k0⟩, ⟨hh, k3, fun j hj => ?_⟩, sa, m2, sc, k2, k5, k6⟩
      have := vals_at hh 32 j hj
      rw [← k4] at this
      rw [← this]
      simp [hj, Nat.add_comm]) with h0 | ⟨b, o, rfl, hb, hp⟩
    · exact ⟨some a, len, cap, fun _ => 0, hv, .inl h0, hl, fun i hi => by omega⟩
    · refine ⟨some ⟨b, o, none⟩, len, cap, fun i => lenAt (W.cell? ⟨b, o + i * 34 + 33, none⟩), hv, .inr ⟨b, o, rfl, hb, fun i hi => ?_⟩, hl, fun i hi => ?_⟩
      · obtain ⟨cs, h1, h2, ⟨z, k0⟩, ⟨hh, k3, k4⟩, sa, m, sc, k2, k5, k6⟩ := hp i hi
        have h33 := (h2 33 (by omega)).trans k2
        show FinC W.heap.size W b (o + i * 34) (lenAt (W.cell? ⟨b, o + i * 34 + 33, none⟩))
        rw [h33]
        exact ⟨⟨z, (h2 0 (by omega)).trans k0⟩, ⟨hh, k3, fun j hj => by rw [← k4 j hj, ← h2 (1 + j) (by omega), Nat.add_assoc]⟩, _, h33, k5⟩
      · obtain ⟨cs, h1, h2, ⟨z, k0⟩, ⟨hh, k3, k4⟩, sa, m, sc, k2, k5, k6⟩ := hp i hi
        have h33 := (h2 33 (by omega)).trans k2
        show lenAt (W.cell? ⟨b, o + i * 34 + 33, none⟩) ≤ 140737488355328
        rw [h33]
        exact k6
/-- A slice of blocks. -/
theorem blks_of {fuel : Nat} {v : Value} {x : DataW H × List MemPlace} (h : Reads enc W fuel 74 [v] x) (hw : WOK 74 x.1) :
    ∃ a len cap pl, v = .slice a len cap ∧ BlkIn W.heap.size W a len pl ∧ len ≤ 140737488355328 ∧ ∀ i, i < len → pl i ≤ 140737488355328 := by
  rcases elem_of Ybaf.underlying74 c79 y79 h hw with hv | ⟨a, len, cap, n, hv, hl, he⟩
  · exact ⟨none, 0, 0, fun _ => 0, hv, .inl rfl, Nat.zero_le _, fun i hi => by omega⟩
  · rcases place_of (W := W) (Ps := fun i cs => (∃ hh : Nat → Nat, (∀ j, hh j < 256) ∧ ∀ j, j < 32 → cs[j]? = some (.int .u8 (hh j : Int))) ∧ (∃ x : Int, cs[32]? = some (.int .u64 x)) ∧ (∃ x : Int, cs[33]? = some (.int .u64 x)) ∧
        (∃ pa p pc fp, cs[34]? = some (.slice pa p pc) ∧ (Bytes W pa p fp ∧ (∀ j, fp j < 256) ∧ (pa = none → p = 0 ∧ pc = 0) ∧ ∀ q, pa = some q → p ≠ 0 → q.block < W.heap.size) ∧ p ≤ 140737488355328) ∧ (∃ ov : Bool, cs[35]? = some (.bool ov)) ∧ ∃ x : Int, cs[36]? = some (.int .u32 x)) (a := a) (len := len) (K := 37) (by omega) (fun i hi => by
      obtain ⟨cs, y, h1, h2, h3, h4⟩ := he i hi
      refine ⟨cs, h1, h2, ?_⟩
      obtain ⟨m, hf⟩ := field_of Ybaf.underlying79 h3 h4
      obtain ⟨f0, g0, _⟩ := hf 0 _ rfl
      obtain ⟨f1, g1, _⟩ := hf 1 _ rfl
      obtain ⟨f2, g2, _⟩ := hf 2 _ rfl
      obtain ⟨f3, g3, w3⟩ := hf 3 _ rfl
      obtain ⟨f4, g4, _⟩ := hf 4 _ rfl
      obtain ⟨f5, g5, _⟩ := hf 5 _ rfl
      change Reads enc W m 59 (List.take (Ybaf.prog.cellsOf 59) (List.drop 0 cs)) f0 at g0
      change Reads enc W m 22 (List.take (Ybaf.prog.cellsOf 22) (List.drop 32 cs)) f1 at g1
      change Reads enc W m 22 (List.take (Ybaf.prog.cellsOf 22) (List.drop 33 cs)) f2 at g2
      change Reads enc W m 33 (List.take (Ybaf.prog.cellsOf 33) (List.drop 34 cs)) f3 at g3
      change Reads enc W m 4 (List.take (Ybaf.prog.cellsOf 4) (List.drop 35 cs)) f4 at g4
      change Reads enc W m 77 (List.take (Ybaf.prog.cellsOf 77) (List.drop 36 cs)) f5 at g5
      change WOK 33 f3.1 at w3
      rw [c59] at g0
      rw [c22] at g1 g2
      rw [c33] at g3
      rw [c4] at g4
      rw [c77] at g5
      obtain ⟨v1, k1, e1⟩ := cell_of_list (cs := cs) (o := 32) (by omega)
      obtain ⟨v2, k2, e2⟩ := cell_of_list (cs := cs) (o := 33) (by omega)
      obtain ⟨v3, k3, e3⟩ := cell_of_list (cs := cs) (o := 34) (by omega)
      obtain ⟨v4, k4, e4⟩ := cell_of_list (cs := cs) (o := 35) (by omega)
      obtain ⟨v5, k5, e5⟩ := cell_of_list (cs := cs) (o := 36) (by omega)
      rw [e1] at g1
      rw [e2] at g2
      rw [e3] at g3
      rw [e4] at g4
      rw [e5] at g5
      obtain ⟨hh, q3, q4⟩ := hash_of g0
      obtain ⟨z1, rfl⟩ := u64_of g1
      obtain ⟨z2, rfl⟩ := u64_of g2
      obtain ⟨pa, p, pc, fp, rfl, b1, b2, b3, b4, b5⟩ := bytes_of g3 w3
      obtain ⟨ov, rfl⟩ := bool_of g4
      obtain ⟨z5, rfl, _⟩ := u32_of g5
      refine ⟨⟨hh, q3, fun j hj => ?_⟩, ⟨z1, k1⟩, ⟨z2, k2⟩, ⟨pa, p, pc, fp, k3, ⟨b1, b2, b3, b5⟩, b4⟩, ⟨ov, k4⟩, _, k5⟩
      have := vals_at hh 32 j hj
      rw [← q4] at this
      rw [← this]
      simp [hj]) with h0 | ⟨b, o, rfl, hb, hp⟩
    · exact ⟨some a, len, cap, fun _ => 0, hv, .inl h0, hl, fun i hi => by omega⟩
    · refine ⟨some ⟨b, o, none⟩, len, cap, fun i => lenAt (W.cell? ⟨b, o + i * 37 + 34, none⟩), hv, .inr ⟨b, o, rfl, hb, fun i hi => ?_⟩, hl, fun i hi => ?_⟩
      · obtain ⟨cs, h1, h2, ⟨hh, q3, q4⟩, ⟨z1, k1⟩, ⟨z2, k2⟩, ⟨pa, p, pc, fp, k3, hk, b4⟩, ⟨ov, k4⟩, z5, k5⟩ := hp i hi
        have h34 := (h2 34 (by omega)).trans k3
        show BlkC W.heap.size W b (o + i * 37) (lenAt (W.cell? ⟨b, o + i * 37 + 34, none⟩))
        rw [h34]
        exact ⟨⟨hh, q3, fun j hj => (h2 j (by omega)).trans (q4 j hj)⟩, ⟨z1, (h2 32 (by omega)).trans k1⟩, ⟨z2, (h2 33 (by omega)).trans k2⟩, ⟨pa, pc, fp, h34, hk⟩, ⟨ov, (h2 35 (by omega)).trans k4⟩, z5, (h2 36 (by omega)).trans k5⟩
      · obtain ⟨cs, h1, h2, _, _, _, ⟨pa, p, pc, fp, k3, hk, b4⟩, _⟩ := hp i hi
        have h34 := (h2 34 (by omega)).trans k3
        show lenAt (W.cell? ⟨b, o + i * 37 + 34, none⟩) ≤ 140737488355328
        rw [h34]
        exact b4
end
end Go.Proofs.YbulkdlruFmt
