/-
  WHAT 'laid' GIVES THE WALK: the six errors, the table of fields.
-/
import Derived.Test.YbulkdlqeFmtRows
import Derived.Test.YbulkdlqeFmtE
import Derived.ProofKit
import Derived.LaidMore
import Derived.OpenShut
import Derived.ChangeOld
import Derived.OpenVars
import Derived.Stop.LaidErr
namespace Go.Proofs.YbulkdlqeFmt
open Go.ChangeShapes Go.WideShapes Go.ChangeAt Go.RowKit

abbrev laid7 : List (String × DataW Unit) := Rows.lawS5633APartRow.laid
abbrev vname (i : Nat) : String := Rows.lawS5633APartSpec.vars.getD i ""
theorem gn0 : Ybaf.prog.globalNamed (vname 0) = some 0 := by kernel_rfl
theorem gn1 : Ybaf.prog.globalNamed (vname 1) = some 1 := by kernel_rfl
theorem gn2 : Ybaf.prog.globalNamed (vname 2) = some 2 := by kernel_rfl
theorem gn3 : Ybaf.prog.globalNamed (vname 3) = some 3 := by kernel_rfl
theorem gn4 : Ybaf.prog.globalNamed (vname 4) = some 4 := by kernel_rfl
theorem gn5 : Ybaf.prog.globalNamed (vname 5) = some 5 := by kernel_rfl
theorem gn6 : Ybaf.prog.globalNamed (vname 6) = some 6 := by kernel_rfl
theorem gt6 : (Ybaf.prog.globals[6]?).map (·.type) = some 76 := by kernel_rfl
/-- The name that the errors' type bears in a datum. -/
def errName : String :=
  match (laid7.map (·.2)).headD .nil with
  | .iface s _ => s
  | _ => ""
theorem row65 (u : TypeId) (h : Ybaf.prog.typeName? 3 u = some errName) : u = 65 :=
  typeName_ptr_named (nm := "errors.errorString") (by kernel_rfl) (by kernel_rfl) (by decide) u (h.trans (by decide))

/-- One field's datum. -/
def fdat (k : Nat) : DataW Unit := .agg [.lit (.string (fnameL.getD k [])), .lit (.int .u64 (fbit k : Int)), .lit (.int .i64 (fsize k : Int))]
theorem table_eq : (Rows.laid_example_com_hopscribe_hopscribe_pkg_ioam_nodeFields : DataW Unit) = .agg [.lit (.int .u64 24), .slice ((List.range 26).map fdat) []] := by rfl

theorem laidPlain {W : World} (h : laidMetH Ybaf.prog laid7 W) : laidMet Ybaf.prog laid7 W := by
  rw [MakeChecks.laidMetH_plain _ _ _ (by kernel_rfl)] at h
  exact h

theorem err_of {n : String} {text : List UInt8} {r : List (String × DataW Unit)} {W : World} {g : Nat} (h : laidMet Ybaf.prog ((n, .iface errName (.ptr (.agg [.lit (.string text)]))) :: r) W) (hg : Ybaf.prog.globalNamed n = some g) (ht : (Ybaf.prog.globals[g]?).map (·.type) = some 39) :
    ∃ a : Addr, W.cell? ⟨g, 0, none⟩ = some (.iface 65 (.pointer (some a))) := by
  obtain ⟨a, s, hv, _, _, _⟩ := laid_sentinel (g := g) h hg ht Ybaf.underlying39 row65 Ybaf.underlying65 Ybaf.underlying67 rfl rfl Ybaf.underlying9 (by kernel_rfl) (by kernel_rfl)
  exact ⟨a, by simpa using World.var?_cell hg hv 0⟩

/-- The table, off its reading. -/
theorem table_of {W : World} {cs : List Value} {fuel : Nat} {p : List MemPlace} {t : TypeId} {held : Bool} (ht : Ybaf.prog.underlying t = some (.slice 85)) (h : DataW.trod (fun _ => ()) Ybaf.prog W 0 (fun _ => true) held fuel t cs = some (.slice ((List.range 26).map fdat) [], p)) :
    ∃ F fo c, cs = [.slice (some ⟨F, fo, none⟩) 26 c] ∧ Tab W F fo := by
  have c85 : Ybaf.prog.cellsOf 85 = 3 := by kernel_rfl
  have c9 : Ybaf.prog.cellsOf 9 = 1 := by kernel_rfl
  have c42 : Ybaf.prog.cellsOf 42 = 1 := by kernel_rfl
  have c3 : Ybaf.prog.cellsOf 3 = 1 := by kernel_rfl
  rcases DataW.trod_slice ht h with ⟨_, hx⟩ | ⟨a, len, cap, elems, rest, n, _, hcs, hx, _, _, _, hlen, hel, _, _⟩
  · cases hx
  · simp only [Prod.mk.injEq, DataW.slice.injEq] at hx
    obtain ⟨⟨he, _⟩, _⟩ := hx
    have hl26 : len = 26 := by
      have := congrArg List.length he
      simp at this
      omega
    subst hl26
    have key : ∀ k, k < 26 → W.cell? (a.add (k * 3)) = some (.string (fname k)) ∧ W.cell? ((a.add (k * 3)).add 1) = some (.int .u64 (fbit k : Int)) ∧ W.cell? ((a.add (k * 3)).add 2) = some (.int .i64 (fsize k : Int)) := by
      intro k hk
      have h1 := hel k hk
      rw [c85] at h1
      have h2 : (elems.map (·.1))[k]? = some (fdat k) := by rw [← he]; simp [hk]
      rw [List.getElem?_map] at h2
      obtain ⟨z, hz, hz1⟩ := Option.map_eq_some_iff.1 h2
      rw [hz] at h1
      obtain ⟨ds, hds, htr⟩ := Option.bind_eq_some_iff.1 h1
      obtain ⟨_, hl3, hcell⟩ := World.cells?_some hds
      obtain ⟨xs, m, _, hzx, _, _, hf⟩ := DataW.trod_struct Ybaf.underlying85 htr
      have f0 := hf 0 _ rfl
      have f1 := hf 1 _ rfl
      have f2 := hf 2 _ rfl
      rw [hzx] at hz1
      simp only [fdat, DataW.agg.injEq] at hz1
      obtain ⟨x0, x1, x2, rfl⟩ : ∃ x0 x1 x2, xs = [x0, x1, x2] := by
        match xs, hz1 with
        | [x0, x1, x2], _ => exact ⟨x0, x1, x2, rfl⟩
      simp only [List.map_cons, List.map_nil, List.cons.injEq, and_true] at hz1
      obtain ⟨e0, e1, e2⟩ := hz1
      obtain ⟨s, hs, hs', _⟩ := DataW.trod_string Ybaf.underlying9 f0
      obtain ⟨i1, hi1, hi1', _⟩ := DataW.trod_int Ybaf.underlying42 f1
      obtain ⟨i2, hi2, hi2', _⟩ := DataW.trod_int Ybaf.underlying3 f2
      match ds, hl3 with
      | [d0, d1, d2], _ =>
        have hsA : List.take (Ybaf.prog.cellsOf 9) (List.drop 0 [d0, d1, d2]) = [Value.string s] := hs
        have hiB : List.take (Ybaf.prog.cellsOf 42) (List.drop 1 [d0, d1, d2]) = [Value.int .u64 i1] := hi1
        have hiC : List.take (Ybaf.prog.cellsOf 3) (List.drop 2 [d0, d1, d2]) = [Value.int .i64 i2] := hi2
        rw [c9] at hsA
        rw [c42] at hiB
        rw [c3] at hiC
        simp at hsA hiB hiC
        subst hsA
        subst hiB
        subst hiC
        cases hs'
        cases hi1'
        cases hi2'
        simp only [DataW.lit.injEq, Lit.string.injEq, Lit.int.injEq, true_and] at e0 e1 e2
        subst e1
        subst e2
        have g0 := hcell 0 (by omega)
        have g1 := hcell 1 (by omega)
        have g2 := hcell 2 (by omega)
        simp at g0 g1 g2
        refine ⟨?_, g1, g2⟩
        have hsn : s = fname k := by
          unfold fname
          rw [← e0]
        rw [← hsn]
        rw [show (a.add (k * 3)).add 0 = a.add (k * 3) by unfold Addr.add; split <;> simp_all] at g0
        exact g0
    have hspot : a.spot = none := by
      have := (key 0 (by omega)).1
      have := World.cell?_spot this
      simpa [Addr.add] using this
    obtain ⟨F, fo, sp⟩ := a
    simp only at hspot
    subst hspot
    refine ⟨F, fo, cap, hcs, fun k hk => ?_⟩
    obtain ⟨k0, k1, k2⟩ := key k hk
    have ap : ∀ (b o i : Nat), (⟨b, o, none⟩ : Addr).add i = ⟨b, o + i, none⟩ := fun b o i => by unfold Addr.add; split <;> simp_all
    rw [ap] at k0 k1 k2
    rw [ap] at k1 k2
    exact ⟨k0, k1, k2⟩

theorem env_of_laid {W : World} (h0 : laidMetH Ybaf.prog laid7 W) : ∃ F fo c ea, Env W F fo c ea := by
  have h := laidPlain h0
  obtain ⟨a0, q0⟩ := err_of (g := 0) h gn0 (by kernel_rfl)
  obtain ⟨a1, q1⟩ := err_of (g := 1) h.tail gn1 (by kernel_rfl)
  obtain ⟨a2, q2⟩ := err_of (g := 2) h.tail.tail gn2 (by kernel_rfl)
  obtain ⟨a3, q3⟩ := err_of (g := 3) h.tail.tail.tail gn3 (by kernel_rfl)
  obtain ⟨a4, q4⟩ := err_of (g := 4) h.tail.tail.tail.tail gn4 (by kernel_rfl)
  obtain ⟨a5, q5⟩ := err_of (g := 5) h.tail.tail.tail.tail.tail gn5 (by kernel_rfl)
  obtain ⟨ps, ⟨g0, t0, cs0, f0, p0, q, hg0, ht0, hv0, hd0, _⟩, _, _⟩ := h.tail.tail.tail.tail.tail.tail
  obtain rfl := Option.some.inj (gn6.symm.trans hg0)
  obtain rfl := Option.some.inj (gt6.symm.trans ht0)
  rw [table_eq] at hd0
  obtain ⟨y0, y1, n, hx, hlen, r0, r1⟩ := trod_struct2 Ybaf.underlying76 hd0
  have c42 : Ybaf.prog.cellsOf 42 = 1 := by kernel_rfl
  have c76 : Ybaf.prog.cellsOf 76 = 2 := by kernel_rfl
  simp only [Prod.mk.injEq, DataW.agg.injEq, List.cons.injEq, and_true] at hx
  obtain ⟨⟨e0, e1⟩, _⟩ := hx
  obtain ⟨y1d, y1p⟩ := y1
  simp only at e1
  subst e1
  obtain ⟨F, fo, c, hc, hT⟩ := table_of (t := 74) Ybaf.underlying74 r1
  obtain ⟨k, e2, e3, _⟩ := DataW.trod_int Ybaf.underlying42 r0
  subst e3
  simp only [DataW.lit.injEq, Lit.int.injEq, true_and] at e0
  subst e0
  have w0 := World.var?_cell hg0 hv0 0
  have w1 := World.var?_cell hg0 hv0 1
  obtain ⟨l⟩ := cs0
  rw [c76] at hlen
  match l, hlen with
  | [x0, x1], _ =>
    rw [c42] at e2
    have hcA : List.take (Ybaf.prog.cellsOf 74) (List.drop 1 [x0, x1]) = [Value.slice (some ⟨F, fo, none⟩) 26 c] := hc
    rw [show Ybaf.prog.cellsOf 74 = 1 by kernel_rfl] at hcA
    simp at e2 hcA
    subst e2
    subst hcA
    refine ⟨F, fo, c, fun i => if i = 0 then a0 else if i = 1 then a1 else if i = 2 then a2 else if i = 3 then a3 else if i = 4 then a4 else a5, ?_, by simpa using w0, ?_, hT⟩
    · intro i hi
      rcases (show i = 0 ∨ i = 1 ∨ i = 2 ∨ i = 3 ∨ i = 4 ∨ i = 5 by omega) with rfl | rfl | rfl | rfl | rfl | rfl
      · exact q0
      · exact q1
      · exact q2
      · exact q3
      · exact q4
      · exact q5
    · simpa using w1
end Go.Proofs.YbulkdlqeFmt
