/-
  The state of the law's log and of its two groups; the calls of the lock and of awaitAppends in its terms.
-/
import Derived.Test.YbulkdltyW1
namespace Go.Proofs.Ybulkdlty
open Go.Conc Go.RowKit Go.MuLone
set_option linter.unusedVariables false

def gp : Option Nat → Value
  | none => .pointer none
  | some b => .pointer (some ⟨b + 1, 0, none⟩)

/-- The log at block l: its lock's word is s; its fields; the two groups. -/
structure St (f g : Option Nat) (ff gf : Bool) (s : Int) (cl : Bool) (nx tl pl : Int) (l : Nat) (w : World) : Prop where
  c8 : w.cell? ⟨l, 8, none⟩ = some (.int .i32 s)
  z8 : w.frozen? ⟨l, 8, none⟩ = false
  c10 : w.cell? ⟨l, 10, none⟩ = some (.bool cl)
  c11 : w.cell? ⟨l, 11, none⟩ = some .nilIface
  c12 : w.cell? ⟨l, 12, none⟩ = some (.slice none 0 0)
  c13 : w.cell? ⟨l, 13, none⟩ = some (.int .i64 pl)
  c14 : w.cell? ⟨l, 14, none⟩ = some (.pointer none)
  c15 : w.cell? ⟨l, 15, none⟩ = some (.int .u64 nx)
  c16 : w.cell? ⟨l, 16, none⟩ = some (.int .i64 tl)
  c17 : w.cell? ⟨l, 17, none⟩ = some (gp f)
  c18 : w.cell? ⟨l, 18, none⟩ = some (gp g)
  c19 : w.cell? ⟨l, 19, none⟩ = some (.slice none 0 0)
  c20 : w.cell? ⟨l, 20, none⟩ = some (.pointer none)
  c21 : w.cell? ⟨l, 21, none⟩ = some (.pointer none)
  gr1 : ∀ b, f = some b → Gr w b ff ∧ b + 1 < l
  gr2 : ∀ b, g = some b → Gr w b gf ∧ b + 1 < l
  apart : ∀ b c, f = some b → g = some c → b + 1 < c

theorem Gr.setCell {w : World} {b : Nat} {full : Bool} (h : Gr w b full) (a : Addr) (v : Value) (ha : b + 1 < a.block) : Gr (w.setCell a v) b full := by
  have hx : ∀ j, (w.setCell a v).cell? ⟨b + 1, j, none⟩ = w.cell? ⟨b + 1, j, none⟩ := fun j => World.cell?_of_block (Below.heap_setCell _ _ _ _ (by simp; omega))
  exact ⟨(Below.heap_setCell _ _ _ _ (by omega)).trans h.ch, (hx _).trans h.c0, (hx _).trans h.c1, (hx _).trans h.c2, (hx _).trans h.c3⟩

theorem Gr.setChan {w : World} {b : Nat} {full : Bool} (h : Gr w b full) (c : Nat) (cap : Nat) (buf : Array Value) (cl : Bool) (s r : Nat) (tm : Bool) (h1 : b ≠ c) (h2 : b + 1 ≠ c) : Gr (w.setChan c cap buf cl s r tm) b full := by
  have hx : ∀ j, (w.setChan c cap buf cl s r tm).cell? ⟨b + 1, j, none⟩ = w.cell? ⟨b + 1, j, none⟩ := fun j => cell_setChan _ _ _ _ _ _ _ _ _ h2
  exact ⟨(heap_setChan_other _ _ _ _ _ _ _ _ _ h1).trans h.ch, (hx _).trans h.c0, (hx _).trans h.c1, (hx _).trans h.c2, (hx _).trans h.c3⟩

theorem Gr.received {w : World} {b : Nat} (h : Gr w b true) : Gr (w.setChan b 1 #[] false 1 1 false) b false := by
  have hx : ∀ j, (w.setChan b 1 #[] false 1 1 false).cell? ⟨b + 1, j, none⟩ = w.cell? ⟨b + 1, j, none⟩ := fun j => cell_setChan _ _ _ _ _ _ _ _ _ (by simp)
  refine ⟨heap_setChan _ _ _ _ _ _ _ _ ?_, (hx _).trans h.c0, (hx _).trans h.c1, (hx _).trans h.c2, (hx _).trans h.c3⟩
  have := h.ch
  exact (Array.getElem?_eq_some_iff.1 this).1

section
variable {f g : Option Nat} {ff gf : Bool} {s : Int} {cl : Bool} {nx tl pl : Int} {l : Nat} {w : World}

theorem St.setState (h : St f g ff gf s cl nx tl pl l w) (s' : Int) : St f g ff gf s' cl nx tl pl l (w.setCell ⟨l, 8, none⟩ (.int .i32 s')) := by
  have hx : ∀ j, j ≠ 8 → (w.setCell ⟨l, 8, none⟩ (.int .i32 s')).cell? ⟨l, j, none⟩ = w.cell? ⟨l, j, none⟩ := fun j hj => World.cell?_setCell_other _ _ _ _ (by intro h; exact hj (congrArg Addr.off h).symm)
  refine ⟨World.cell?_setCell_same _ _ _ h.c8, by simpa using h.z8, ?_, ?_, ?_, ?_, ?_, ?_, ?_, ?_, ?_, ?_, ?_, ?_, ?_, ?_, h.apart⟩
  · exact (hx _ (by omega)).trans h.c10
  · exact (hx _ (by omega)).trans h.c11
  · exact (hx _ (by omega)).trans h.c12
  · exact (hx _ (by omega)).trans h.c13
  · exact (hx _ (by omega)).trans h.c14
  · exact (hx _ (by omega)).trans h.c15
  · exact (hx _ (by omega)).trans h.c16
  · exact (hx _ (by omega)).trans h.c17
  · exact (hx _ (by omega)).trans h.c18
  · exact (hx _ (by omega)).trans h.c19
  · exact (hx _ (by omega)).trans h.c20
  · exact (hx _ (by omega)).trans h.c21
  · exact fun b hb => ⟨(h.gr1 b hb).1.setCell _ _ (h.gr1 b hb).2, (h.gr1 b hb).2⟩
  · exact fun b hb => ⟨(h.gr2 b hb).1.setCell _ _ (h.gr2 b hb).2, (h.gr2 b hb).2⟩

theorem St.setChan (h : St f g ff gf s cl nx tl pl l w) (c : Nat) (hc : c < l) {ff' gf' : Bool} (h1 : ∀ b, f = some b → Gr (w.setChan c 1 #[] false 1 1 false) b ff') (h2 : ∀ b, g = some b → Gr (w.setChan c 1 #[] false 1 1 false) b gf') :
    St f g ff' gf' s cl nx tl pl l (w.setChan c 1 #[] false 1 1 false) := by
  have hx : ∀ j, (w.setChan c 1 #[] false 1 1 false).cell? ⟨l, j, none⟩ = w.cell? ⟨l, j, none⟩ := fun j => cell_setChan _ _ _ _ _ _ _ _ _ (by simp; omega)
  exact ⟨(hx _).trans h.c8, (frozen_setChan _ _ _ _ _ _ _ _ _ (by simp; omega)).trans h.z8, (hx _).trans h.c10, (hx _).trans h.c11, (hx _).trans h.c12, (hx _).trans h.c13, (hx _).trans h.c14, (hx _).trans h.c15, (hx _).trans h.c16, (hx _).trans h.c17, (hx _).trans h.c18, (hx _).trans h.c19, (hx _).trans h.c20, (hx _).trans h.c21,
    fun b hb => ⟨h1 b hb, (h.gr1 b hb).2⟩, fun b hb => ⟨h2 b hb, (h.gr2 b hb).2⟩, h.apart⟩

theorem lock_st (h : St f g ff gf 0 cl nx tl pl l w) (B : Nat) (hB : B ≤ l) : Calls Yba.prog 5 #[.pointer (some ⟨l, 8, none⟩)] w fun e w' => e = .returned (.tuple #[]) ∧ St f g ff gf 1 cl nx tl pl l w' ∧ Below B w w' :=
  (lock_free Yba.muLib ⟨l, 8, none⟩ w h.c8 h.z8).mono fun e w' ⟨he, hw⟩ => ⟨he, hw ▸ h.setState 1, hw ▸ (Below.refl B w).setCell hB _⟩

theorem unlock_st (h : St f g ff gf 1 cl nx tl pl l w) (B : Nat) (hB : B ≤ l) : Calls Yba.prog 8 #[.pointer (some ⟨l, 8, none⟩)] w fun e w' => e = .returned (.tuple #[]) ∧ St f g ff gf 0 cl nx tl pl l w' ∧ Below B w w' :=
  (unlock_held Yba.muLib ⟨l, 8, none⟩ w h.c8 h.z8).mono fun e w' ⟨he, hw⟩ => ⟨he, hw ▸ h.setState 0, hw ▸ (Below.refl B w).setCell hB _⟩

theorem await_st (h : St f g true true 1 cl nx tl pl l w) (B : Nat) (hB : B ≤ l) (h1 : ∀ b, f = some b → B ≤ b) (h2 : ∀ b, g = some b → B ≤ b) :
    Calls Yba.prog 6 #[.pointer (some ⟨l, 0, none⟩)] w fun e w' => e = .returned (.tuple #[]) ∧ St f g false f.isSome 1 cl nx tl pl l w' ∧ Below B w w' := by
  have c17 := h.c17
  have c18 := h.c18
  cases f with
  | some b =>
    refine (await_fill l b w c17 h.c8 h.z8 (h.gr1 b rfl).1 (by have := (h.gr1 b rfl).2; omega) (by have := (h.gr1 b rfl).2; omega)).mono fun e w' ⟨he, hw⟩ => ⟨he, ?_⟩
    have hl := (h.gr1 b rfl).2
    subst hw
    refine ⟨?_, (below_setChan ((Below.refl B w).setCell hB _) (h1 b rfl) _ _ _ _ _ _).setCell hB _⟩
    refine St.setState (s := 0) ?_ 1
    refine (h.setState 0).setChan b (by omega) ?_ ?_
    · rintro b' hb'
      obtain rfl : b = b' := by simpa using hb'
      exact ((h.gr1 b rfl).1.setCell _ _ (by simpa using hl)).received
    · rintro c hc
      exact ((h.gr2 c hc).1.setCell _ _ (by simpa using (h.gr2 c hc).2)).setChan b _ _ _ _ _ _ (by have := h.apart b c rfl hc; omega) (by have := h.apart b c rfl hc; omega)
  | none =>
    cases g with
    | none =>
      refine (await_none l w c17 c18).mono fun e w' ⟨he, hw⟩ => ⟨he, ?_⟩
      subst hw
      exact ⟨⟨h.c8, h.z8, h.c10, h.c11, h.c12, h.c13, h.c14, h.c15, h.c16, h.c17, h.c18, h.c19, h.c20, h.c21, fun _ hb => by simp at hb, fun _ hb => by simp at hb, fun _ _ hb => by simp at hb⟩, Below.refl _ _⟩
    | some b =>
      refine (await_flush l b w c17 c18 h.c8 h.z8 (h.gr2 b rfl).1 (by have := (h.gr2 b rfl).2; omega) (by have := (h.gr2 b rfl).2; omega)).mono fun e w' ⟨he, hw⟩ => ⟨he, ?_⟩
      have hl := (h.gr2 b rfl).2
      subst hw
      refine ⟨?_, (below_setChan ((Below.refl B w).setCell hB _) (h2 b rfl) _ _ _ _ _ _).setCell hB _⟩
      refine St.setState (s := 0) ?_ 1
      refine (h.setState 0).setChan b (by omega) (fun _ hb => by simp at hb) ?_
      rintro b' hb'
      obtain rfl : b = b' := by simpa using hb'
      exact ((h.gr2 b rfl).1.setCell _ _ (by simpa using hl)).received
end

theorem Gr.alloc {w : World} {b : Nat} {full : Bool} (h : Gr w b full) (o : Obj) (hb : b + 1 < w.heap.size) : Gr (w.alloc o) b full := by
  have hx : ∀ j, (w.alloc o).cell? ⟨b + 1, j, none⟩ = w.cell? ⟨b + 1, j, none⟩ := fun j => World.cell?_of_block (Below.heap_alloc _ _ _ hb)
  exact ⟨(Below.heap_alloc _ _ _ (by omega)).trans h.ch, (hx _).trans h.c0, (hx _).trans h.c1, (hx _).trans h.c2, (hx _).trans h.c3⟩
theorem Gr.below {B : Nat} {w w' : World} {b : Nat} {full : Bool} (h : Gr w b full) (hb : Below B w w') (hB : b + 1 < B) : Gr w' b full := by
  have hx : ∀ j, w'.cell? ⟨b + 1, j, none⟩ = w.cell? ⟨b + 1, j, none⟩ := fun j => hb.cell (by simpa using hB)
  exact ⟨(hb.block _ (by omega)).trans h.ch, (hx _).trans h.c0, (hx _).trans h.c1, (hx _).trans h.c2, (hx _).trans h.c3⟩

theorem St.made (f g : Option Nat) (cl : Bool) (nx tl pl : Int) (w : World) (C : Array Value) (h8 : C[8]? = some (.int .i32 0)) (h10 : C[10]? = some (.bool cl)) (h11 : C[11]? = some .nilIface) (h12 : C[12]? = some (.slice none 0 0)) (h13 : C[13]? = some (.int .i64 pl)) (h14 : C[14]? = some (.pointer none))
    (h15 : C[15]? = some (.int .u64 nx)) (h16 : C[16]? = some (.int .i64 tl)) (h17 : C[17]? = some (gp f)) (h18 : C[18]? = some (gp g)) (h19 : C[19]? = some (.slice none 0 0)) (h20 : C[20]? = some (.pointer none)) (h21 : C[21]? = some (.pointer none))
    (h1 : ∀ b, f = some b → Gr w b true ∧ b + 1 < w.heap.size) (h2 : ∀ b, g = some b → Gr w b true ∧ b + 1 < w.heap.size) (h3 : ∀ b c, f = some b → g = some c → b + 1 < c) :
    St f g true true 0 cl nx tl pl w.heap.size (w.alloc (.cells C 49)) := by
  have hx : ∀ j, (w.alloc (.cells C 49)).cell? ⟨w.heap.size, j, none⟩ = C[j]? := fun j => World.cell?_alloc_at _ _ _ _ rfl
  exact ⟨(hx _).trans h8, World.frozen?_alloc_at _ _ _ _ rfl, (hx _).trans h10, (hx _).trans h11, (hx _).trans h12, (hx _).trans h13, (hx _).trans h14, (hx _).trans h15, (hx _).trans h16, (hx _).trans h17, (hx _).trans h18, (hx _).trans h19, (hx _).trans h20, (hx _).trans h21,
    fun b hb => ⟨(h1 b hb).1.alloc _ (h1 b hb).2, (h1 b hb).2⟩, fun b hb => ⟨(h2 b hb).1.alloc _ (h2 b hb).2, (h2 b hb).2⟩, h3⟩

end Go.Proofs.Ybulkdlty
