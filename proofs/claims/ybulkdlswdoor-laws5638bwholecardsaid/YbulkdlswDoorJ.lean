/-
  Slices of the call's own that may be nil; bytes.Equal; bytes.Clone.
-/
import Derived.Test.YbulkdlswDoorG
import Derived.Lib.AppendStr
import Derived.Laws.AppendOwnNone
import Derived.Lib.SliceRun
namespace Go.Proofs.YbulkdlswDoor
open Go.RowKit Go.Shelf

/-- A slice of bytes of the call's own, nil or not. -/
def OwnS (w : World) (B : Nat) (ga : Option Addr) (cap n : Nat) (f : Nat → Nat) : Prop := w.ownsRow B 5 1 (.slice ga n cap) n (vals f n)
theorem OwnS.parts {w : World} {B cap n : Nat} {ga : Option Addr} {f : Nat → Nat} (h : OwnS w B ga cap n f) : (ga = none ∧ n = 0 ∧ cap = 0) ∨ ∃ g, ga = some ⟨g, 0, none⟩ ∧ OwnB w B g cap n f := by
  rcases h.2 with ⟨h0, h1⟩ | ⟨g', cap', cur, hv, hr⟩
  · cases h0
    exact .inl ⟨rfl, rfl, rfl⟩
  · cases hv
    exact .inr ⟨g', rfl, h⟩
theorem OwnS.bytes {w : World} {B cap n : Nat} {ga : Option Addr} {f : Nat → Nat} (h : OwnS w B ga cap n f) : Bytes w ga n f := by
  rcases h.parts with ⟨rfl, rfl, rfl⟩ | ⟨g, rfl, h⟩
  · exact .inl rfl
  · exact (OwnB.row h).1.bytes
theorem OwnS.lt {w : World} {B cap n : Nat} {ga : Option Addr} {f : Nat → Nat} (h : OwnS w B ga cap n f) : ∀ p, ga = some p → p.block < w.heap.size := by
  intro p hp
  rcases h.parts with ⟨rfl, _, _⟩ | ⟨g, rfl, h⟩
  · cases hp
  · cases hp
    exact (OwnB.lt h).2
theorem OwnS.ge {w : World} {B cap n : Nat} {ga : Option Addr} {f : Nat → Nat} (h : OwnS w B ga cap n f) : ∀ p, ga = some p → B ≤ p.block := by
  intro p hp
  rcases h.parts with ⟨rfl, _, _⟩ | ⟨g, rfl, h⟩
  · cases hp
  · cases hp
    exact (OwnB.lt h).1
theorem OwnS.nil (w : World) (B : Nat) (f : Nat → Nat) : OwnS w B none 0 0 f := World.ownsRow_nil w B 5 1
theorem OwnS.congr {w : World} {B cap n : Nat} {ga : Option Addr} {f f' : Nat → Nat} (h : OwnS w B ga cap n f) (he : ∀ i, i < n → f' i = f i) : OwnS w B ga cap n f' := by
  unfold OwnS
  rw [vals_congr he]
  exact h
theorem OwnS.cap_le {w : World} {B cap n : Nat} {ga : Option Addr} {f : Nat → Nat} (h : OwnS w B ga cap n f) : n ≤ cap := by
  rcases h.parts with ⟨rfl, rfl, rfl⟩ | ⟨g, rfl, h⟩
  · exact Nat.le_refl _
  · exact (OwnB.row h).2.2.1
/-- Where nothing of its block has turned it is as it was. -/
theorem OwnS.same {ex : List Nat} {w w' : World} {B cap n : Nat} {ga : Option Addr} {f : Nat → Nat} (h : OwnS w B ga cap n f) (hs : Same ex w w') (hx : ∀ p, ga = some p → p.block ∉ ex) : OwnS w' B ga cap n f := by
  refine ⟨h.1, ?_⟩
  rcases h.2 with h0 | ⟨g', cap', cur, hv, hb, hg, hnc, hcm, hsz, htk⟩
  · exact .inl h0
  · refine .inr ⟨g', cap', cur, hv, hb, ?_, hnc, hcm, hsz, htk⟩
    rw [hs.block g' (by by_cases hl : g' < w.heap.size; exact hl; rw [Array.getElem?_eq_none (by omega)] at hg; cases hg) (by cases hv; exact hx _ rfl)]
    exact hg

/-- 'append(b, x...)', b of the call's own or nil, x bytes or nil. -/
theorem wpList_appS (w : World) {ops : Array Oper} {rest : List Oper} {o : Oper} {a : Act} {Q : Exit → Act → World → Prop} (hgd : o.guard = none) (s x : Operand)
    (ho : o.op = .call { callee := .builtin .append, args := #[s, x], argTypes := #[22, 22] })
    (B : Nat) (ga : Option Addr) (cap n : Nat) (f : Nat → Nat) (hs : a.eval s = .slice ga n cap) (hown : OwnS w B ga cap n f)
    (xa : Option Addr) (m c : Nat) (fT : Nat → Nat) (hx : a.eval x = .slice xa m c) (hxb : Bytes w xa m fT) (hxn : xa = none → m = 0 ∧ c = 0)
    (h63 : n + m ≤ 4000000) (hbase : B ≤ w.heap.size)
    (h : ∀ g' cap' w', OwnS w' B g' cap' (n + m) (fun i => if i < n then f i else fT (i - n)) → Same (ga.toList.map (·.block)) w w' → wpList Ybad.prog ops Q rest (a.put o.dst (.slice g' (n + m) cap')) w') : wpList Ybad.prog ops Q (o :: rest) a w := by
  obtain ⟨i0, hi, hz0, hz1, hz2⟩ := info_parts Ybad.info5
  cases xa with
  | none =>
    obtain ⟨rfl, rfl⟩ := hxn rfl
    refine wpList_append_own_none hgd s x 22 ho B 5 i0 1 Ybad.underlying22 hi _ n (vals f n) hs hown hx ?_
    exact h ga cap w (hown.congr (fun i hi => by rw [if_pos (by omega)])) (Same.refl _ _)
  | some p =>
    refine wpList_append_own w hgd s x 22 ho B 5 i0 (.int .u8 0) 1 1 Ybad.underlying22 hi hz0 hz1 hz2 rfl (by decide) _ n (vals f n) hs hown p m c (vals fT m) hx (by rw [length_vals]; omega) (fun j u hj => ?_) (vals_one fT m) (by unfold maxLen; omega) (by omega) hbase ?_
    · have hjm : j < m := by
        have := (List.getElem?_eq_some_iff.1 hj).1
        rwa [length_vals] at this
      rw [vals_at fT m j hjm] at hj
      rcases hxb with h0 | ⟨xb, xo, he, hcells⟩
      · omega
      · cases he
        rw [show (⟨xb, xo, none⟩ : Addr).add j = ⟨xb, xo + j, none⟩ by unfold Addr.add; split <;> simp_all]
        exact (hcells j hjm).trans hj
    · intro v' w' hown' hgrow hnil
      rw [vals_append] at hown'
      have hbl : Same (ga.toList.map (·.block)) w w' := by
        obtain ⟨h1, h2, h3, h4, h5⟩ := hgrow
        refine ⟨h1, h2, h3, h4, fun k hk hn => h5 k hk ?_⟩
        rcases hown.parts with ⟨rfl, rfl, rfl⟩ | ⟨g, rfl, _⟩
        · simp [Value.ownBlock]
        · simp [Value.ownBlock] at hn ⊢
          omega
      rcases hown'.2 with ⟨h0, h1⟩ | ⟨g', cap', cur, hv, _⟩
      · subst h0
        have e : Value.slice none (n + m) 0 = .slice none 0 0 := by rw [h1]
        have := h none 0 w' (by unfold OwnS; rw [e]; exact hown') hbl
        rw [e] at this
        exact this
      · subst hv
        exact h _ cap' w' hown' hbl

/-- 'append(b, s...)', s a string. -/
theorem wpList_appStr (w : World) {ops : Array Oper} {rest : List Oper} {o : Oper} {a : Act} {Q : Exit → Act → World → Prop} (hgd : o.guard = none) (s x : Operand)
    (ho : o.op = .call { callee := .builtin .append, args := #[s, x], argTypes := #[22, 9] })
    (B : Nat) (ga : Option Addr) (cap n : Nat) (f : Nat → Nat) (hs : a.eval s = .slice ga n cap) (hown : OwnS w B ga cap n f)
    (t : ByteArray) (m : Nat) (fT : Nat → Nat) (hx : a.eval x = .string t) (ht : Go.Lib.strCells t = vals fT m) (hm : t.size = m)
    (h63 : n + m ≤ 4000000) (hbase : B ≤ w.heap.size)
    (h : ∀ g' cap' w', OwnS w' B g' cap' (n + m) (fun i => if i < n then f i else fT (i - n)) → Same (ga.toList.map (·.block)) w w' → wpList Ybad.prog ops Q rest (a.put o.dst (.slice g' (n + m) cap')) w') : wpList Ybad.prog ops Q (o :: rest) a w := by
  obtain ⟨i0, hi, hz0, hz1, hz2⟩ := info_parts Ybad.info5
  subst hm
  refine Go.Lib.wpList_append_own_string w hgd s x 22 9 ho B 5 i0 Ybad.underlying22 under9 hi hz0 hz1 hz2 _ n (vals f n) hs hown t hx (by unfold maxLen; omega) (by omega) hbase ?_
  intro v' w' hown' hgrow hnil
  rw [ht, vals_append] at hown'
  have hbl : Same (ga.toList.map (·.block)) w w' := by
    obtain ⟨h1, h2, h3, h4, h5⟩ := hgrow
    refine ⟨h1, h2, h3, h4, fun k hk hn => h5 k hk ?_⟩
    rcases hown.parts with ⟨rfl, rfl, rfl⟩ | ⟨g, rfl, _⟩
    · simp [Value.ownBlock]
    · simp [Value.ownBlock] at hn ⊢
      omega
  rcases hown'.2 with ⟨h0, h1⟩ | ⟨g', cap', cur, hv, _⟩
  · subst h0
    have e : Value.slice none (n + t.size) 0 = .slice none 0 0 := by rw [h1]
    have := h none 0 w' (by unfold OwnS; rw [e]; exact hown') hbl
    rw [e] at this
    exact this
  · subst hv
    exact h _ cap' w' hown' hbl

set_option maxHeartbeats 400000 in
theorem equal_any (a b : Option Addr) (m k ca cb : Nat) (f g : Nat → Nat) (W : World) (ha : Bytes W a m f) (hb : Bytes W b k g) (hmk : m = k) (he : ∀ i, i < m → f i = g i) :
    Calls Ybad.prog 9 #[.slice a m ca, .slice b k cb] W fun e w' => e = .returned (.bool true) ∧ w' = W := by
  have h1 := conv_bytes (cap := ca) ha
  have h2 := conv_bytes (cap := cb) hb
  have h3 : str f m = str g k := by
    subst hmk
    unfold str
    congr 1
    exact List.map_congr_left (fun i hi => by rw [he i (List.mem_range.1 hi)])
  rw [h3] at h1
  clear h3 he hmk
  go_enter Ybad.func9, Ybad.ntmps9
  go_wp2
  go_ret
  exact ⟨rfl, rfl⟩

/-- What bytes.Clone comes to. -/
def CloneSaid (m : Nat) (f : Nat → Nat) (W : World) (e : Ending) (w' : World) : Prop := ∃ oa oc, e = .returned (.slice oa m oc) ∧ Bytes w' oa m f ∧ (∀ p, oa = some p → p.block < w'.heap.size) ∧ Same [] W w'
set_option maxHeartbeats 400000 in
theorem clone_any (a : Option Addr) (m c : Nat) (f : Nat → Nat) (W : World) (ha : Bytes W a m f) (hn : a = none → m = 0 ∧ c = 0) (hm : m ≤ 3000000) :
    Calls Ybad.prog 4 #[.slice a m c] W (CloneSaid m f W) := by
  have heq := fun X : World => Go.Lib.run_eql_slice_nil (P := Ybad.prog) X 22 5 a m c 0 0 Ybad.underlying22
  cases a with
  | none =>
    obtain ⟨rfl, rfl⟩ := hn rfl
    clear hm
    go_enter Ybad.func4, Ybad.ntmps4
    go_wp2
    go_ret
    refine ⟨none, 0, ?_, ?_, ?_, ?_⟩
    · rfl
    · exact ha
    · intro p hp; cases hp
    · exact Same.refl _ _
  | some p =>
    go_enter Ybad.func4, Ybad.ntmps4
    go_wp2_with (at_builtin; refine wpList_appS _ rfl (.tmp 5) (.tmp 6) rfl W.heap.size (some ⟨W.heap.size, 0, none⟩) 0 0 (fun _ => 0) rfl (ownB_lit W #[] 0 (fun _ => 0) W.heap.size (Nat.le_refl _) rfl (by omega)) (some p) m c f rfl (ha.below ((Below.refl _ _).alloc (Nat.le_refl _) _) (Nat.le_refl _)) (fun h => by cases h) (by omega) (by simp) ?_; intro g' cap' w' hown hsm)
    go_ret
    rw [Nat.zero_add] at hown
    (try rw [Nat.zero_add])
    exact ⟨g', cap', rfl, (hown.congr (fun i _ => by rw [if_neg (by omega)]; rfl)).bytes, hown.lt, ((Same.alloc [] W _).shed hsm (by simp))⟩
end Go.Proofs.YbulkdlswDoor
