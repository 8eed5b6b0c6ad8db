/-
  (Snapshot).put: the length word and the data.
-/
import Derived.Test.YbulkdlqeFmtJ
namespace Go.Proofs.YbulkdlqeFmt
open Go.RowKit Go.Shelf

theorem splice_row (cur : List Value) (f fT : Nat → Nat) (N off m : Nat) (hl : N ≤ cur.length) (hc : ∀ i, i < N → cur[i]? = some (.int .u8 (f i : Int))) (hfit : off + m ≤ N) (i : Nat) (hi : i < N) :
    (splice cur off (vals fT m))[i]? = some (.int .u8 ((if off ≤ i ∧ i < off + m then fT (i - off) else f i : Nat) : Int)) := by
  unfold splice
  rw [length_vals]
  show _ = some (Value.int .u8 ((if off ≤ i ∧ i < off + m then fT (i - off) else f i : Nat) : Int))
  by_cases h1 : i < off
  · rw [if_neg (by omega), List.getElem?_append_left (by simp; omega), List.getElem?_take_of_lt h1]
    exact hc i hi
  · rw [List.getElem?_append_right (by simp; omega)]
    have e1 : (cur.take off).length = off := by simp; omega
    rw [e1]
    by_cases h2 : i < off + m
    · rw [if_pos ⟨by omega, h2⟩, List.getElem?_append_left (by rw [length_vals]; omega)]
      exact vals_at fT m (i - off) (by omega)
    · rw [if_neg (by omega), List.getElem?_append_right (by rw [length_vals]; omega), length_vals, List.getElem?_drop]
      rw [show off + m + (i - off - m) = i by omega]
      exact hc i hi

/-- 'copy' into a row of the call's own as one step of a region that draws: of all else nothing turns. -/
theorem step_copy_but {ops : Array Oper} {o : Oper} {a : Act} {w : World} {K : Act → World → Prop} {Q : Exit → Act → World → Prop} {E : Prop} (hgd : o.guard = none) (d s : Operand)
    (ho : o.op = .call { callee := .builtin .copy, args := #[d, s], argTypes := #[22, 22] })
    (dp sp : Option Addr) (dLen dCap sLen sCap : Nat) (hd : a.eval d = .slice dp dLen dCap) (hs : a.eval s = .slice sp sLen sCap)
    (g off N m : Nat) (f fT : Nat → Nat) (hop : Row w g N f) (hm : m = Nat.min sLen dLen) (hsrc : Bytes w sp m fT) (hdp : 0 < m → dp = some ⟨g, off, none⟩) (hfit : off + m ≤ N)
    (h : ∀ w', Row w' g N (fun i => if off ≤ i ∧ i < off + m then fT (i - off) else f i) → (∀ B, But B g w w') → K (a.put o.dst (goInt m)) w') :
    if Region.wanted o (yielded ops a.tmps) = true then Oper.wp Ybaf.prog o a w K Q else E := by
  have hw : Region.wanted o (yielded ops a.tmps) = true := by simp [Region.wanted, hgd]
  rw [if_pos hw]
  obtain ⟨cur, hg, hl, hc⟩ := hop
  by_cases h0 : m = 0
  · have hrun := run_copy_none (P := Ybaf.prog) w 22 22 o.type 5 dp sp dLen dCap sLen sCap Ybaf.underlying22 (by kernel_rfl) (by rw [← hm]; exact h0)
    unfold Oper.wp
    simp [execOp, ho, resolve, invoke, builtin, hd, hs, hrun, Result.andThen]
    have := h w ⟨cur, hg, hl, fun i hi => by show cur[i]? = some (Value.int .u8 ((if off ≤ i ∧ i < off + m then fT (i - off) else f i : Nat) : Int)); rw [if_neg (by omega)]; exact hc i hi⟩ (fun B => But.refl _ _ _)
    rw [h0] at this
    exact this
  · obtain rfl := hdp (by omega)
    rcases hsrc with hz | ⟨b, o', rfl, hcc⟩
    · exact absurd hz h0
    · have hrun := run_copy_row (P := Ybaf.prog) w 22 22 o.type 5 g off dLen dCap ⟨b, o', none⟩ sLen sCap cur.toArray 5 (vals fT m) Ybaf.underlying22 (by kernel_rfl) hg (by rw [length_vals]; exact hm)
        (fun j v hj => by
          have hjm : j < m := by
            have := (List.getElem?_eq_some_iff.1 hj).1
            rwa [length_vals] at this
          rw [vals_at fT m j hjm] at hj
          rw [show (⟨b, o', none⟩ : Addr).add j = ⟨b, o' + j, none⟩ by unfold Addr.add; split <;> simp_all]
          exact (hcc j hjm).trans hj) (by rw [length_vals]; simp; omega) (vals_one fT m)
      unfold Oper.wp
      simp [execOp, ho, resolve, invoke, builtin, hd, hs, hrun, Result.andThen]
      have := h _ ⟨splice cur off (vals fT m), setRow_heap w g _ _ 5 _ hg, by rw [length_splice _ _ _ (by rw [length_vals]; omega)]; exact hl, fun i hi => splice_row cur f fT N off m hl hc hfit i hi⟩ (fun B => ⟨rfl, rfl, rfl, by simp [World.setRow], fun k _ hk => setRow_other w g k _ hk⟩)
      simp [splice, length_vals] at this
      simp [length_vals]
      exact this

/-- The row behind a snapshot: the length in words, the schema's three bytes, the data. -/
def putS (base sch dl : Nat) (df f : Nat → Nat) (i : Nat) : Nat :=
  if base + 4 ≤ i ∧ i < base + 4 + dl then df (i - (base + 4)) else if i = base + 3 then sch % 256 else if i = base + 2 then sch / 256 % 256 else if i = base + 1 then sch / 65536 else if i = base then dl / 4 else f i
theorem Row.drew' {w : World} {g N : Nat} {f : Nat → Nat} (h : Row w g N f) : Row w.drew g N f := h
theorem Bytes.but' {w w' : World} {ad : Option Addr} {len g B : Nat} {f : Nat → Nat} (h : Bytes w ad len f) (hb : But B g w w') (hB : w.heap.size ≤ B) (hg : ∀ a, ad = some a → a.block ≠ g) : Bytes w' ad len f := by
  rcases h with h | ⟨b, off, rfl, hc⟩
  · exact .inl h
  · by_cases h0 : len = 0
    · exact .inl h0
    · have hlt := World.block_lt_of_cell? w _ (hc 0 (by omega))
      exact .inr ⟨b, off, rfl, fun i hi => (hb.cell (p := ⟨b, off + i, none⟩) (by simp at hlt ⊢; omega) (hg ⟨b, off, none⟩ rfl)).trans (hc i hi)⟩

set_option maxRecDepth 100000 in
set_option maxHeartbeats 1000000 in
theorem put_any (sch dl dc g base N len cap : Nat) (ad : Option Addr) (f df : Nat → Nat) (w : World) (hsch : (sch : Int) < 16777216) (hdl : (dl : Int) ≤ 1020) (hd4 : dl % 4 = 0) (hr : Row w g N f) (hl : 4 + dl ≤ len) (hN : base + len ≤ N) (hlc : len ≤ cap)
    (hd : Bytes w ad dl df) (hgd : ∀ a, ad = some a → a.block ≠ g) :
    Calls Ybaf.prog 29 #[.agg #[.int .u32 (sch : Int), .slice ad dl dc], .slice (some ⟨g, base, none⟩) len cap] w fun e w' => e = .returned (.tuple #[]) ∧ Row w' g N (putS base sch dl df f) ∧ But w.heap.size g w w' := by
  have i0 : (0 : Int) < (len : Int) := by omega
  have i1 : (1 : Int) < (len : Int) := by omega
  have i2 : (2 : Int) < (len : Int) := by omega
  have i3 : (3 : Int) < (len : Int) := by omega
  have c0 := hr.cell (i := base) (by omega)
  have z0 := hr.frozen base
  have hg := hr.lt
  go_enter Ybaf.func29, Ybaf.ntmps29
  go_wp2
  have hd4' : ((dl : Int) / 4) = ((dl / 4 : Nat) : Int) := by simp
  rw [hd4']
  have hr1 : Row ((w.setCell ⟨g, base, none⟩ (.int .u8 ((dl / 4 : Nat) : Int))).alloc (Obj.cells #[.int .u32 (sch : Int), .slice ad dl dc] 54)) g N (fun i => if i = base then dl / 4 else f i) :=
    (hr.set base (dl / 4) (fun _ _ => rfl)).below ((Below.refl w.heap.size _).alloc (by simp) _) hg
  have hb1 : But w.heap.size g w ((w.setCell ⟨g, base, none⟩ (.int .u8 ((dl / 4 : Nat) : Int))).alloc (Obj.cells #[.int .u32 (sch : Int), .slice ad dl dc] 54)) := (But.setCell _ _ _ _ _).trans (Below.but ((Below.refl w.heap.size _).alloc (by simp) _) g)
  have s0 : ((w.setCell ⟨g, base, none⟩ (.int .u8 ((dl / 4 : Nat) : Int))).alloc (Obj.cells #[.int .u32 (sch : Int), .slice ad dl dc] 54)).cell? ⟨w.heap.size, 0, none⟩ = some (.int .u32 (sch : Int)) := by simp [go_sem]
  have s1 : ((w.setCell ⟨g, base, none⟩ (.int .u8 ((dl / 4 : Nat) : Int))).alloc (Obj.cells #[.int .u32 (sch : Int), .slice ad dl dc] 54)).cell? ⟨w.heap.size, 1, none⟩ = some (.slice ad dl dc) := by simp [go_sem]
  have hgw : w.heap.size ≠ g := by omega
  obtain ⟨W1, hW1⟩ : ∃ W1, (w.setCell ⟨g, base, none⟩ (.int .u8 ((dl / 4 : Nat) : Int))).alloc (Obj.cells #[.int .u32 (sch : Int), .slice ad dl dc] 54) = W1 := ⟨_, rfl⟩
  rw [hW1] at hr1 hb1 s0 s1 ⊢
  clear hW1 c0 z0 hd4'
  obtain ⟨S, hSw⟩ : ∃ S, w.heap.size = S := ⟨_, rfl⟩
  rw [hSw] at hb1 s0 s1 hgw hg ⊢
  have c1 := hr1.cell (i := base + 1) (by omega)
  have c2 := hr1.cell (i := base + 2) (by omega)
  have c3 := hr1.cell (i := base + 3) (by omega)
  have z1 := hr1.frozen (base + 1)
  have z2 := hr1.frozen (base + 2)
  have z3 := hr1.frozen (base + 3)
  have k0 : ∀ (X : World) (o : Nat) (v : Value), (X.setCell ⟨g, o, none⟩ v).cell? ⟨S, 0, none⟩ = X.cell? ⟨S, 0, none⟩ := fun X o v => World.cell?_setCell_other _ _ _ _ (by intro h; exact hgw (congrArg Addr.block h).symm)
  have k12 : ∀ (X : World) (v : Value), (X.setCell ⟨g, base + 1, none⟩ v).cell? ⟨g, base + 2, none⟩ = X.cell? ⟨g, base + 2, none⟩ := fun X v => World.cell?_setCell_other _ _ _ _ (by simp)
  have k13 : ∀ (X : World) (v : Value), (X.setCell ⟨g, base + 1, none⟩ v).cell? ⟨g, base + 3, none⟩ = X.cell? ⟨g, base + 3, none⟩ := fun X v => World.cell?_setCell_other _ _ _ _ (by simp)
  have k23 : ∀ (X : World) (v : Value), (X.setCell ⟨g, base + 2, none⟩ v).cell? ⟨g, base + 3, none⟩ = X.cell? ⟨g, base + 3, none⟩ := fun X v => World.cell?_setCell_other _ _ _ _ (by simp)
  go_region
  obtain ⟨x1, hx1⟩ : ∃ x1, Hid (sch / 65536 = x1) := ⟨_, rfl⟩
  have e1 : (sch : Int) / 65536 = (x1 : Int) := by rw [← hx1.out]; simp
  have e2 : (sch : Int) / 256 % 256 = ((sch / 256 % 256 : Nat) : Int) := by simp
  have e3 : (sch : Int) % 256 = ((sch % 256 : Nat) : Int) := by simp
  rw [e1, e2, e3]
  have hr2 := (((hr1.set (base + 1) x1 (fun _ _ => rfl)).set (base + 2) (sch / 256 % 256) (fun _ _ => rfl)).set (base + 3) (sch % 256) (fun _ _ => rfl)).drew'
  have hb2 : But S g W1 ((((W1.setCell ⟨g, base + 1, none⟩ (.int .u8 (x1 : Int))).setCell ⟨g, base + 2, none⟩ (.int .u8 ((sch / 256 % 256 : Nat) : Int))).setCell ⟨g, base + 3, none⟩ (.int .u8 ((sch % 256 : Nat) : Int))).drew) :=
    But.trans (b := ((W1.setCell ⟨g, base + 1, none⟩ (.int .u8 (x1 : Int))).setCell ⟨g, base + 2, none⟩ (.int .u8 ((sch / 256 % 256 : Nat) : Int))).setCell ⟨g, base + 3, none⟩ (.int .u8 ((sch % 256 : Nat) : Int))) (((But.setCell _ _ _ _ _).trans (But.setCell _ _ _ _ _)).trans (But.setCell _ _ _ _ _)) ⟨rfl, rfl, rfl, Nat.le_refl _, fun _ _ _ => rfl⟩
  have t1 : ((((W1.setCell ⟨g, base + 1, none⟩ (.int .u8 (x1 : Int))).setCell ⟨g, base + 2, none⟩ (.int .u8 ((sch / 256 % 256 : Nat) : Int))).setCell ⟨g, base + 3, none⟩ (.int .u8 ((sch % 256 : Nat) : Int))).drew).cell? ⟨S, 1, none⟩ = some (.slice ad dl dc) := by
    have k1 : ∀ (X : World) (o : Nat) (v : Value), (X.setCell ⟨g, o, none⟩ v).cell? ⟨S, 1, none⟩ = X.cell? ⟨S, 1, none⟩ := fun X o v => World.cell?_setCell_other _ _ _ _ (by intro h; exact hgw (congrArg Addr.block h).symm)
    rw [World.cell?_drew, k1, k1, k1]
    exact s1
  obtain ⟨W2, hW2⟩ : ∃ W2, ((((W1.setCell ⟨g, base + 1, none⟩ (.int .u8 (x1 : Int))).setCell ⟨g, base + 2, none⟩ (.int .u8 ((sch / 256 % 256 : Nat) : Int))).setCell ⟨g, base + 3, none⟩ (.int .u8 ((sch % 256 : Nat) : Int))).drew) = W2 := ⟨_, rfl⟩
  rw [hW2] at hb2 t1 ⊢
  rw [hW2] at hr2
  clear hW2 k0 k12 k13 k23 c1 c2 c3 z1 z2 z3 e1 e2 e3
  have hd2 : Bytes W2 ad dl df := hd.but' (hb1.trans hb2) (Nat.le_of_eq hSw) hgd
  have i4 : (4 : Int) ≤ (len : Int) := by omega
  have i5 : (len : Int) ≤ (cap : Int) := by omega
  go_wp2
  have hr2d := hr2.drew'
  have hd2d : Bytes W2.drew ad dl df := hd2
  go_region_law ((refine step_copy_but rfl (.tmp 29) (.tmp 31) rfl _ _ _ _ _ _ rfl rfl g (base + 4) N dl _ df hr2d ?_ hd2d ?_ (by omega) ?_; (first | rfl | (show dl = min dl _; omega)); (intro hp; rw [if_neg (by omega)]); intro w3 hr3 hb3))
  go_end0
  rw [hSw]
  refine ⟨rfl, hr3.congr (fun i _ => ?_), (hb1.trans hb2).trans (But.trans (b := W2.drew) ⟨rfl, rfl, rfl, Nat.le_refl _, fun _ _ _ => rfl⟩ (hb3 _))⟩
  unfold putS
  rw [hx1.out]
end Go.Proofs.YbulkdlqeFmt
