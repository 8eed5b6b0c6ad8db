/-
  (*bufio.Reader).Read of seven bytes.
-/
import Derived.Test.YbulkdlswDoorG
namespace Go.Proofs.YbulkdlswDoor
open Go.RowKit Go.Shelf
set_option linter.unusedVariables false

/-- The region that a piece of code begins with. -/
def headReg : Code → Option Nat
  | .region j _ _ => some j
  | .seq a _ => headReg a
  | .block _ c => headReg c
  | .scope c => headReg c
  | _ => none
/-- A function's code from a region on. -/
def fromReg (k : Nat) : Code → Option Code
  | .seq a b => if headReg a = some k then some (.seq a b) else fromReg k b
  | _ => none
def rtail25 (b : Option Code) : Code := (b.bind (fromReg 25)).getD .skip
def rtail26 (b : Option Code) : Code := (b.bind (fromReg 26)).getD .skip

/-- What a Read out of a buffer that is not empty comes to. -/
def BufSaid (R U V bl r w : Nat) (rd : Value) (fU fV : Nat → Nat) (W : World) (e : Ending) (w' : World) : Prop :=
  ∃ (c : Nat) (lb : Int), e = .returned (.tuple #[.int .i64 (c : Int), .nilIface]) ∧ 1 ≤ c ∧ c ≤ 7 ∧ r + c ≤ w ∧ w'.heap[R]? = some (.cells (RB U bl rd (r + c : Nat) w .nilIface lb (-1)) 47 (0, 0)) ∧
    Row w' V 7 (fun i => if 0 ≤ i ∧ i < 0 + c then fU (r + (i - 0)) else fV i) ∧ Same [R, V] W w'

set_option maxRecDepth 1000000 in
set_option maxHeartbeats 2000000 in
theorem buf26 (R U V bl r w c : Nat) (rd : Value) (lb lr : Int) (fU : Nat → Nat) (W : World) (Q : Ending → World → Prop) (hR : W.heap[R]? = some (.cells (RB U bl rd r w .nilIface lb lr) 47 (0, 0))) (hc : 1 ≤ c) (hrw : r + c ≤ w) (hwb : w ≤ bl) (hbl : (bl : Int) ≤ 70000) (hU : Row W U bl fU) (hRU : R ≠ U)
    (hQ : ∀ w' lb', w'.heap[R]? = some (.cells (RB U bl rd (r + c : Nat) w .nilIface lb' (-1)) 47 (0, 0)) → Same [R] W w' → Q (.returned (.tuple #[.int .i64 (c : Int), .nilIface])) w') (u2 u3 u5 u6 u7 u8 u9 u10 u11 u12 u13 u14 u15 u16 u17 u18 u19 u20 u21 u22 u23 u24 u25 u26 u27 u28 u29 u30 u31 u32 u33 u34 u35 u36 u37 u38 u39 u40 u41 u42 u43 u44 u45 u46 u47 u48 u49 u50 u51 u52 u53 u54 u55 u56 u57 u58 u59 u60 u61 u62 u63 u64 u65 u66 u67 u68 u69 u70 u71 u72 u73 u74 u75 u76 u77 u78 u79 u80 u81 u82 u83 u84 u85 u86 u87 u88 u89 u90 u91 u92 u93 u94 u95 u96 u97 u98 u99 u100 u101 u102 u103 u104 u105 u106 u107 u108 u109 u110 u111 u112 u113 u114 u115 u116 u117 u118 u119 u120 u121 u122 u123 u124 u125 u126 u127 u128 u129 u130 u131 u132 u133 u134 u135 u136 u137 u138 u139 u140 u141 u142 u143 u144 u145 u146 u147 u148 u149 u150 : Value) :
    Code.wp Ybad.prog (rtail26 Ybad.f8.body) (bodyPost Ybad.prog Ybad.f8 Q) ⟨#[.pointer (some ⟨R, 0, none⟩), .slice (some ⟨V, 0, none⟩) 7 7, u2, u3, .int .i64 (c : Int), u5, u6, u7, u8, u9, u10, u11, u12, u13, u14, u15, u16, u17, u18, u19, u20, u21, u22, u23, u24, u25, u26, u27, u28, u29, u30, u31, u32, u33, u34, u35, u36, u37, u38, u39, u40, u41, u42, u43, u44, u45, u46, u47, u48, u49, u50, u51, u52, u53, u54, u55, u56, u57, u58, u59, u60, u61, u62, u63, u64, u65, u66, u67, u68, u69, u70, u71, u72, u73, u74, u75, u76, u77, u78, u79, u80, u81, u82, u83, u84, u85, u86, u87, u88, u89, u90, u91, u92, u93, u94, u95, u96, u97, u98, u99, u100, u101, u102, u103, u104, u105, u106, u107, u108, u109, u110, u111, u112, u113, u114, u115, u116, u117, u118, u119, u120, u121, u122, u123, u124, u125, u126, u127, u128, u129, u130, u131, u132, u133, u134, u135, u136, u137, u138, u139, u140, u141, u142, u143, u144, u145, u146, u147, u148, u149, u150], []⟩ W := by
  conv => arg 2; whnf
  conv => arg 4; zeta
  obtain ⟨c0, c1, c2, c3, c4, c5, c6, cf⟩ := rcells hR
  obtain ⟨x, hx⟩ : ∃ x, r + c = x + 1 := ⟨r + c - 1, by omega⟩
  obtain ⟨z, hz⟩ : ∃ z, z = r + c := ⟨_, rfl⟩
  have y0 : (r : Int) + (c : Int) = (z : Int) := by omega
  have y1 : (z : Int) - 1 = (x : Int) := by omega
  have y2 : IntKind.i64.wrap (x : Int) = (x : Int) := IntWalk.i64_in _ (by omega)
  have y3 : IntKind.i64.wrap (z : Int) = (z : Int) := IntWalk.i64_in _ (by omega)
  have y4 : (0 : Int) ≤ (x : Int) := by omega
  have y5 : (x : Int) < (bl : Int) := by omega
  have HC : Hid (r + c = x + 1 ∧ z = r + c ∧ 1 ≤ c ∧ r + c ≤ w ∧ w ≤ bl) := ⟨hx, hz, hc, hrw, hwb⟩
  clear hc hx hz hrw hwb
  go_upto_region 27 with fail
  obtain ⟨w4, hw4⟩ : ∃ w4, W.setCell ⟨R, 2, none⟩ (.int .i64 (z : Int)) = w4 := ⟨_, rfl⟩
  have hR4 : w4.heap[R]? = some (.cells (RB U bl rd z w .nilIface lb lr) 47 (0, 0)) := by rw [← hw4]; exact rb_set hR 2 _
  have hU4 : Row w4 U bl fU := by rw [← hw4]; exact hU.block (Below.heap_setCell _ _ _ _ (by show U ≠ R; omega))
  have hs4 : Same [R] W w4 := by rw [← hw4]; exact Same.setCell _ _ _ _ (by simp)
  rw [hw4]
  clear hw4 c0 c1 c2 c3 c4 c5 c6 cf hR hU
  obtain ⟨c0, c1, c2, c3, c4, c5, c6, cf⟩ := rcells hR4
  have cx := hU4.cell (i := x) (by have := HC.out; omega)
  go_cut [4] (fun v wx => v = .int .i64 (c : Int) ∧ ∃ lb', wx.heap[R]? = some (.cells (RB U bl rd z w .nilIface lb' lr) 47 (0, 0)) ∧ Same [R] W wx)
  case first =>
    go_wp2
    go_region
    all_goals
      go_wp2
      go_meet
      exact ⟨rfl, _, rb_set (W := w4.drew) hR4 5 _, (hs4.trans (Same.drew _ _)).trans (Same.setCell _ _ _ _ (by simp))⟩
  case rest =>
    obtain ⟨rfl, lb', hR5, hs5⟩ := hcut
    clear c0 c1 c2 c3 c4 c5 c6 cf cx hR4 hU4 hs4
    obtain ⟨c0, c1, c2, c3, c4, c5, c6, cf⟩ := rcells hR5
    go_wp2
    have hz := HC.out.2.1
    subst hz
    exact hQ _ _ (rb_set hR5 6 _) (hs5.trans (Same.setCell _ _ _ _ (by simp)))

set_option maxRecDepth 1000000 in
set_option maxHeartbeats 2000000 in
theorem buf25 (R U V bl r w : Nat) (rd : Value) (lb lr : Int) (fU fV : Nat → Nat) (W : World) (Q : Ending → World → Prop) (hR : W.heap[R]? = some (.cells (RB U bl rd r w .nilIface lb lr) 47 (0, 0))) (hrw : r < w) (hwb : w ≤ bl) (hbl : (bl : Int) ≤ 70000) (hU : Row W U bl fU) (hV : Row W V 7 fV) (hRU : R ≠ U) (hRV : R ≠ V) (hUV : U ≠ V)
    (hQ : ∀ e w', BufSaid R U V bl r w rd fU fV W e w' → Q e w') (u2 u3 u4 u5 u6 u7 u8 u9 u10 u11 u12 u13 u14 u15 u16 u17 u18 u19 u20 u21 u22 u23 u24 u25 u26 u27 u28 u29 u30 u31 u32 u33 u34 u35 u36 u37 u38 u39 u40 u41 u42 u43 u44 u45 u46 u47 u48 u49 u50 u51 u52 u53 u54 u55 u56 u57 u58 u59 u60 u61 u62 u63 u64 u65 u66 u67 u68 u69 u70 u71 u72 u73 u74 u75 u76 u77 u78 u79 u80 u81 u82 u83 u84 u85 u86 u87 u88 u89 u90 u91 u92 u93 u94 u95 u96 u97 u98 u99 u100 u101 u102 u103 u104 u105 u106 u107 u108 u109 u110 u111 u112 u113 u114 u115 u116 u117 u118 u119 u120 u121 u122 u123 u124 u125 u126 u127 u128 u129 u130 u131 u132 u133 u134 u135 u136 u137 u138 u139 u140 u141 u142 u143 u144 u145 u146 u147 u148 u149 u150 : Value) :
    Code.wp Ybad.prog (rtail25 Ybad.f8.body) (bodyPost Ybad.prog Ybad.f8 Q) ⟨#[.pointer (some ⟨R, 0, none⟩), .slice (some ⟨V, 0, none⟩) 7 7, u2, u3, u4, u5, u6, u7, u8, u9, u10, u11, u12, u13, u14, u15, u16, u17, u18, u19, u20, u21, u22, u23, u24, u25, u26, u27, u28, u29, u30, u31, u32, u33, u34, u35, u36, u37, u38, u39, u40, u41, u42, u43, u44, u45, u46, u47, u48, u49, u50, u51, u52, u53, u54, u55, u56, u57, u58, u59, u60, u61, u62, u63, u64, u65, u66, u67, u68, u69, u70, u71, u72, u73, u74, u75, u76, u77, u78, u79, u80, u81, u82, u83, u84, u85, u86, u87, u88, u89, u90, u91, u92, u93, u94, u95, u96, u97, u98, u99, u100, u101, u102, u103, u104, u105, u106, u107, u108, u109, u110, u111, u112, u113, u114, u115, u116, u117, u118, u119, u120, u121, u122, u123, u124, u125, u126, u127, u128, u129, u130, u131, u132, u133, u134, u135, u136, u137, u138, u139, u140, u141, u142, u143, u144, u145, u146, u147, u148, u149, u150], []⟩ W := by
  conv => arg 2; whnf
  conv => arg 4; zeta
  obtain ⟨c0, c1, c2, c3, c4, c5, c6, cf⟩ := rcells hR
  have i2 : (0 : Int) ≤ (r : Int) := by omega
  have i3 : (r : Int) ≤ (w : Int) := by omega
  have i4 : (w : Int) ≤ (bl : Int) := by omega
  have i5 : ¬ bl = r := by omega
  obtain ⟨c, hc⟩ : ∃ c, c = min (w - r) 7 := ⟨_, rfl⟩
  have hUb : Bytes W.drew (some ⟨U, r, none⟩) c (fun j => fU (r + j)) := .inr ⟨U, r, rfl, fun j hj => hU.cell (by omega)⟩
  have hVq : Row W.drew V 7 fV := hV
  have HC : Hid (c = min (w - r) 7 ∧ r < w ∧ w ≤ bl) := ⟨hc, hrw, hwb⟩
  clear hc hrw hwb
  go_upto_region 25 with fail
  go_cut [4] (fun v wx => v = .int .i64 (c : Int) ∧ Row wx V 7 (fun i => if 0 ≤ i ∧ i < 0 + c then fU (r + (i - 0)) else fV i) ∧ (∀ B, But B V W wx))
  case first =>
    go_wp2
    go_region_law ((refine step_copy_but rfl (.tmp 109) (.tmp 122) rfl _ _ _ _ _ _ rfl rfl V 0 7 c _ (fun j => fU (r + j)) hVq ?_ hUb ?_ (by have := HC.out.1; omega) ?_; (have := HC.out.1; first | exact this | (show c = min (w - r) 7; exact this)); (intro _; rfl); intro w3 hr3 hb3))
    all_goals
      go_wp2
      go_meet
      exact ⟨rfl, hr3, fun B => ⟨(hb3 B).os, (hb3 B).tape, (hb3 B).output, (hb3 B).size, (hb3 B).block⟩⟩
  case rest =>
    obtain ⟨rfl, hr3, hb3⟩ := hcut
    have hR3 : wc.heap[R]? = some (.cells (RB U bl rd r w .nilIface lb lr) 47 (0, 0)) := ((hb3 (R + 1)).block R (by omega) hRV).trans hR
    have hU3 : Row wc U bl fU := hU.block ((hb3 (U + 1)).block U (by omega) hUV)
    have hs3 : Same [R, V] W wc := (But.same (hb3 _)).more (by simp)
    have hc := HC.out
    rename_i K hK
    refine hK _ _ ?_
    refine buf26 R U V bl r w c rd lb lr fU wc Q hR3 (by omega) (by omega) (by omega) hbl hU3 hRU ?_ _ _ _ _ _ _ _ _ _ _ _ _ _ _ _ _ _ _ _ _ _ _ _ _ _ _ _ _ _ _ _ _ _ _ _ _ _ _ _ _ _ _ _ _ _ _ _ _ _ _ _ _ _ _ _ _ _ _ _ _ _ _ _ _ _ _ _ _ _ _ _ _ _ _ _ _ _ _ _ _ _ _ _ _ _ _ _ _ _ _ _ _ _ _ _ _ _ _ _ _ _ _ _ _ _ _ _ _ _ _ _ _ _ _ _ _ _ _ _ _ _ _ _ _ _ _ _ _ _ _ _ _ _ _ _ _ _ _ _ _ _ _ _ _ _ _ _ _
    intro w' lb' hR' hs'
    exact hQ _ _ ⟨c, lb', rfl, by omega, by omega, by omega, hR', hr3.same hs' (by simp; omega), hs3.trans (hs'.more (by simp))⟩
end Go.Proofs.YbulkdlswDoor
