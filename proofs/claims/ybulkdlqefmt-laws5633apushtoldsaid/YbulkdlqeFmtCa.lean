/-
  LawS5633APush behind Push.
-/
import Derived.Test.YbulkdlqeFmtZ
import Derived.Test.YbulkdlqeFmtBd
namespace Go.Proofs.YbulkdlqeFmt
open Go.RowKit Go.Shelf Go.Extern.Stop Go.Stop Go.Extern

def ptail9 (b : Option Code) : Code := (b.bind (fromReg 9)).getD .skip

set_option maxRecDepth 1000000 in
set_option maxHeartbeats 4000000 in
theorem ptail_err (w0 w : World) (g h i n cap : Nat) (f : Nat → Nat) (pe pf : Addr) (h8 : 8 ≤ n) (hn : n ≤ 2000) (hg : Row w g n f) (hh : Row w h n f) (hi : Row w i 8 f) (hB : Below w0.heap.size w0 w) (u0 u2 u6 u8 u10 u11 u12 u13 u14 u15 u16 u17 u18 u19 u20 u21 u22 u23 u24 u25 u26 u27 u28 u29 u30 u31 u32 u33 u34 u35 u36 u37 u38 u39 u40 u41 u42 u43 u44 u45 u46 u47 u48 u49 u50 u51 u52 u53 u54 u55 u56 u57 u58 u59 u60 u61 u62 u63 u64 u65 u66 u67 u68 u69 u70 u71 u72 u73 u74 u75 u76 u77 u78 u79 u80 u81 u82 u83 u84 u85 u86 u87 u88 u89 u90 u91 u92 u93 u94 u95 u96 u97 u98 u99 u100 u101 u102 u103 u104 u105 u106 u107 u108 u109 u110 u111 u112 u113 u114 u115 u116 u117 u118 u119 u120 u121 u122 u123 u124 u125 u126 u127 u128 u129 u130 u131 u132 u133 u134 u135 u136 u137 u138 u139 u140 u141 u142 u143 : Value) :
    Code.wp Ybaf.prog (ptail9 Ybaf.f4.body) (bodyPost Ybaf.prog Ybaf.f4 (LawPost w0)) ⟨#[u0, .pointer (some ⟨w0.heap.size, 0, none⟩), u2, .slice (some ⟨g, 0, none⟩) n cap, .slice (some ⟨h, 0, none⟩) n n, .slice (some ⟨i, 0, none⟩) 8 8, u6, .iface 65 (.pointer (some pe)), u8, .iface 65 (.pointer (some pf)), u10, u11, u12, u13, u14, u15, u16, u17, u18, u19, u20, u21, u22, u23, u24, u25, u26, u27, u28, u29, u30, u31, u32, u33, u34, u35, u36, u37, u38, u39, u40, u41, u42, u43, u44, u45, u46, u47, u48, u49, u50, u51, u52, u53, u54, u55, u56, u57, u58, u59, u60, u61, u62, u63, u64, u65, u66, u67, u68, u69, u70, u71, u72, u73, u74, u75, u76, u77, u78, u79, u80, u81, u82, u83, u84, u85, u86, u87, u88, u89, u90, u91, u92, u93, u94, u95, u96, u97, u98, u99, u100, u101, u102, u103, u104, u105, u106, u107, u108, u109, u110, u111, u112, u113, u114, u115, u116, u117, u118, u119, u120, u121, u122, u123, u124, u125, u126, u127, u128, u129, u130, u131, u132, u133, u134, u135, u136, u137, u138, u139, u140, u141, u142, u143], []⟩ w := by
  conv => arg 2; whnf
  have hq1 := fun X hX hY => eq_same (some ⟨i, 0, none⟩) (some ⟨h, 0, none⟩) 8 8 n f X (by omega) hX hY
  have hq2 := fun X hX hY => eq_same (some ⟨g, 0, none⟩) (some ⟨h, 0, none⟩) n cap n f X (by omega) hX hY
  have b8 : Bytes w (some ⟨h, 0, none⟩) 8 f := (hh.shorter h8).bytes
  have w8 : (8 : Int) ≤ (n : Int) := by omega
  have y8 : IntKind.i64.wrap 8 = 8 := by rw [IntKind.wrap_i64]; omega
  go_wp2_with fail
  refine (hq1 _ hi.bytes b8).mono ?_
  rintro e w1 ⟨m1, rfl, rfl⟩
  clear hq1
  go_wp2
  go_quiet (fail)
  rw [World.drewN_drewN]
  obtain ⟨q1, hq1⟩ : ∃ q, m1 + nq = q := ⟨_, rfl⟩
  rw [hq1]
  clear hq1
  go_wp2_with fail
  refine (hq2 (w.drewN q1) hg.bytes hh.bytes).mono ?_
  rintro e w2 ⟨m2, rfl, rfl⟩
  go_wp2
  go_ret
  exact ⟨rfl, hB.trans (below_drewN _ _ _)⟩
set_option maxRecDepth 1000000 in
set_option maxHeartbeats 4000000 in
theorem ptail_nil (w0 w : World) (g h i k n cap L ck rs R m : Nat) (f f1 fo : Nat → Nat) (hR : R ≤ 127) (hnR : n = 8 + R * 4) (hL : L = 10 + m) (hmR : m ≤ R * 4) (hm4 : m % 4 = 0) (hnc : n ≤ cap) (hLc : L ≤ ck) (hg : Row w g n f1) (hh : Row w h n f) (hi : Row w i 8 f) (hk : Row w k L fo) (hrs : w.cell? ⟨w0.heap.size, 5, none⟩ = some (.int .u8 (rs : Int))) (e0 : fo 0 = rs) (e1 : fo 1 = 1) (e2 : ∀ j, j < 8 → fo (2 + j) = f1 j) (e3 : ∀ j, j < m → f1 (8 + R * 4 - m + j) = fo (10 + j)) (e4 : ∀ j, 8 ≤ j → j < 8 + R * 4 - m → f1 j = f j) (hB : Below w0.heap.size w0 w) (u0 u2 u6 u10 u11 u12 u13 u14 u15 u16 u17 u18 u19 u20 u21 u22 u23 u24 u25 u26 u27 u28 u29 u30 u31 u32 u33 u34 u35 u36 u37 u38 u39 u40 u41 u42 u43 u44 u45 u46 u47 u48 u49 u50 u51 u52 u53 u54 u55 u56 u57 u58 u59 u60 u61 u62 u63 u64 u65 u66 u67 u68 u69 u70 u71 u72 u73 u74 u75 u76 u77 u78 u79 u80 u81 u82 u83 u84 u85 u86 u87 u88 u89 u90 u91 u92 u93 u94 u95 u96 u97 u98 u99 u100 u101 u102 u103 u104 u105 u106 u107 u108 u109 u110 u111 u112 u113 u114 u115 u116 u117 u118 u119 u120 u121 u122 u123 u124 u125 u126 u127 u128 u129 u130 u131 u132 u133 u134 u135 u136 u137 u138 u139 u140 u141 u142 u143 : Value) :
    Code.wp Ybaf.prog (ptail9 Ybaf.f4.body) (bodyPost Ybaf.prog Ybaf.f4 (LawPost w0)) ⟨#[u0, .pointer (some ⟨w0.heap.size, 0, none⟩), u2, .slice (some ⟨g, 0, none⟩) n cap, .slice (some ⟨h, 0, none⟩) n n, .slice (some ⟨i, 0, none⟩) 8 8, u6, .nilIface, .slice (some ⟨k, 0, none⟩) L ck, .nilIface, u10, u11, u12, u13, u14, u15, u16, u17, u18, u19, u20, u21, u22, u23, u24, u25, u26, u27, u28, u29, u30, u31, u32, u33, u34, u35, u36, u37, u38, u39, u40, u41, u42, u43, u44, u45, u46, u47, u48, u49, u50, u51, u52, u53, u54, u55, u56, u57, u58, u59, u60, u61, u62, u63, u64, u65, u66, u67, u68, u69, u70, u71, u72, u73, u74, u75, u76, u77, u78, u79, u80, u81, u82, u83, u84, u85, u86, u87, u88, u89, u90, u91, u92, u93, u94, u95, u96, u97, u98, u99, u100, u101, u102, u103, u104, u105, u106, u107, u108, u109, u110, u111, u112, u113, u114, u115, u116, u117, u118, u119, u120, u121, u122, u123, u124, u125, u126, u127, u128, u129, u130, u131, u132, u133, u134, u135, u136, u137, u138, u139, u140, u141, u142, u143], []⟩ w := by
  conv => arg 2; whnf
  have E2 : Hid (∀ j, j < 8 → fo (2 + j) = f1 j) := e2
  have E3 : Hid (∀ j, j < m → f1 (8 + R * 4 - m + j) = fo (10 + j)) := e3
  have E4 : Hid (∀ j, 8 ≤ j → j < 8 + R * 4 - m → f1 j = f j) := e4
  have HN : Hid (n = 8 + R * 4 ∧ L = 10 + m) := ⟨hnR, hL⟩
  have nI : (n : Int) ≤ 516 := by omega
  have LI : (L : Int) ≤ 518 := by omega
  have hn8 : 8 ≤ n := by omega
  have hn8' : n ≤ 2000 := by omega
  have hL10 : 10 ≤ L := by omega
  clear e2 e3 e4 hnR hL
  have hq1 := fun X hX hY => eq_same (some ⟨i, 0, none⟩) (some ⟨h, 0, none⟩) 8 8 n f X (by omega) hX hY
  have b8 : Bytes w (some ⟨h, 0, none⟩) 8 f := (hh.shorter (by omega)).bytes
  have w8 : (8 : Int) ≤ (n : Int) := by omega
  have y8 : IntKind.i64.wrap 8 = 8 := by rw [IntKind.wrap_i64]; omega
  have z0 := hk.cell (i := 0) (by omega)
  have z1 := hk.cell (i := 1) (by omega)
  rw [e0] at z0
  rw [e1] at z1
  clear e0 e1
  go_wp2_with fail
  refine (hq1 _ hi.bytes b8).mono ?_
  rintro e w1 ⟨m1, rfl, rfl⟩
  clear hq1
  go_wp2
  go_quiet (fail)
  rw [World.drewN_drewN]
  obtain ⟨q1, hq1⟩ : ∃ q, m1 + nq = q := ⟨_, rfl⟩
  rw [hq1]
  clear hq1
  have L10 : ¬ (L : Int) < 10 := by omega
  have i0 : (0 : Int) < (L : Int) := by omega
  have i1 : (1 : Int) < (L : Int) := by omega
  have L10' : decide ((L : Int) < 10) = false := decide_eq_false L10
  go_wp2
  go_quiet (fail)
  rw [World.drewN_drewN]
  obtain ⟨q2, hq2⟩ : ∃ q, q1 + nq = q := ⟨_, rfl⟩
  rw [hq2]
  clear hq2
  have hx := HN.out
  have b17 : Bytes w (some ⟨k, 2, none⟩) 8 (fun j => fo (2 + j)) := .inr ⟨k, 2, rfl, fun j hj => hk.cell (by omega)⟩
  have g17 : Bytes w (some ⟨g, 0, none⟩) 8 f1 := (hg.shorter (by omega)).bytes
  have k17 : ∀ x, Calls Ybaf.prog 9 #[.slice (some ⟨k, 2, none⟩) 8 (ck - 2), .slice (some ⟨g, 0, none⟩) 8 cap] (w.drewN (q2 + x)) (fun e w'' => e = .returned (.bool true) ∧ ∃ n, w'' = w.drewN (q2 + n)) := fun x => by
    have h := eq_exact (some ⟨k, 2, none⟩) (some ⟨g, 0, none⟩) 8 (ck - 2) cap (fun j => fo (2 + j)) f1 (w.drewN (q2 + x)) (by omega) b17 g17
    rw [eqB_true (fun j hj => E2.out j hj)] at h
    exact h.mono (fun _ _ h => ⟨h.1, qmore h.2⟩)
  have x1 : ¬ ck = 2 := by omega
  have x2 : IntKind.i64.wrap 2 = 2 := by rw [IntKind.wrap_i64]; omega
  have x3 : IntKind.i64.wrap 10 = 10 := by rw [IntKind.wrap_i64]; omega
  have x4 : (10 : Int) ≤ (ck : Int) := by omega
  have x5 : (8 : Int) ≤ (cap : Int) := by omega
  obtain ⟨fr, hfr⟩ : ∃ fr, fr = R * 4 := ⟨_, rfl⟩
  obtain ⟨lo, hlo⟩ : ∃ lo, lo = 8 + R * 4 - m := ⟨_, rfl⟩
  obtain ⟨p1, hp1⟩ := cut_at g cap lo
  obtain ⟨p2, hp2⟩ := cut_at k ck 10
  obtain ⟨p3, hp3⟩ := cut_at g cap 8
  obtain ⟨p4, hp4⟩ := cut_at h n 8
  have c1 : Bytes w (some ⟨g, p1, none⟩) m (fun j => f1 (lo + j)) := by rw [← hp1]; exact bytes_cut hg hnc (by omega)
  have c2 : Bytes w (some ⟨k, p2, none⟩) m (fun j => fo (10 + j)) := by rw [← hp2]; exact bytes_cut hk hLc (by omega)
  have c3 : Bytes w (some ⟨g, p3, none⟩) (lo - 8) (fun j => f1 (8 + j)) := by rw [← hp3]; exact bytes_cut hg hnc (by omega)
  have c4 : Bytes w (some ⟨h, p4, none⟩) (lo - 8) (fun j => f (8 + j)) := by rw [← hp4]; exact bytes_cut hh (Nat.le_refl _) (by omega)
  have k23a : ∀ X, Bytes X (some ⟨g, p1, none⟩) m (fun j => f1 (lo + j)) → Bytes X (some ⟨k, p2, none⟩) m (fun j => fo (10 + j)) → Calls Ybaf.prog 9 #[.slice (some ⟨g, p1, none⟩) m (cap - lo), .slice (some ⟨k, p2, none⟩) m (ck - 10)] X (fun e w'' => e = .returned (.bool true) ∧ ∃ q, w'' = X.drewN q) := fun X h1 h2 => by
    have h := eq_exact (some ⟨g, p1, none⟩) (some ⟨k, p2, none⟩) m (cap - lo) (ck - 10) (fun j => f1 (lo + j)) (fun j => fo (10 + j)) X (by omega) h1 h2
    rw [eqB_true (fun j hj => by rw [hlo]; exact E3.out j hj)] at h
    exact h
  have k23b : ∀ X, Bytes X (some ⟨g, p3, none⟩) (lo - 8) (fun j => f1 (8 + j)) → Bytes X (some ⟨h, p4, none⟩) (lo - 8) (fun j => f (8 + j)) → Calls Ybaf.prog 9 #[.slice (some ⟨g, p3, none⟩) (lo - 8) (cap - 8), .slice (some ⟨h, p4, none⟩) (lo - 8) (n - 8)] X (fun e w'' => e = .returned (.bool true) ∧ ∃ q, w'' = X.drewN q) := fun X h1 h2 => by
    have h := eq_exact (some ⟨g, p3, none⟩) (some ⟨h, p4, none⟩) (lo - 8) (cap - 8) (n - 8) (fun j => f1 (8 + j)) (fun j => f (8 + j)) X (by omega) h1 h2
    rw [eqB_true (fun j hj => E4.out (8 + j) (by omega) (by omega))] at h
    exact h
  have y1 : (L : Int) - 10 = (m : Int) := by omega
  have y2 : (n : Int) - 8 = (fr : Int) := by omega
  have y3 : ¬ (fr : Int) < (m : Int) := by omega
  have y4 : ((m : Int) % 4 != 0) = false := by simp; omega
  have y5 : IntKind.i64.wrap (8 + (fr : Int)) = 8 + (fr : Int) := IntWalk.i64_in _ (by omega)
  have y6 : IntKind.i64.wrap (8 + (fr : Int) - (m : Int)) = (lo : Int) := by rw [show 8 + (fr : Int) - (m : Int) = (lo : Int) by omega]; exact IntWalk.i64_in _ (by omega)
  have y7 : (0 : Int) ≤ (lo : Int) := by omega
  have y8' : (lo : Int) ≤ (n : Int) := by omega
  have y9 : n - lo = m := by omega
  have y10 : L - 10 = m := by omega
  have y11 : (10 : Int) ≤ (L : Int) := by omega
  have y12 : (8 : Int) ≤ (lo : Int) := by omega
  have y13 : (lo : Int) ≤ (cap : Int) := by omega
  clear hx hfr hlo HN E2 E3 E4 hL10 L10
  go_wp2
  go_quiet ((go_at_call 9; with_reducible exact k17 _))
  rw [World.drewN_drewN]
  obtain ⟨q3, hq3⟩ : ∃ q, q2 + nq = q := ⟨_, rfl⟩
  rw [hq3]
  clear hq3 k17
  have ka : ∀ x, Calls Ybaf.prog 9 #[.slice (some ⟨g, p1, none⟩) m (cap - lo), .slice (some ⟨k, p2, none⟩) m (ck - 10)] (w.drewN (q3 + x)) (fun e w'' => e = .returned (.bool true) ∧ ∃ n, w'' = w.drewN (q3 + n)) := fun x => (k23a (w.drewN (q3 + x)) c1 c2).mono (fun _ _ h => ⟨h.1, qmore h.2⟩)
  have kb : ∀ x, Calls Ybaf.prog 9 #[.slice (some ⟨g, p3, none⟩) (lo - 8) (cap - 8), .slice (some ⟨h, p4, none⟩) (lo - 8) (n - 8)] (w.drewN (q3 + x)) (fun e w'' => e = .returned (.bool true) ∧ ∃ n, w'' = w.drewN (q3 + n)) := fun x => (k23b (w.drewN (q3 + x)) c3 c4).mono (fun _ _ h => ⟨h.1, qmore h.2⟩)
  clear k23a k23b
  go_wp2
  go_quiet ((go_at_call 9; with_reducible first | exact ka _ | exact kb _))
  go_wp2
  go_ret
  exact ⟨rfl, (hB.trans (below_drewN _ _ _)).trans (below_drewN _ _ _)⟩
end Go.Proofs.YbulkdlqeFmt
