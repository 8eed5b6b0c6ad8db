/-
  LawS5633APush between the data and Push.
-/
import Derived.Test.YbulkdlqeFmtCa
import Derived.Test.YbulkdlqeFmtAa
namespace Go.Proofs.YbulkdlqeFmt
open Go.RowKit Go.Shelf Go.Extern.Stop Go.Stop Go.Extern
set_option linter.unusedVariables false

def ptail7 (b : Option Code) : Code := (b.bind (fromReg 7)).getD .skip

theorem scan_at_end (snap : Bool) (n0 : Nat) (f : Nat → Nat) (L : Nat) : scan snap n0 f L L = 9 := scan_end _ _ _ _ _ (by omega)
theorem code0 {n : Nat} {f : Nat → Nat} (hnR : n = 8 + hRm f * 4) (hN : hNl f = asz (hTt f) / 4) : tcode 0 n f = 9 := by
  unfold tcode hStart
  rw [if_neg (by omega), if_pos rfl, ← hnR, if_neg (by omega)]
  exact scan_at_end _ _ _ _
theorem code1 {f : Nat → Nat} (hN : hNl f = asz (hTt f) / 4) : tcode 1 8 f = 9 := by
  unfold tcode hStart
  rw [if_neg (by omega), if_neg (by omega : ¬ (1 : Nat) = 0), if_neg (by omega)]
  exact scan_at_end _ _ _ _
theorem dcells {w : World} {B : Nat} {a b : Value} (h : w.heap[B]? = some (.cells #[a, b] 34 (0, 0))) : w.cell? ⟨B, 0, none⟩ = some a ∧ w.cell? ⟨B, 1, none⟩ = some b := by
  refine ⟨?_, ?_⟩ <;> rw [cell_of_row w B _ _ 34 (0, 0) h] <;> rfl
/-- The law's argument: the cells that are read. -/
theorem jcells {w : World} {B : Nat} {a0 a1 a2 a3 a4 a5 a6 a7 a8 a9 a10 a11 : Value} (h : w.heap[B]? = some (.cells #[a0, a1, a2, a3, a4, a5, a6, a7, a8, a9, a10, a11] 46 (0, 0))) :
    w.cell? ⟨B, 0, none⟩ = some a0 ∧ w.cell? ⟨B, 1, none⟩ = some a1 ∧ w.cell? ⟨B, 2, none⟩ = some a2 ∧ w.cell? ⟨B, 3, none⟩ = some a3 ∧ w.cell? ⟨B, 4, none⟩ = some a4 ∧ w.cell? ⟨B, 5, none⟩ = some a5 ∧ w.cell? ⟨B, 6, none⟩ = some a6 ∧ w.cell? ⟨B, 7, none⟩ = some a7 ∧ w.cell? ⟨B, 8, none⟩ = some a8 ∧ w.cell? ⟨B, 9, none⟩ = some a9 ∧ w.cell? ⟨B, 10, none⟩ = some a10 ∧ w.cell? ⟨B, 11, none⟩ = some a11 := by
  refine ⟨?_, ?_, ?_, ?_, ?_, ?_, ?_, ?_, ?_, ?_, ?_, ?_⟩ <;> rw [cell_of_row w B _ _ 46 (0, 0) h] <;> rfl
theorem hdrAt (o nl fl rm : Nat) (f : Nat → Nat) (i : Nat) : hdrF o nl fl rm f i = if i = o + 3 then fl % 2 * 128 + rm else if i = o + 2 then nl * 8 + fl / 2 else f i := rfl
/-- The two headers, side by side. -/
theorem hdr_both (nl fl rm rs : Nat) (F F2 : Nat → Nat) (hF : ∀ j, j < 8 → j ≠ 2 → j ≠ 3 → F2 (2 + j) = F j) (j : Nat) (hj : j < 8) : hdrF 2 nl fl rm F2 (2 + j) = hdrF 0 nl fl rm F j := by
  rw [hdrAt, hdrAt]
  by_cases h3 : j = 3
  · rw [if_pos (by omega), if_pos (by omega)]
  · by_cases h2 : j = 2
    · rw [if_neg (by omega), if_pos (by omega), if_neg (by omega), if_pos (by omega)]
    · rw [if_neg (by omega), if_neg (by omega), if_neg (by omega), if_neg (by omega)]
      exact hF j hj h2 h3
theorem pre0 (rs : Nat) (f : Nat → Nat) : preF rs f 0 = rs := by simp [preF]
theorem pre1 (rs : Nat) (f : Nat → Nat) : preF rs f 1 = 1 := by simp [preF]
theorem preS (rs : Nat) (f : Nat → Nat) (j : Nat) : preF rs f (2 + j) = f j := by
  unfold preF
  rw [if_neg (by omega), show 2 + j - 2 = j by omega]
theorem hdrLow (o nl fl rm : Nat) (f : Nat → Nat) {i : Nat} (h : i < o + 2) : hdrF o nl fl rm f i = f i := by
  rw [hdrAt, if_neg (by omega), if_neg (by omega)]
theorem hdrHigh (o nl fl rm : Nat) (f : Nat → Nat) {i : Nat} (h : o + 4 ≤ i) : hdrF o nl fl rm f i = f i := by
  rw [hdrAt, if_neg (by omega), if_neg (by omega)]
theorem room_lt (rs : Nat) (f : Nat → Nat) {i : Nat} (h : i < 10) : roomF rs f i = preF rs f i := by
  unfold roomF
  rw [if_pos h]

theorem DataAt.but {w w' : World} {B g : Nat} {mv : Value} {sp : Option Addr} {lk : ByteArray → Nat × Bool} {sch dl : Nat} {ad : Option Addr} {dc : Nat} {df : Nat → Nat} (h : DataAt w B mv sp lk sch dl ad dc df) (hb : But w.heap.size g w w') (hg : g < B) : DataAt w' B mv sp lk sch dl ad dc df :=
  ⟨h.lkok, h.map.keep (fun b e => hb.block b (h.mapB b e).2 (by have := (h.mapB b e).1; omega)), fun b e => ⟨(h.mapB b e).1, Nat.lt_of_lt_of_le (h.mapB b e).2 hb.size⟩, h.snap.but hb (Nat.le_refl _) (fun a e => by have := h.snapB a e; omega), h.snapB, h.bytes.but' hb (Nat.le_refl _) (fun a e => by have := h.bytesB a e; omega), h.bytesB⟩

set_option maxRecDepth 1000000 in
set_option maxHeartbeats 1000000 in
theorem pmid_bad (I : Interp) (F fo c : Nat) (ea : Nat → Addr) (tt0 rm0 fl0 ns b7 rs nf cf sch0 nd cd nk ck nv cv : Nat) (af as_ ak av : Option Addr) (us : Bool) (w X : World) (g h i b n cap sch dl dc B : Nat) (f df : Nat → Nat) (lk : ByteArray → Nat × Bool) (ob : Option Nat) (sp ad : Option Addr) (hI : I.answers X.tape) (hE : Env X F fo c ea)
    (hin : X.heap[w.heap.size]? = some (.cells #[.int .u32 tt0, .int .u8 rm0, .int .u8 fl0, .int .u16 ns, .int .u8 b7, .int .u8 rs, .slice af nf cf, .bool us, .int .u32 sch0, .slice as_ nd cd, .slice ak nk ck, .slice av nv cv] 46 (0, 0))) (hd : X.heap[b]? = some (.cells #[.map ob, .pointer sp] 34 (0, 0))) (hD : DataAt X B (.map ob) sp lk sch dl ad dc df) (hadl : ∀ a, ad = some a → a.block < X.heap.size) (hspl : ∀ a, sp = some a → a.block < X.heap.size) (hdl : dl ≤ 65536)
    (hg : Row X g n f) (hh : Row X h n f) (hi : Row X i 8 f) (hgh : g ≠ h) (hgi : g ≠ i) (hgb : g ≠ b) (hgB : g < B) (hwg : w.heap.size < g) (hF : F < g) (h6 : 6 < g) (hnc : n ≤ cap) (hcm : cap ≤ 9223372036854775807) (hnR : n = 8 + hRm f * 4) (hf : ∀ j, f j < 256) (hN : hNl f = asz (hTt f) / 4) (hB : Below w.heap.size w X) (hs : bt (hTt f) 22 = true) (hbad : ¬ SnOk sch dl) (u0 u2 u7 u8 u9 u10 u11 u12 u13 u14 u15 u16 u17 u18 u19 u20 u21 u22 u23 u24 u25 u26 u27 u28 u29 u30 u31 u32 u33 u34 u35 u36 u37 u38 u39 u40 u41 u42 u43 u44 u45 u46 u47 u48 u49 u50 u51 u52 u53 u54 u55 u56 u57 u58 u59 u60 u61 u62 u63 u64 u65 u66 u67 u68 u69 u70 u71 u72 u73 u74 u75 u76 u77 u78 u79 u80 u81 u82 u83 u84 u85 u86 u87 u88 u89 u90 u91 u92 u93 u94 u95 u96 u97 u98 u99 u100 u101 u102 u103 u104 u105 u106 u107 u108 u109 u110 u111 u112 u113 u114 u115 u116 u117 u118 u119 u120 u121 u122 u123 u124 u125 u126 u127 u128 u129 u130 u131 u132 u133 u134 u135 u136 u137 u138 u139 u140 u141 u142 u143 : Value) :
    Code.wp Ybaf.prog (ptail7 Ybaf.f4.body) (bodyPost Ybaf.prog Ybaf.f4 (LawPost w)) ⟨#[u0, .pointer (some ⟨w.heap.size, 0, none⟩), u2, .slice (some ⟨g, 0, none⟩) n cap, .slice (some ⟨h, 0, none⟩) n n, .slice (some ⟨i, 0, none⟩) 8 8, .pointer (some ⟨b, 0, none⟩), u7, u8, u9, u10, u11, u12, u13, u14, u15, u16, u17, u18, u19, u20, u21, u22, u23, u24, u25, u26, u27, u28, u29, u30, u31, u32, u33, u34, u35, u36, u37, u38, u39, u40, u41, u42, u43, u44, u45, u46, u47, u48, u49, u50, u51, u52, u53, u54, u55, u56, u57, u58, u59, u60, u61, u62, u63, u64, u65, u66, u67, u68, u69, u70, u71, u72, u73, u74, u75, u76, u77, u78, u79, u80, u81, u82, u83, u84, u85, u86, u87, u88, u89, u90, u91, u92, u93, u94, u95, u96, u97, u98, u99, u100, u101, u102, u103, u104, u105, u106, u107, u108, u109, u110, u111, u112, u113, u114, u115, u116, u117, u118, u119, u120, u121, u122, u123, u124, u125, u126, u127, u128, u129, u130, u131, u132, u133, u134, u135, u136, u137, u138, u139, u140, u141, u142, u143], []⟩ X := by
  conv => arg 2; whnf
  have h9 := code0 hnR hN
  have h91 := code1 hN
  have hr7 := hRm_lt f
  obtain ⟨j0, j1, j2, j3, j4, j5, _, _, _, _, _, _⟩ := jcells hin
  obtain ⟨d0, d1⟩ := dcells hd
  have hF1 := fill_bad I ns 0 F fo c g n cap sch dl dc ad f ea (.map ob) sp X hI hE (by omega) hg hf hnc hcm (by omega) h9 hs hD.snap (by omega) hbad
  have hP : ∀ Y : World, I.answers Y.tape → Env Y F fo c ea → Row Y i 8 f → SnapAt Y sp sch dl ad dc → _ := fun Y a1 a2 a3 a4 => push_bad I ns rs F fo c i sch dl dc ad f ea (.map ob) sp Y a1 a2 a3 hf h91 hs a4 (by omega) hbad
  have HN : Hid (8 ≤ n ∧ n ≤ 2000) := ⟨by omega, by omega⟩
  have hDs := hD.snap
  clear hnR hN hf hcm hdl hs hbad h9 h91 hr7 hD hadl hspl
  go_wp2_with fail
  refine hF1.mono ?_
  rintro e w1 ⟨pe, rfl, hb1⟩
  clear hF1
  have hin1 := (hb1.block w.heap.size (World.block_lt_of_cell? X _ j0)).trans hin
  have hd1 := (hb1.block b (World.block_lt_of_cell? X _ d0)).trans hd
  clear j0 j1 j2 j3 j4 j5 d0 d1
  obtain ⟨j0, j1, j2, j3, j4, j5, _, _, _, _, _, _⟩ := jcells hin1
  obtain ⟨d0, d1⟩ := dcells hd1
  have hP1 := hP w1 ((congrArg I.answers hb1.tape).mpr hI) (hE.below hb1 (Nat.le_refl _)) (hi.below hb1 hi.lt) (hDs.below hb1 (Nat.le_refl _))
  clear hP
  go_upto_region 8 with fail
  go_cut [8, 9] (fun v8 v9 wx => ∃ pf, v9 = .iface 65 (.pointer (some pf)) ∧ Below w1.heap.size w1 wx)
  case first =>
    go_wp2_with fail
    refine hP1.mono ?_
    rintro e w2 ⟨⟨pf, rfl⟩, hb2⟩
    go_wp2
    go_meet
    exact ⟨pf, rfl, hb2⟩
  case rest =>
    obtain ⟨pf, rfl, hb2⟩ := hcut
    rename_i K hK
    refine hK _ _ ?_
    have hbx := hb1.trans (hb2.mono hb1.size)
    exact ptail_err w wc g h i n cap f pe pf HN.out.1 HN.out.2 (hg.below hbx hg.lt) (hh.below hbx hh.lt) (hi.below hbx hi.lt) (hB.trans (hbx.mono hB.size)) _ _ _ _ _ _ _ _ _ _ _ _ _ _ _ _ _ _ _ _ _ _ _ _ _ _ _ _ _ _ _ _ _ _ _ _ _ _ _ _ _ _ _ _ _ _ _ _ _ _ _ _ _ _ _ _ _ _ _ _ _ _ _ _ _ _ _ _ _ _ _ _ _ _ _ _ _ _ _ _ _ _ _ _ _ _ _ _ _ _ _ _ _ _ _ _ _ _ _ _ _ _ _ _ _ _ _ _ _ _ _ _ _ _ _ _ _ _ _ _ _ _ _ _ _ _ _ _ _ _ _ _ _ _ _ _ _ _
set_option maxRecDepth 1000000 in
set_option maxHeartbeats 1000000 in
theorem pmid_over (I : Interp) (F fo c : Nat) (ea : Nat → Addr) (tt0 rm0 fl0 ns b7 rs nf cf sch0 nd cd nk ck nv cv : Nat) (af as_ ak av : Option Addr) (us : Bool) (w X : World) (g h i b n cap sch dl dc B : Nat) (f df : Nat → Nat) (lk : ByteArray → Nat × Bool) (ob : Option Nat) (sp ad : Option Addr) (hI : I.answers X.tape) (hE : Env X F fo c ea)
    (hin : X.heap[w.heap.size]? = some (.cells #[.int .u32 tt0, .int .u8 rm0, .int .u8 fl0, .int .u16 ns, .int .u8 b7, .int .u8 rs, .slice af nf cf, .bool us, .int .u32 sch0, .slice as_ nd cd, .slice ak nk ck, .slice av nv cv] 46 (0, 0))) (hd : X.heap[b]? = some (.cells #[.map ob, .pointer sp] 34 (0, 0))) (hD : DataAt X B (.map ob) sp lk sch dl ad dc df) (hadl : ∀ a, ad = some a → a.block < X.heap.size) (hspl : ∀ a, sp = some a → a.block < X.heap.size) (hdl : dl ≤ 65536)
    (hg : Row X g n f) (hh : Row X h n f) (hi : Row X i 8 f) (hgh : g ≠ h) (hgi : g ≠ i) (hgb : g ≠ b) (hgB : g < B) (hwg : w.heap.size < g) (hF : F < g) (h6 : 6 < g) (hnc : n ≤ cap) (hcm : cap ≤ 9223372036854775807) (hnR : n = 8 + hRm f * 4) (hf : ∀ j, f j < 256) (hN : hNl f = asz (hTt f) / 4) (hB : Below w.heap.size w X) (hok : bt (hTt f) 22 = true → SnOk sch dl) (hov : hRm f * 4 < elen (hNl f) (hTt f) dl) (u0 u2 u7 u8 u9 u10 u11 u12 u13 u14 u15 u16 u17 u18 u19 u20 u21 u22 u23 u24 u25 u26 u27 u28 u29 u30 u31 u32 u33 u34 u35 u36 u37 u38 u39 u40 u41 u42 u43 u44 u45 u46 u47 u48 u49 u50 u51 u52 u53 u54 u55 u56 u57 u58 u59 u60 u61 u62 u63 u64 u65 u66 u67 u68 u69 u70 u71 u72 u73 u74 u75 u76 u77 u78 u79 u80 u81 u82 u83 u84 u85 u86 u87 u88 u89 u90 u91 u92 u93 u94 u95 u96 u97 u98 u99 u100 u101 u102 u103 u104 u105 u106 u107 u108 u109 u110 u111 u112 u113 u114 u115 u116 u117 u118 u119 u120 u121 u122 u123 u124 u125 u126 u127 u128 u129 u130 u131 u132 u133 u134 u135 u136 u137 u138 u139 u140 u141 u142 u143 : Value) :
    Code.wp Ybaf.prog (ptail7 Ybaf.f4.body) (bodyPost Ybaf.prog Ybaf.f4 (LawPost w)) ⟨#[u0, .pointer (some ⟨w.heap.size, 0, none⟩), u2, .slice (some ⟨g, 0, none⟩) n cap, .slice (some ⟨h, 0, none⟩) n n, .slice (some ⟨i, 0, none⟩) 8 8, .pointer (some ⟨b, 0, none⟩), u7, u8, u9, u10, u11, u12, u13, u14, u15, u16, u17, u18, u19, u20, u21, u22, u23, u24, u25, u26, u27, u28, u29, u30, u31, u32, u33, u34, u35, u36, u37, u38, u39, u40, u41, u42, u43, u44, u45, u46, u47, u48, u49, u50, u51, u52, u53, u54, u55, u56, u57, u58, u59, u60, u61, u62, u63, u64, u65, u66, u67, u68, u69, u70, u71, u72, u73, u74, u75, u76, u77, u78, u79, u80, u81, u82, u83, u84, u85, u86, u87, u88, u89, u90, u91, u92, u93, u94, u95, u96, u97, u98, u99, u100, u101, u102, u103, u104, u105, u106, u107, u108, u109, u110, u111, u112, u113, u114, u115, u116, u117, u118, u119, u120, u121, u122, u123, u124, u125, u126, u127, u128, u129, u130, u131, u132, u133, u134, u135, u136, u137, u138, u139, u140, u141, u142, u143], []⟩ X := by
  conv => arg 2; whnf
  have h9 := code0 hnR hN
  have h91 := code1 hN
  have hr7 := hRm_lt f
  obtain ⟨j0, j1, j2, j3, j4, j5, _, _, _, _, _, _⟩ := jcells hin
  obtain ⟨d0, d1⟩ := dcells hd
  have hF1 := fill_over ns 0 F fo c g n cap sch dl dc ad f ea (.map ob) sp X hE (by omega) hg hf hnc hcm (by omega) h9 hD.snap hok hov
  have hroom : elen (hNl f) (hTt f) dl ≤ 1048576 := by
    have h1 := hNl_lt hf
    unfold elen
    cases hb : bt (hTt f) 22 with
    | true => have := (hok hb).2.2; simp only [if_true]; omega
    | false => simp only [Bool.false_eq_true, if_false]; omega
  have hP : ∀ Y : World, Env Y F fo c ea → Row Y i 8 f → SnapAt Y sp sch dl ad dc → _ := fun Y a2 a3 a4 => push_over ns rs F fo c i sch dl dc ad f ea (.map ob) sp Y a2 a3 hf h91 a4 hok hov hroom
  obtain ⟨f1, hf1⟩ : ∃ f1, hdrF 0 (hNl f) (hFl f ||| 8) (hRm f) f = f1 := ⟨_, rfl⟩
  obtain ⟨fo', hfo⟩ : ∃ fo, hdrF 2 (hNl f) (hFl f ||| 8) (hRm f) (preF rs f) = fo := ⟨_, rfl⟩
  rw [hf1] at hF1
  rw [hfo] at hP
  obtain ⟨R, hRR⟩ : ∃ R, hRm f = R := ⟨_, rfl⟩
  rw [hRR] at hnR
  have HN : Hid (n = 8 + R * 4) := hnR
  have hR127 : R ≤ 127 := by omega
  have E0 : Hid (fo' 0 = rs) := by show _ = _; rw [← hfo, hdrLow _ _ _ _ _ (by omega), pre0]
  have E1 : Hid (fo' 1 = 1) := by show _ = _; rw [← hfo, hdrLow _ _ _ _ _ (by omega), pre1]
  have E2 : Hid (∀ j, j < 8 → fo' (2 + j) = f1 j) := fun j hj => by rw [← hfo, ← hf1]; exact hdr_both _ _ _ rs _ _ (fun j _ _ _ => preS rs f j) j hj
  have E3 : Hid (∀ j, j < 0 → f1 (8 + R * 4 - 0 + j) = fo' (10 + j)) := fun j hj => by omega
  have E4 : Hid (∀ j, 8 ≤ j → j < 8 + R * 4 - 0 → f1 j = f j) := fun j h1 h2 => by rw [← hf1]; exact hdrHigh _ _ _ _ _ (by omega)
  have hDs := hD.snap
  have hDB := hD.snapB
  clear hnR hN hf hcm hdl hok hov h9 h91 hr7 hD hadl hspl hroom hRR hf1 hfo
  go_wp2_with fail
  refine hF1.mono ?_
  rintro e w1 ⟨rfl, hR1, hb1⟩
  clear hF1
  have hin1 := (hb1.block w.heap.size (World.block_lt_of_cell? X _ j0) (by omega)).trans hin
  have hd1 := (hb1.block b (World.block_lt_of_cell? X _ d0) (fun e => hgb e.symm)).trans hd
  have hh1 : Row w1 h n f := hh.block (hb1.block h hh.lt (fun e => hgh e.symm))
  have hi1 : Row w1 i 8 f := hi.block (hb1.block i hi.lt (fun e => hgi e.symm))
  have hE1 := hE.but hb1 (Nat.le_refl _) h6 (by omega)
  have hlt1 : w.heap.size < w1.heap.size := Nat.lt_of_lt_of_le (World.block_lt_of_cell? X _ j0) hb1.size
  clear j0 j1 j2 j3 j4 j5 d0 d1
  obtain ⟨j0, j1, j2, j3, j4, j5, _, _, _, _, _, _⟩ := jcells hin1
  obtain ⟨d0, d1⟩ := dcells hd1
  have hP1 := hP w1 hE1 hi1 (hDs.but hb1 (Nat.le_refl _) (fun a e => by have := hDB a e; omega))
  clear hP
  go_upto_region 8 with fail
  go_cut [8, 9] (fun v8 v9 wx => v9 = .nilIface ∧ ∃ k ck, v8 = .slice (some ⟨k, 0, none⟩) 10 ck ∧ 10 ≤ ck ∧ w1.heap.size ≤ k ∧ Row wx k 10 fo' ∧ Below w1.heap.size w1 wx)
  case first =>
    go_wp2_with fail
    refine hP1.mono ?_
    rintro e w2 ⟨⟨k, ck', rfl, hk1, hk2, hk3⟩, hb2⟩
    go_wp2
    go_meet
    exact ⟨rfl, k, ck', rfl, hk2, hk1, hk3, hb2⟩
  case rest =>
    obtain ⟨rfl, k, ck', rfl, hk2, hk1, hk3, hb2⟩ := hcut
    rename_i K hK
    refine hK _ _ ?_
    have hbx : Below w.heap.size w wc := (((Below.but hB g).trans (hb1.mono hB.size)).below (Nat.le_of_lt hwg)).trans (hb2.mono (Nat.le_of_lt hlt1))
    have hrs : wc.cell? ⟨w.heap.size, 5, none⟩ = some (.int .u8 (rs : Int)) := (hb2.cell (p := ⟨w.heap.size, 5, none⟩) hlt1).trans j5
    exact ptail_nil w wc g h i k n cap 10 ck' rs R 0 f f1 fo' hR127 HN.out (rfl) (Nat.zero_le _) rfl hnc hk2 (hR1.below hb2 hR1.lt) (hh1.below hb2 hh1.lt) (hi1.below hb2 hi1.lt) hk3 hrs E0.out E1.out E2.out E3.out E4.out hbx _ _ _ _ _ _ _ _ _ _ _ _ _ _ _ _ _ _ _ _ _ _ _ _ _ _ _ _ _ _ _ _ _ _ _ _ _ _ _ _ _ _ _ _ _ _ _ _ _ _ _ _ _ _ _ _ _ _ _ _ _ _ _ _ _ _ _ _ _ _ _ _ _ _ _ _ _ _ _ _ _ _ _ _ _ _ _ _ _ _ _ _ _ _ _ _ _ _ _ _ _ _ _ _ _ _ _ _ _ _ _ _ _ _ _ _ _ _ _ _ _ _ _ _ _ _ _ _ _ _ _ _ _ _ _ _ _
set_option maxRecDepth 1000000 in
set_option maxHeartbeats 1000000 in
theorem pmid_wrote (I : Interp) (F fo c : Nat) (ea : Nat → Addr) (tt0 rm0 fl0 ns b7 rs nf cf sch0 nd cd nk ck nv cv : Nat) (af as_ ak av : Option Addr) (us : Bool) (w X : World) (g h i b n cap sch dl dc B : Nat) (f df : Nat → Nat) (lk : ByteArray → Nat × Bool) (ob : Option Nat) (sp ad : Option Addr) (hI : I.answers X.tape) (hE : Env X F fo c ea)
    (hin : X.heap[w.heap.size]? = some (.cells #[.int .u32 tt0, .int .u8 rm0, .int .u8 fl0, .int .u16 ns, .int .u8 b7, .int .u8 rs, .slice af nf cf, .bool us, .int .u32 sch0, .slice as_ nd cd, .slice ak nk ck, .slice av nv cv] 46 (0, 0))) (hd : X.heap[b]? = some (.cells #[.map ob, .pointer sp] 34 (0, 0))) (hD : DataAt X B (.map ob) sp lk sch dl ad dc df) (hadl : ∀ a, ad = some a → a.block < X.heap.size) (hspl : ∀ a, sp = some a → a.block < X.heap.size) (hdl : dl ≤ 65536)
    (hg : Row X g n f) (hh : Row X h n f) (hi : Row X i 8 f) (hgh : g ≠ h) (hgi : g ≠ i) (hgb : g ≠ b) (hgB : g < B) (hwg : w.heap.size < g) (hF : F < g) (h6 : 6 < g) (hnc : n ≤ cap) (hcm : cap ≤ 9223372036854775807) (hnR : n = 8 + hRm f * 4) (hf : ∀ j, f j < 256) (hN : hNl f = asz (hTt f) / 4) (hB : Below w.heap.size w X) (hok : bt (hTt f) 22 = true → SnOk sch dl) (hle : elen (hNl f) (hTt f) dl ≤ hRm f * 4) (u0 u2 u7 u8 u9 u10 u11 u12 u13 u14 u15 u16 u17 u18 u19 u20 u21 u22 u23 u24 u25 u26 u27 u28 u29 u30 u31 u32 u33 u34 u35 u36 u37 u38 u39 u40 u41 u42 u43 u44 u45 u46 u47 u48 u49 u50 u51 u52 u53 u54 u55 u56 u57 u58 u59 u60 u61 u62 u63 u64 u65 u66 u67 u68 u69 u70 u71 u72 u73 u74 u75 u76 u77 u78 u79 u80 u81 u82 u83 u84 u85 u86 u87 u88 u89 u90 u91 u92 u93 u94 u95 u96 u97 u98 u99 u100 u101 u102 u103 u104 u105 u106 u107 u108 u109 u110 u111 u112 u113 u114 u115 u116 u117 u118 u119 u120 u121 u122 u123 u124 u125 u126 u127 u128 u129 u130 u131 u132 u133 u134 u135 u136 u137 u138 u139 u140 u141 u142 u143 : Value) :
    Code.wp Ybaf.prog (ptail7 Ybaf.f4.body) (bodyPost Ybaf.prog Ybaf.f4 (LawPost w)) ⟨#[u0, .pointer (some ⟨w.heap.size, 0, none⟩), u2, .slice (some ⟨g, 0, none⟩) n cap, .slice (some ⟨h, 0, none⟩) n n, .slice (some ⟨i, 0, none⟩) 8 8, .pointer (some ⟨b, 0, none⟩), u7, u8, u9, u10, u11, u12, u13, u14, u15, u16, u17, u18, u19, u20, u21, u22, u23, u24, u25, u26, u27, u28, u29, u30, u31, u32, u33, u34, u35, u36, u37, u38, u39, u40, u41, u42, u43, u44, u45, u46, u47, u48, u49, u50, u51, u52, u53, u54, u55, u56, u57, u58, u59, u60, u61, u62, u63, u64, u65, u66, u67, u68, u69, u70, u71, u72, u73, u74, u75, u76, u77, u78, u79, u80, u81, u82, u83, u84, u85, u86, u87, u88, u89, u90, u91, u92, u93, u94, u95, u96, u97, u98, u99, u100, u101, u102, u103, u104, u105, u106, u107, u108, u109, u110, u111, u112, u113, u114, u115, u116, u117, u118, u119, u120, u121, u122, u123, u124, u125, u126, u127, u128, u129, u130, u131, u132, u133, u134, u135, u136, u137, u138, u139, u140, u141, u142, u143], []⟩ X := by
  conv => arg 2; whnf
  have h9 := code0 hnR hN
  have h91 := code1 hN
  have hr7 := hRm_lt f
  obtain ⟨j0, j1, j2, j3, j4, j5, _, _, _, _, _, _⟩ := jcells hin
  obtain ⟨d0, d1⟩ := dcells hd
  have h4 := (code9 h9).1
  obtain ⟨m4, mle⟩ := elen_mod (nl := hNl f) hok
  have hF1 := fill_wrote ns 0 F fo c g n cap sch dl dc ad f df lk ea (.map ob) sp B X hE (by omega) hg hf hnc hcm (by omega) h9 hD hgB hok hle h6 (by omega)
  have hP : ∀ Y : World, Env Y F fo c ea → Row Y i 8 f → DataAt Y B (.map ob) sp lk sch dl ad dc df → (∀ a, ad = some a → a.block < Y.heap.size) → (∀ a, sp = some a → a.block < Y.heap.size) → _ := fun Y a2 a3 a4 a5 a6 => push_wrote ns rs F fo c i sch dl dc ad f df lk ea (.map ob) sp B Y a2 a3 hf h91 a4 hok hle h4 a5 a6
  obtain ⟨m, hm⟩ : ∃ m, elen (hNl f) (hTt f) dl = m := ⟨_, rfl⟩
  obtain ⟨R, hRR⟩ : ∃ R, hRm f = R := ⟨_, rfl⟩
  have hout1 : ∀ j, (j < 8 + R * 4 - m ∨ 8 + R * 4 - m + m ≤ j) → elF (8 + R * 4 - m) (hNl f) (hTt f) sch dl lk df f j = f j := fun j hj => elF_out h4 (by rw [hm]; exact hj)
  have hout2 : ∀ j, j < 10 → elF 10 (hNl f) (hTt f) sch dl lk df (roomF rs f) j = roomF rs f j := fun j hj => elF_out h4 (.inl hj)
  have hin2 : ∀ j, j < m → elF (8 + R * 4 - m) (hNl f) (hTt f) sch dl lk df f (8 + R * 4 - m + j) = elF 10 (hNl f) (hTt f) sch dl lk df (roomF rs f) (10 + j) := fun j hj => by
    rw [elF_in (f' := fun _ => 0) h4 (by rw [hm]; exact hj), elF_in (f' := fun _ => 0) h4 (by rw [hm]; exact hj)]
  rw [hm, hRR] at hF1
  rw [hm, hRR] at hP
  rw [hm, hRR] at hle
  rw [hm] at m4 mle
  rw [hRR] at hnR hr7
  obtain ⟨ge, hge⟩ : ∃ ge, elF (8 + R * 4 - m) (hNl f) (hTt f) sch dl lk df f = ge := ⟨_, rfl⟩
  obtain ⟨go, hgo⟩ : ∃ go, elF 10 (hNl f) (hTt f) sch dl lk df (roomF rs f) = go := ⟨_, rfl⟩
  rw [hge] at hF1 hout1 hin2
  rw [hgo] at hP hout2 hin2
  obtain ⟨f1, hf1⟩ : ∃ f1, hdrF 0 (hNl f) (hFl f) (R - m / 4) ge = f1 := ⟨_, rfl⟩
  obtain ⟨fo', hfo⟩ : ∃ fo, hdrF 2 (hNl f) (hFl f) (R - m / 4) go = fo := ⟨_, rfl⟩
  rw [hf1] at hF1
  rw [hfo] at hP
  have HN : Hid (n = 8 + R * 4) := hnR
  have hR127 : R ≤ 127 := by omega
  have E0 : Hid (fo' 0 = rs) := by show _ = _; rw [← hfo, hdrLow _ _ _ _ _ (by omega), hout2 0 (by omega), room_lt _ _ (by omega), pre0]
  have E1 : Hid (fo' 1 = 1) := by show _ = _; rw [← hfo, hdrLow _ _ _ _ _ (by omega), hout2 1 (by omega), room_lt _ _ (by omega), pre1]
  have E2 : Hid (∀ j, j < 8 → fo' (2 + j) = f1 j) := fun j hj => by
    rw [← hfo, ← hf1]
    exact hdr_both _ _ _ rs _ _ (fun j h1 _ _ => by rw [hout2 (2 + j) (by omega), room_lt _ _ (by omega), preS, hout1 j (by omega)]) j hj
  have E3 : Hid (∀ j, j < m → f1 (8 + R * 4 - m + j) = fo' (10 + j)) := fun j hj => by
    rw [← hfo, ← hf1, hdrHigh _ _ _ _ _ (by omega), hdrHigh _ _ _ _ _ (by omega)]
    exact hin2 j hj
  have E4 : Hid (∀ j, 8 ≤ j → j < 8 + R * 4 - m → f1 j = f j) := fun j h1 h2 => by
    rw [← hf1, hdrHigh _ _ _ _ _ (by omega)]
    exact hout1 j (.inl h2)
  have M4 : Hid (m % 4 = 0) := m4
  have MLE : Hid (m ≤ R * 4) := hle
  clear hnR hN hf hcm hdl hok hle h9 h91 hr7 hRR hf1 hfo hge hgo hout1 hout2 hin2 h4 m4 mle hm
  go_wp2_with fail
  refine hF1.mono ?_
  rintro e w1 ⟨rfl, hR1, hb1⟩
  clear hF1
  have hin1 := (hb1.block w.heap.size (World.block_lt_of_cell? X _ j0) (by omega)).trans hin
  have hd1 := (hb1.block b (World.block_lt_of_cell? X _ d0) (fun e => hgb e.symm)).trans hd
  have hh1 : Row w1 h n f := hh.block (hb1.block h hh.lt (fun e => hgh e.symm))
  have hi1 : Row w1 i 8 f := hi.block (hb1.block i hi.lt (fun e => hgi e.symm))
  have hE1 := hE.but hb1 (Nat.le_refl _) h6 (by omega)
  have hlt1 : w.heap.size < w1.heap.size := Nat.lt_of_lt_of_le (World.block_lt_of_cell? X _ j0) hb1.size
  clear j0 j1 j2 j3 j4 j5 d0 d1
  obtain ⟨j0, j1, j2, j3, j4, j5, _, _, _, _, _, _⟩ := jcells hin1
  obtain ⟨d0, d1⟩ := dcells hd1
  have hP1 := hP w1 hE1 hi1 (hD.but hb1 hgB) (fun a e => Nat.lt_of_lt_of_le (hadl a e) hb1.size) (fun a e => Nat.lt_of_lt_of_le (hspl a e) hb1.size)
  clear hP
  go_upto_region 8 with fail
  go_cut [8, 9] (fun v8 v9 wx => v9 = .nilIface ∧ ∃ k ck, v8 = .slice (some ⟨k, 0, none⟩) (10 + m) ck ∧ (10 + m) ≤ ck ∧ w1.heap.size ≤ k ∧ Row wx k (10 + m) fo' ∧ Below w1.heap.size w1 wx)
  case first =>
    go_wp2_with fail
    refine hP1.mono ?_
    rintro e w2 ⟨⟨k, ck', rfl, hk1, hk2, hk3⟩, hb2⟩
    go_wp2
    go_meet
    exact ⟨rfl, k, ck', rfl, hk2, hk1, hk3, hb2⟩
  case rest =>
    obtain ⟨rfl, k, ck', rfl, hk2, hk1, hk3, hb2⟩ := hcut
    rename_i K hK
    refine hK _ _ ?_
    have hbx : Below w.heap.size w wc := (((Below.but hB g).trans (hb1.mono hB.size)).below (Nat.le_of_lt hwg)).trans (hb2.mono (Nat.le_of_lt hlt1))
    have hrs : wc.cell? ⟨w.heap.size, 5, none⟩ = some (.int .u8 (rs : Int)) := (hb2.cell (p := ⟨w.heap.size, 5, none⟩) hlt1).trans j5
    exact ptail_nil w wc g h i k n cap (10 + m) ck' rs R m f f1 fo' hR127 HN.out (rfl) MLE.out M4.out hnc hk2 (hR1.below hb2 hR1.lt) (hh1.below hb2 hh1.lt) (hi1.below hb2 hi1.lt) hk3 hrs E0.out E1.out E2.out E3.out E4.out hbx _ _ _ _ _ _ _ _ _ _ _ _ _ _ _ _ _ _ _ _ _ _ _ _ _ _ _ _ _ _ _ _ _ _ _ _ _ _ _ _ _ _ _ _ _ _ _ _ _ _ _ _ _ _ _ _ _ _ _ _ _ _ _ _ _ _ _ _ _ _ _ _ _ _ _ _ _ _ _ _ _ _ _ _ _ _ _ _ _ _ _ _ _ _ _ _ _ _ _ _ _ _ _ _ _ _ _ _ _ _ _ _ _ _ _ _ _ _ _ _ _ _ _ _ _ _ _ _ _ _ _ _ _ _ _ _ _
end Go.Proofs.YbulkdlqeFmt
