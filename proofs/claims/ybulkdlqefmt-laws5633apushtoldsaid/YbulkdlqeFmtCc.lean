/-
  LawS5633APush: the law returns true.
-/
import Derived.Test.YbulkdlqeFmtCb
import Derived.Test.YbulkdlqeFmtCx
namespace Go.Proofs.YbulkdlqeFmt
open Go.RowKit Go.Shelf Go.Extern.Stop Go.Stop Go.Extern

set_option maxRecDepth 100000 in
set_option maxHeartbeats 2000000 in
theorem apush_big (tt rm fl ns b7 rs nf cf sch0 nd cd nk ck nv cv : Nat) (af as_ ak av : Option Addr) (us : Bool) (w : World) (h : 65536 < nk ∨ 65536 < nd) :
    Calls Ybaf.prog 4 #[.agg #[.int .u32 tt, .int .u8 rm, .int .u8 fl, .int .u16 ns, .int .u8 b7, .int .u8 rs, .slice af nf cf, .bool us, .int .u32 sch0, .slice as_ nd cd, .slice ak nk ck, .slice av nv cv]] w (LawPost w) := by
  by_cases h1 : 65536 < nk
  · have i1 : (65536 : Int) < (nk : Int) := by omega
    clear h h1
    go_enter Ybaf.func4, Ybaf.ntmps4
    go_wp2
    go_ret
    exact ⟨rfl, (Below.refl _ _).alloc (Nat.le_refl _) _⟩
  · have i1 : (nk : Int) ≤ 65536 := by omega
    have i2 : (65536 : Int) < (nd : Int) := by omega
    clear h h1
    go_enter Ybaf.func4, Ybaf.ntmps4
    go_wp2
    go_ret
    exact ⟨rfl, (Below.refl _ _).alloc (Nat.le_refl _) _⟩

/-- The node's data, boxed. -/
def PData (nd : Nat) (w3 : World) (v : Value) (wx : World) : Prop :=
  ∃ (ob : Option Nat) (sp : Option Addr) (lk : ByteArray → Nat × Bool) (sch dl : Nat) (ad : Option Addr) (dc : Nat) (df : Nat → Nat) (b : Nat), v = .pointer (some ⟨b, 0, none⟩) ∧ w3.heap.size ≤ b ∧ wx.heap[b]? = some (.cells #[.map ob, .pointer sp] 34 (0, 0)) ∧ DataAt wx w3.heap.size (.map ob) sp lk sch dl ad dc df ∧ Below w3.heap.size w3 wx ∧ dl ≤ nd ∧ (∀ a, ad = some a → a.block < wx.heap.size) ∧ (∀ a, sp = some a → a.block < wx.heap.size)
theorem DataAt.below' {w w' : World} {B : Nat} {mv : Value} {sp : Option Addr} {lk : ByteArray → Nat × Bool} {sch dl : Nat} {ad : Option Addr} {dc : Nat} {df : Nat → Nat} (h : DataAt w B mv sp lk sch dl ad dc df) (hb : Below w.heap.size w w') : DataAt w' B mv sp lk sch dl ad dc df :=
  ⟨h.lkok, h.map.keep (fun b e => hb.block b (h.mapB b e).2), fun b e => ⟨(h.mapB b e).1, Nat.lt_of_lt_of_le (h.mapB b e).2 hb.size⟩, h.snap.below hb (Nat.le_refl _), h.snapB, h.bytes.below hb (Nat.le_refl _), h.bytesB⟩

set_option maxRecDepth 1000000 in
set_option maxHeartbeats 4000000 in
theorem apush_any (I : Interp) (F fo c : Nat) (ea : Nat → Addr) (tt rm fl ns b7 rs nf cf sch0 nd cd nk ck nv cv : Nat) (af as_ ak av : Option Addr) (us : Bool) (ff fd fk fv : Nat → Nat) (w : World) (hI : I.answers w.tape) (hE : Env w F fo c ea)
    (htt : tt < 4294967296) (hrm : rm < 256) (hfl : fl < 256) (hns : ns < 65536) (hb7 : b7 < 256)
    (hnk : (nk : Int) ≤ 65536) (hnd : (nd : Int) ≤ 65536) (hnf : nf ≤ 140737488351232) (hdnil : as_ = none → nd = 0 ∧ cd = 0)
    (hf : Bytes w af nf ff) (hd : Bytes w as_ nd fd) (hk : Bytes w ak nk fk) (hv : Words w av nv fv)
    (hff : ∀ i, ff i < 256) (hfk : ∀ i, fk i < 256) (hfv : ∀ i, fv i < 18446744073709551616) :
    Calls Ybaf.prog 4 #[.agg #[.int .u32 tt, .int .u8 rm, .int .u8 fl, .int .u16 ns, .int .u8 b7, .int .u8 rs, .slice af nf cf, .bool us, .int .u32 sch0, .slice as_ nd cd, .slice ak nk ck, .slice av nv cv]] w (LawPost w) := by
  have hA : Below w.heap.size w (w.alloc (.cells #[.int .u32 tt, .int .u8 rm, .int .u8 fl, .int .u16 ns, .int .u8 b7, .int .u8 rs, .slice af nf cf, .bool us, .int .u32 sch0, .slice as_ nd cd, .slice ak nk ck, .slice av nv cv] 46)) := (Below.refl _ _).alloc (Nat.le_refl _) _
  have hin : (w.alloc (.cells #[.int .u32 tt, .int .u8 rm, .int .u8 fl, .int .u16 ns, .int .u8 b7, .int .u8 rs, .slice af nf cf, .bool us, .int .u32 sch0, .slice as_ nd cd, .slice ak nk ck, .slice av nv cv] 46)).heap[w.heap.size]? = some (.cells #[.int .u32 tt, .int .u8 rm, .int .u8 fl, .int .u16 ns, .int .u8 b7, .int .u8 rs, .slice af nf cf, .bool us, .int .u32 sch0, .slice as_ nd cd, .slice ak nk ck, .slice av nv cv] 46 (0, 0)) := World.alloc_heap_new w _
  have hsz : (w.alloc (.cells #[.int .u32 tt, .int .u8 rm, .int .u8 fl, .int .u16 ns, .int .u8 b7, .int .u8 rs, .slice af nf cf, .bool us, .int .u32 sch0, .slice as_ nd cd, .slice ak nk ck, .slice av nv cv] 46)).heap.size = w.heap.size + 1 := by simp
  have hbuild := fun X hX => build_any tt rm fl ns b7 0 nf cf af ff X htt hrm hfl hns hb7 (by omega) hnf hX hff
  have hdata := fun X h1 h2 h3 => data_any2 us ak av nk ck nv cv sch0 nd cd as_ fk fv fd X hdnil h1 (by omega) hnk h2 hfk h3 hfv
  go_enter Ybaf.func4, Ybaf.ntmps4
  go_upto_region 3 with fail
  obtain ⟨W, hW⟩ : ∃ W, w.alloc (.cells #[.int .u32 tt, .int .u8 rm, .int .u8 fl, .int .u16 ns, .int .u8 b7, .int .u8 rs, .slice af nf cf, .bool us, .int .u32 sch0, .slice as_ nd cd, .slice ak nk ck, .slice av nv cv] 46) = W := ⟨_, rfl⟩
  rw [hW] at hA hin hsz ⊢
  have HSZ : Hid (W.heap.size = w.heap.size + 1) := hsz
  have hEW := hE.below hA (Nat.le_refl _)
  have hIW : I.answers W.tape := (congrArg I.answers hA.tape).mpr hI
  have hfW := hf.below hA (Nat.le_refl _)
  have hdW := hd.below hA (Nat.le_refl _)
  have hkW := hk.below hA (Nat.le_refl _)
  have hvW := hv.below hA (Nat.le_refl _)
  have hbu : Calls Ybaf.prog 6 #[.int .u32 tt, .int .u8 rm, .int .u8 fl, .int .u16 ns, .int .u8 b7, .int .u8 0, .slice af nf cf] W (BuildSaid tt rm fl 0 W) := hbuild W hfW
  have hE6 := hEW.six
  have hEF := hEW.lt
  clear hW hsz hbuild hE hI hf hd hk hv htt hns hnf hfW
  obtain ⟨c0, c1, c2, c3, c4, c5, c6, c7, c8, c9, c10, c11⟩ := jcells hin
  go_wp2_with fail
  refine hbu.mono ?_
  rintro e w1 ⟨g, cap, n, f, rfl, hBg, hrow, hnc, hcm, hn8, hn2, hf2, hb1, k1, k2, k3, k4, k5⟩
  have hnR : n = 8 + hRm f * 4 := by rw [k3]; exact k5 rfl
  have hNl' : hNl f = asz (hTt f) / 4 := by rw [k1, k4]
  have hg1 := hrow.lt
  have hcl1 := clone_some ⟨g, 0, none⟩ n cap f w1 (by omega) hrow.bytes
  have HCM : Hid (cap ≤ 9223372036854775807 ∧ n = 8 + hRm f * 4 ∧ hNl f = asz (hTt f) / 4 ∧ n ≤ 2000) := ⟨hcm, hnR, hNl', hn2⟩
  have hin1 := (hb1.block w.heap.size (by have := HSZ.out; omega)).trans hin
  clear hbu k1 k2 k3 k4 k5 hcm hnR hNl' hn2 c0 c1 c2 c3 c4 c5 c6 c7 c8 c9 c10 c11
  go_wp2_with fail
  refine hcl1.mono ?_
  rintro e w2 ⟨rfl, hrow2, hb2⟩
  have hg2 := hrow.below hb2 hg1
  have hcl2 := clone_some ⟨g, 0, none⟩ 8 cap f w2 (by omega) (hg2.shorter hn8).bytes
  have x8 : (8 : Int) ≤ (cap : Int) := by omega
  have y8 : IntKind.i64.wrap 8 = 8 := by rw [IntKind.wrap_i64]; omega
  clear hcl1
  go_wp2_with fail
  refine hcl2.mono ?_
  rintro e w3 ⟨rfl, hrow3, hb3⟩
  clear hcl2
  have hs1 := hb1.size
  have hs2 := hb2.size
  have hs3 := hb3.size
  have hbw3 : Below W.heap.size W w3 := (hb1.trans (hb2.mono hs1)).trans (hb3.mono (by omega))
  have hin3 := (hb3.block w.heap.size (by have := HSZ.out; omega)).trans ((hb2.block w.heap.size (by have := HSZ.out; omega)).trans hin1)
  obtain ⟨c0, c1, c2, c3, c4, c5, c6, c7, c8, c9, c10, c11⟩ := jcells hin3
  have hdc := hdata w3 (hdW.below hbw3 (Nat.le_refl _)) (hkW.below hbw3 (Nat.le_refl _)) (hvW.below hbw3 (Nat.le_refl _))
  have HD : Hid (nd ≤ 65536) := by show nd ≤ 65536; omega
  clear hdata hdW hkW hvW hnk hnd hfk hfv hff
  go_upto_region 6 with fail
  go_cut [6] (fun v wx => PData nd w3 v wx)
  case first =>
    go_wp2_with fail
    refine hdc.mono ?_
    rintro e w4 ⟨ob, sp, lk, sch, dl, ad, dc, df, rfl, hD, hb4, hu1, hu2, hdl, hL1, hL2⟩
    go_wp2
    go_meet
    have hb5 : Below w4.heap.size w4 (w4.alloc (.cells #[.map ob, .pointer sp] 34)) := (Below.refl _ _).alloc (Nat.le_refl _) _
    exact ⟨ob, sp, lk, sch, dl, ad, dc, df, w4.heap.size, rfl, hb4.size, World.alloc_heap_new w4 _, hD.below' hb5, hb4.trans (hb5.mono hb4.size), hdl, fun a h => Nat.lt_of_lt_of_le (hL1 a h) hb5.size, fun a h => Nat.lt_of_lt_of_le (hL2 a h) hb5.size⟩
  case rest =>
    obtain ⟨ob, sp, lk, sch, dl, ad, dc, df, b, rfl, hb, hdb, hDc, hb4, hdl, hadl, hspl⟩ := hcut
    rename_i K hK
    refine hK _ _ ?_
    obtain ⟨hcm, hnR, hNl', hn2⟩ := HCM.out
    have hnd := HD.out
    have hgc : Row wc g n f := (hg2.below hb3 hg2.lt).below hb4 (by omega)
    have hhc : Row wc w1.heap.size n f := (hrow2.below hb3 hrow2.lt).below hb4 (by have := hrow2.lt; omega)
    have hic : Row wc w2.heap.size 8 f := hrow3.below hb4 hrow3.lt
    have hinc := (hb4.block w.heap.size (by have := HSZ.out; omega)).trans hin3
    have hbwc : Below W.heap.size W wc := hbw3.trans (hb4.mono hbw3.size)
    have hEc := hEW.below hbwc (Nat.le_refl _)
    have hIc : I.answers wc.tape := (congrArg I.answers hbwc.tape).mpr hIW
    have hBc : Below w.heap.size w wc := hA.trans (hbwc.mono hA.size)
    have hl2 := hrow2.lt
    have hl3 := hrow3.lt
    by_cases hok : bt (hTt f) 22 = true → SnOk sch dl
    · by_cases hov : hRm f * 4 < elen (hNl f) (hTt f) dl
      · exact pmid_over I F fo c ea tt rm fl ns b7 rs nf cf sch0 nd cd nk ck nv cv af as_ ak av us w wc g w1.heap.size w2.heap.size b n cap sch dl dc w3.heap.size f df lk ob sp ad hIc hEc hinc hdb hDc hadl hspl (by omega) hgc hhc hic (by omega) (by omega) (by omega) (by omega) (by have := HSZ.out; omega) (by omega) (by omega) hnc hcm hnR hf2 hNl' hBc hok hov _ _ _ _ _ _ _ _ _ _ _ _ _ _ _ _ _ _ _ _ _ _ _ _ _ _ _ _ _ _ _ _ _ _ _ _ _ _ _ _ _ _ _ _ _ _ _ _ _ _ _ _ _ _ _ _ _ _ _ _ _ _ _ _ _ _ _ _ _ _ _ _ _ _ _ _ _ _ _ _ _ _ _ _ _ _ _ _ _ _ _ _ _ _ _ _ _ _ _ _ _ _ _ _ _ _ _ _ _ _ _ _ _ _ _ _ _ _ _ _ _ _ _ _ _ _ _ _ _ _ _ _ _ _ _ _ _ _ _
      · exact pmid_wrote I F fo c ea tt rm fl ns b7 rs nf cf sch0 nd cd nk ck nv cv af as_ ak av us w wc g w1.heap.size w2.heap.size b n cap sch dl dc w3.heap.size f df lk ob sp ad hIc hEc hinc hdb hDc hadl hspl (by omega) hgc hhc hic (by omega) (by omega) (by omega) (by omega) (by have := HSZ.out; omega) (by omega) (by omega) hnc hcm hnR hf2 hNl' hBc hok (by omega) _ _ _ _ _ _ _ _ _ _ _ _ _ _ _ _ _ _ _ _ _ _ _ _ _ _ _ _ _ _ _ _ _ _ _ _ _ _ _ _ _ _ _ _ _ _ _ _ _ _ _ _ _ _ _ _ _ _ _ _ _ _ _ _ _ _ _ _ _ _ _ _ _ _ _ _ _ _ _ _ _ _ _ _ _ _ _ _ _ _ _ _ _ _ _ _ _ _ _ _ _ _ _ _ _ _ _ _ _ _ _ _ _ _ _ _ _ _ _ _ _ _ _ _ _ _ _ _ _ _ _ _ _ _ _ _ _ _ _
    · have hs : bt (hTt f) 22 = true := Classical.byContradiction fun h => hok fun h' => absurd h' h
      have hbad : ¬ SnOk sch dl := fun h => hok fun _ => h
      exact pmid_bad I F fo c ea tt rm fl ns b7 rs nf cf sch0 nd cd nk ck nv cv af as_ ak av us w wc g w1.heap.size w2.heap.size b n cap sch dl dc w3.heap.size f df lk ob sp ad hIc hEc hinc hdb hDc hadl hspl (by omega) hgc hhc hic (by omega) (by omega) (by omega) (by omega) (by have := HSZ.out; omega) (by omega) (by omega) hnc hcm hnR hf2 hNl' hBc hs hbad _ _ _ _ _ _ _ _ _ _ _ _ _ _ _ _ _ _ _ _ _ _ _ _ _ _ _ _ _ _ _ _ _ _ _ _ _ _ _ _ _ _ _ _ _ _ _ _ _ _ _ _ _ _ _ _ _ _ _ _ _ _ _ _ _ _ _ _ _ _ _ _ _ _ _ _ _ _ _ _ _ _ _ _ _ _ _ _ _ _ _ _ _ _ _ _ _ _ _ _ _ _ _ _ _ _ _ _ _ _ _ _ _ _ _ _ _ _ _ _ _ _ _ _ _ _ _ _ _ _ _ _ _ _ _ _ _ _ _
end Go.Proofs.YbulkdlqeFmt
