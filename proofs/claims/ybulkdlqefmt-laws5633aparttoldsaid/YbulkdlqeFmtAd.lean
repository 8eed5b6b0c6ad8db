/-
  LawS5633APart: the law returns true.
-/
import Derived.Test.YbulkdlqeFmtAc
namespace Go.Proofs.YbulkdlqeFmt
open Go.RowKit Go.Shelf Go.Extern.Stop Go.Stop Go.Extern

set_option maxRecDepth 1000000 in
set_option maxHeartbeats 4000000 in
theorem apart_any (I : Interp) (F fo c : Nat) (ea : Nat → Addr) (ot ns tt rm fl b7 el nr cr nf cf sch nd cd nk ck nv cv : Nat) (ar af as_ ak av : Option Addr) (raw us : Bool) (fr ff fd fk fv : Nat → Nat) (w : World) (hI : I.answers w.tape) (hE : Env w F fo c ea)
    (hot : ot < 256) (hns : ns < 65536) (htt : tt < 4294967296) (hrm : rm < 256) (hfl : fl < 256) (hb7 : b7 < 256) (hel : el < 256)
    (hnr : (nr : Int) ≤ 65536) (hnk : (nk : Int) ≤ 65536) (hnd : (nd : Int) ≤ 65536) (hnf : nf ≤ 140737488351232)
    (hrnil : ar = none → nr = 0 ∧ cr = 0) (hdnil : as_ = none → nd = 0 ∧ cd = 0)
    (hr : Bytes w ar nr fr) (hf : Bytes w af nf ff) (hd : Bytes w as_ nd fd) (hk : Bytes w ak nk fk) (hv : Words w av nv fv)
    (hfr : ∀ i, fr i < 256) (hff : ∀ i, ff i < 256) (_hfd : ∀ i, fd i < 256) (hfk : ∀ i, fk i < 256) (hfv : ∀ i, fv i < 18446744073709551616) :
    Calls Ybaf.prog 3 #[.agg #[.int .u8 ot, .bool raw, .slice ar nr cr, .int .u16 ns, .int .u32 tt, .int .u8 rm, .int .u8 fl, .int .u8 b7, .int .u8 el, .slice af nf cf, .bool us, .int .u32 sch, .slice as_ nd cd, .slice ak nk ck, .slice av nv cv]] w (LawPost w) := by
  have hA : Below w.heap.size w (w.alloc (.cells #[.int .u8 ot, .bool raw, .slice ar nr cr, .int .u16 ns, .int .u32 tt, .int .u8 rm, .int .u8 fl, .int .u8 b7, .int .u8 el, .slice af nf cf, .bool us, .int .u32 sch, .slice as_ nd cd, .slice ak nk ck, .slice av nv cv] 27)) := (Below.refl _ _).alloc (Nat.le_refl _) _
  have hin : (w.alloc (.cells #[.int .u8 ot, .bool raw, .slice ar nr cr, .int .u16 ns, .int .u32 tt, .int .u8 rm, .int .u8 fl, .int .u8 b7, .int .u8 el, .slice af nf cf, .bool us, .int .u32 sch, .slice as_ nd cd, .slice ak nk ck, .slice av nv cv] 27)).heap[w.heap.size]? = some (.cells #[.int .u8 ot, .bool raw, .slice ar nr cr, .int .u16 ns, .int .u32 tt, .int .u8 rm, .int .u8 fl, .int .u8 b7, .int .u8 el, .slice af nf cf, .bool us, .int .u32 sch, .slice as_ nd cd, .slice ak nk ck, .slice av nv cv] 27 (0, 0)) := World.alloc_heap_new w _
  have hsz : (w.alloc (.cells #[.int .u8 ot, .bool raw, .slice ar nr cr, .int .u16 ns, .int .u32 tt, .int .u8 rm, .int .u8 fl, .int .u8 b7, .int .u8 el, .slice af nf cf, .bool us, .int .u32 sch, .slice as_ nd cd, .slice ak nk ck, .slice av nv cv] 27)).heap.size = w.heap.size + 1 := by simp
  have hbuild := fun X hX => build_any tt rm fl ns b7 el nf cf af ff X htt hrm hfl hns hb7 hel hnf hX hff
  have hclone := fun X hX => clone_any ar nr cr fr X (by omega) hrnil hX
  go_enter Ybaf.func3, Ybaf.ntmps3
  go_upto_if 41 with fail
  obtain ⟨W, hW⟩ : ∃ W, w.alloc (.cells #[.int .u8 ot, .bool raw, .slice ar nr cr, .int .u16 ns, .int .u32 tt, .int .u8 rm, .int .u8 fl, .int .u8 b7, .int .u8 el, .slice af nf cf, .bool us, .int .u32 sch, .slice as_ nd cd, .slice ak nk ck, .slice av nv cv] 27) = W := ⟨_, rfl⟩
  rw [hW] at hA hin hsz ⊢
  have HSZ : Hid (W.heap.size = w.heap.size + 1) := hsz
  have hEW := hE.below hA (Nat.le_refl _)
  have hIW : I.answers W.tape := (congrArg I.answers hA.tape).mpr hI
  have hrW := hr.below hA (Nat.le_refl _)
  have hfW := hf.below hA (Nat.le_refl _)
  have hdW := hd.below hA (Nat.le_refl _)
  have hkW := hk.below hA (Nat.le_refl _)
  have hvW := hv.below hA (Nat.le_refl _)
  have hb := hbuild W hfW
  have hc := hclone W hrW
  have hE' := hE
  clear hW hsz hbuild hclone hE hI hr hf hd hk hv htt hns
  go_cut [3] (fun v wx => BodyAt W.heap.size W v wx)
  case first =>
    obtain ⟨c0, c1, c2, c3, c4, c5, c6, c7, c8, c9, c10, c11, c12, c13, c14⟩ := icells hin
    cases raw with
    | true =>
      clear hb
      go_wp2_with fail
      refine hc.mono ?_
      rintro e w1 ⟨a', c', rfl, hcs, hb1⟩
      clear hc
      go_wp2
      go_meet
      rcases hcs with ⟨rfl, rfl, h0, rfl, hw⟩ | ⟨rfl, hc', hrow⟩
      · exact ⟨none, nr, 0, fr, rfl, fun _ => ⟨h0, rfl⟩, (fun p hp => by cases hp), hfr, by omega, by omega, by omega, hb1⟩
      · exact ⟨some ⟨W.heap.size, 0, none⟩, nr, c', fr, rfl, (fun h => by cases h), (fun p hp => by cases hp; exact ⟨_, rfl, Nat.le_refl _, hrow⟩), hfr, by omega, by omega, by omega, hb1⟩
    | false =>
      clear hc
      go_wp2_with fail
      refine hb.mono ?_
      rintro e w1 ⟨g, cap, n, f, rfl, hBg, hrow, hnc, hcm, hn8, hn2, hf2, hb1, _, _, _, _, _⟩
      clear hb
      go_wp2
      go_meet
      exact ⟨some ⟨g, 0, none⟩, n, cap, f, rfl, (fun h => by cases h), (fun p hp => by cases hp; exact ⟨_, rfl, hBg, hrow⟩), hf2, hnc, hcm, by omega, hb1⟩
  case rest =>
    obtain ⟨a, n, cap, f, rfl, hanil, hrow, hf, hnc, hcm, hn, hbc⟩ := hcut
    have hin1 := (hbc.block w.heap.size (by have := HSZ.out; omega)).trans hin
    rename_i K hK
    refine hK _ _ ?_
    by_cases h12 : 12 ≤ ot % 16
    · exact apart_mid_type I F fo c ea ot ns tt rm fl b7 el nr cr nf cf sch nd cd nk ck nv cv ar af as_ ak av raw us fd fk fv w W wc HSZ hA hE' hEW hIW hin1 hnk hnd hdnil hdW hkW hvW hfk hfv hot a n cap f hanil hrow hf hnc hcm hn hbc h12 _ _ _ _ _ _ _ _ _ _ _ _ _ _ _ _ _ _ _ _ _ _ _ _ _ _ _ _ _ _ _ _ _ _ _ _ _ _ _ _ _ _ _ _ _ _ _ _ _ _ _ _ _ _ _ _ _ _ _ _ _ _ _ _ _ _ _ _ _ _ _ _ _ _ _ _ _ _ _ _ _ _ _ _ _ _ _ _ _ _ _ _ _ _ _ _ _ _ _ _ _ _ _ _ _ _ _ _ _ _ _ _ _ _ _ _ _ _ _ _ _ _ _ _ _ _ _ _ _ _ _ _ _ _ _ _ _ _ _ _ _ _ _ _ _ _ _ _ _ _ _ _ _ _ _ _ _ _ _ _ _ _ _ _ _ _ _ _ _ _ _ _ _ _ _ _ _ _ _ _ _ _ _ _ _ _ _ _ _ _ _ _ _ _ _ _ _ _ _ _ _ _ _ _ _ _ _ _ _ _ _ _ _ _ _ _ _ _ _ _ _ _ _ _ _ _ _ _ _ _ _ _ _ _ _ _ _ _ _ _ _ _ _ _ _ _ _ _ _ _ _ _ _ _ _ _ _ _ _ _ _ _ _ _ _ _ _ _ _ _ _ _ _ _ _ _ _ _ _ _ _ _ _ _ _ _ _ _ _ _ _ _ _ _ _ _ _ _ _ _ _ _ _ _ _ _ _ _ _ _ _ _ _ _ _ _ _ _ _ _ _ _ _ _ _ _ _ _ _ _ _ _ _ _ _ _ _ _ _ _ _ _ _ _ _ _ _ _ _ _ _ _ _ _ _ _ _ _ _ _ _ _ _ _ _ _ _ _ _ _ _ _ _ _ _
    · exact apart_mid_zero I F fo c ea ot ns tt rm fl b7 el nr cr nf cf sch nd cd nk ck nv cv ar af as_ ak av raw us fd fk fv w W wc HSZ hA hE' hEW hIW hin1 hnk hnd hdnil hdW hkW hvW hfk hfv hot a n cap f hanil hrow hf hnc hcm hn hbc h12 _ _ _ _ _ _ _ _ _ _ _ _ _ _ _ _ _ _ _ _ _ _ _ _ _ _ _ _ _ _ _ _ _ _ _ _ _ _ _ _ _ _ _ _ _ _ _ _ _ _ _ _ _ _ _ _ _ _ _ _ _ _ _ _ _ _ _ _ _ _ _ _ _ _ _ _ _ _ _ _ _ _ _ _ _ _ _ _ _ _ _ _ _ _ _ _ _ _ _ _ _ _ _ _ _ _ _ _ _ _ _ _ _ _ _ _ _ _ _ _ _ _ _ _ _ _ _ _ _ _ _ _ _ _ _ _ _ _ _ _ _ _ _ _ _ _ _ _ _ _ _ _ _ _ _ _ _ _ _ _ _ _ _ _ _ _ _ _ _ _ _ _ _ _ _ _ _ _ _ _ _ _ _ _ _ _ _ _ _ _ _ _ _ _ _ _ _ _ _ _ _ _ _ _ _ _ _ _ _ _ _ _ _ _ _ _ _ _ _ _ _ _ _ _ _ _ _ _ _ _ _ _ _ _ _ _ _ _ _ _ _ _ _ _ _ _ _ _ _ _ _ _ _ _ _ _ _ _ _ _ _ _ _ _ _ _ _ _ _ _ _ _ _ _ _ _ _ _ _ _ _ _ _ _ _ _ _ _ _ _ _ _ _ _ _ _ _ _ _ _ _ _ _ _ _ _ _ _ _ _ _ _ _ _ _ _ _ _ _ _ _ _ _ _ _ _ _ _ _ _ _ _ _ _ _ _ _ _ _ _ _ _ _ _ _ _ _ _ _ _ _ _ _ _ _ _ _ _ _ _ _ _ _ _ _ _ _ _ _ _ _ _ _ _ _
end Go.Proofs.YbulkdlqeFmt
