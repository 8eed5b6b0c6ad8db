/-
  The comparison whole.
-/
import Derived.Test.YbulkdlruFmtAh
namespace Go.Proofs.YbulkdlruFmt
open Go.RowKit Go.Shelf
set_option linter.unusedVariables false
set_option linter.unusedSimpArgs false

set_option maxRecDepth 100000 in
set_option maxHeartbeats 4000000 in
theorem same_any (R X T N B B' : Nat) (cf cf' : Nat → Nat) (f : Nat → Nat) (bs : List PB) (cs : List PC) (nt : Option PC) (W : World) (hT : Row W T N f) (hR : RepAt W R T B cf bs cs nt) (hX : RepAt W X T B' cf' bs cs nt) (hin : ∀ c, nt = some c → InL N c.l ∧ c.l.length ≤ 256) (hcs : ∀ c ∈ cs, InL N c.l ∧ c.l.length ≤ 256) (hcl : cs.length ≤ 256) (hbs : ∀ b ∈ bs, InB N b) (hbl : bs.length ≤ 256) :
    Calls Ybaf.prog 13 #[.pointer (some ⟨R, 0, none⟩), .pointer (some ⟨X, 0, none⟩)] W fun e w' => e = .returned (.bool true) ∧ Same [] W w' := by
  obtain ⟨n, hn⟩ : ∃ n, bs.length = n := ⟨_, rfl⟩
  obtain ⟨m, hm⟩ : ∃ m, cs.length = m := ⟨_, rfl⟩
  obtain ⟨ga, gc, k1⟩ := rep_len1 hR
  obtain ⟨ha, hc, k2⟩ := rep_len2 hR
  obtain ⟨ga', gc', k1'⟩ := rep_len1 hX
  obtain ⟨ha', hc', k2'⟩ := rep_len2 hX
  have hS0 : W.cell? ⟨R, 0, none⟩ = some (.slice ga n gc) ∧ W.cell? ⟨R, 1, none⟩ = some (.slice ha m hc) ∧ W.cell? ⟨X, 0, none⟩ = some (.slice ga' n gc') ∧ W.cell? ⟨X, 1, none⟩ = some (.slice ha' m hc') := ⟨hn ▸ k1, hm ▸ k2, hn ▸ k1', hm ▸ k2'⟩
  clear k1 k2 k1' k2' hm
  go_enter Ybaf.func13, Ybaf.ntmps13
  go_upto_region 1 with fail
  refine reg1 R X n m gc gc' hc hc' ga ga' ha ha' W _ hS0 (fun _ _ d _ _ h => by cases d <;> exact h) _ _ _ _ _ _ _ _ _ _ _ _ _ _ _ _ _ _ _ _ _ _ _ _ _ _ _ _ _ _ _ _ _ _ _ _ _ _ _ _ _ _ _ _ _ _ _ _ _ _ _ _ _ _ _ _ _ _ _ _ _ _ _ _ _ _ _ _ _ _ _ _ _ _ _ _ _ _ _ _ _ _ _ _ _ _ _ _ _ _ _ _ _ _ _ _ _ _ _ _ _ _ _ _ _ _ _ _ _ _ _ _ _ _ _ _ _ _ _ _ _ _ _ _ _ _ _ _ _ _ _ _ _ _ _ _ _ _ _ _ _ _ _ _ _ _ _ _ _ _ _ _ _ _ _ _ _ _ _ _ _ _ _ _ _ _ _ _ _ _ _ _ _ _ _ _ _ _ _ _ _ _ _ _ _ _ _ _ _ _ _ _ _ _ _ _ _ _ _ _ _ _ _ _ _ _ _ _ _ _ _ _ _ _ _ _ _ _ _ _ _ _ _ _ _ _ _ _ _ _ _ _ _ _ _ _ _ _ _ _ _ _ _ _ _ _ _ _ _ _ _ _ _ _ _ _ _ _ _ _ _ _ _ _ _ _ _ _ _ _ _ _ _ _ _ _ _ _ _ _ _ _ _ _ _ _ _ _ _ _ _ _ _ _ _ _ _ _ _ _ _ _ _ _ _ _ _ _ _ _ _ _ _ _ _ _ _ _ _ _ _ _ _ _ _ _ _ _ ?_
  intro y19 y20 y21 y22 y23 y24 y25 y26 y27 y28 y29 y30 y31 y32 y33 y34 y35 y36 y37 y38 y39 y40 y41
  conv => arg 4; zeta
  obtain ⟨we, hwe⟩ : ∃ we, W.drew = we := ⟨_, rfl⟩
  have hse : Same [] W we := by rw [← hwe]; exact Same.drew _ _
  rw [hwe]
  clear hwe hS0
  go_upto_block 0 with fail
  go_cut [] (fun wx => Same [] W wx)
  case rest =>
    rename_i K hK
    refine hK _ _ ?_
    exact same10 R X T N B B' cf cf' f bs cs nt _ _ (hT.same hcut (by simp)) (hR.nil hcut) (hX.nil hcut) hin hcs hcl _ _ _ _ _ _ _ _ _ _ _ _ _ _ _ _ _ _ _ _ _ _ _ _ _ _ _ _ _ _ _ _ _ _ _ _ _ _ _ _ _ _ _ _ _ _ _ _ _ _ _ _ _ _ _ _ _ _ _ _ _ _ _ _ _ _ _ _ _ _ _ _ _ _ _ _ _ _ _ _ _ _ _ _ _ _ _ _ _ _ _ _ _ _ _ _ _ _ _ _ _ _ _ _ _ _ _ _ _ _ _ _ _ _ _ _ _ _ _ _ _ _ _ _ _ _ _ _ _ _ _ _ _ _ _ _ _ _ _ _ _ _ _ _ _ _ _ _ _ _ _ _ _ _ _ _ _ _ _ _ _ _ _ _ _ _ _ _ _ _ _ _ _ _ _ _ _ _ _ _ _ _ _ _ _ _ _ _ _ _ _ _ _ _ _ _ _ _ _ _ _ _ _ _ _ _ _ _ _ _ _ _ _ _ _ _ _ _ _ _ _ _ _ _ _ _ _ _ _ _ _ _ _ _ _ _ _ _ _ _ _ _ _ _ _ _ _ _ _ _ _ _ _ _ _ _ _ _ _ _ _ _ _ _ _ _ _ _ _ _ _ _ _ _ _ _ _ _ _ _ _ _ _ _ _ _ _ _ _ _ _ _ _ _ _ _ _ _ _ _ _ _ _ _ _ _ _ _ _ _ _ _ _ _ _ _ _ _ _ _ _ _ _ _ _ _ _ _ (fun w' hw => ⟨rfl, hcut.trans hw⟩)
  case first =>
    have hst : SRel n W (.int .i64 0) we := ⟨0, rfl, Nat.zero_le _, hse⟩
    have hnI : (n : Int) ≤ 256 := by omega
    have HC : Hid ((∀ b ∈ bs, InB N b) ∧ bs.length = n) := ⟨hbs, hn⟩
    have HR : Hid (RepAt W R T B cf bs cs nt ∧ RepAt W X T B' cf' bs cs nt ∧ Row W T N f) := ⟨hR, hX, hT⟩
    clear hin hcs hcl hn hR hX hT hbs hbl hse
    go_wp2
    go_loopw [5] (fun i wr => SRel n W i wr) (fun i _ => n - (intOf i).toNat)
    case atStart => exact hst
    case round =>
      obtain ⟨k, rfl, hk, hs⟩ := hrel
      clear hst
      have hRw := HR.out.1.nil hs
      have hXw := HR.out.2.1.nil hs
      by_cases hlt : k < n
      · have i1 : (k : Int) < (n : Int) := by omega
        have i1' : IntKind.i64.wrap ((k : Int) + 1) = (k : Int) + 1 := IntWalk.i64_in _ (by omega)
        have hkl : k < bs.length := by rw [HC.out.2]; exact hlt
        obtain ⟨b, hb⟩ : ∃ b, bs[k]? = some b := ⟨_, List.getElem?_eq_getElem hkl⟩
        have hbm := HC.out.1 b (List.mem_of_getElem? hb)
        obtain ⟨g, gc, p, f1, f2, c1, hp⟩ := rep_blk hRw hb
        obtain ⟨g', gc', p', f1', f2', c2, hp'⟩ := rep_blk hXw hb
        rw [HC.out.2] at f1 f1'
        obtain ⟨a1, m1, d1, a2, m2, d2, e1, e2, htw⟩ := pay_twin T N f b c1 c2 hbm
        rw [e1] at hp
        rw [e2] at hp'
        have hT := HR.out.2.2.same hs (by simp)
        have hbb := htw wr.drew hT
        have HK : Hid (k < n ∧ Same [] W wr) := ⟨hlt, hs⟩
        clear e1 e2 htw hT hbm hb hkl hRw hXw hk hlt hs
        go_upto_region 8 with fail
        refine cmp8 p p' b.hgt b.vw m1 d1 m2 d2 a1 a2 b.par wr _ hp hp' hbb (fun _ _ d _ _ h => by cases d <;> exact h) _ _ _ _ _ _ _ _ _ _ _ _ _ _ _ _ _ _ _ _ _ _ _ _ _ _ _ _ _ _ _ _ _ _ _ _ _ _ _ _ _ _ _ _ _ _ _ _ _ _ _ _ _ _ _ _ _ _ _ _ _ _ _ _ _ _ _ _ _ _ _ _ _ _ _ _ _ _ _ _ _ _ _ _ _ _ _ _ _ _ _ _ _ _ _ _ _ _ _ _ _ _ _ _ _ _ _ _ _ _ _ _ _ _ _ _ _ _ _ _ _ _ _ _ _ _ _ _ _ _ _ _ _ _ _ _ _ _ _ _ _ _ _ _ _ _ _ _ _ _ _ _ _ _ _ _ _ _ _ _ _ _ _ _ _ _ _ _ _ _ _ _ _ _ _ _ _ _ _ _ _ _ _ _ _ _ _ _ _ _ _ _ _ _ _ _ _ _ _ _ _ _ _ _ _ _ _ _ _ _ _ _ _ _ _ _ _ _ _ _ _ _ _ _ _ _ _ _ _ _ _ _ _ _ _ _ _ _ _ _ _ _ _ _ _ _ _ _ _ _ _ _ _ _ _ _ _ _ _ _ _ _ _ _ _ _ _ _ _ _ _ _ _ _ _ _ _ _ _ _ _ _ _ _ _ _ _ _ _ _ _ _ _ _ _ _ _ _ _ _ _ _ _ _ _ _ _ _ _ _ _ _ _ _ _ _ _ _ _ _ _ _ _ _ _ _ _ _ ?_
        intro y66 y67 y68 y69 y70 y71 y72 y73 y74 y75 y76 y77 y78 y79 y80 y81 y82 y83 y84 y85 y86 y87 y88 y89 y90 y91 y92 y93 y94 y95 y96 y97 y98 y99 y100 y101 y102 y103 y104 y105 y106 y107 y108 y109 y110 y111
        conv => arg 4; zeta
        have hrel2 : SRel n W (.int .i64 ((k + 1 : Nat) : Int)) wr.drew := ⟨k + 1, rfl, HK.out.1, HK.out.2.trans (Same.drew _ _)⟩
        clear hp hp' hbb f1 f2 f1' f2'
        go_wp2
        go_roundw
        case rel =>
          rw [show ((k + 1 : Nat) : Int) = (k : Int) + 1 by omega] at hrel2
          first | exact hrel2 | ((repeat apply Exists.intro); exact ⟨hrel2, rfl⟩)
        case measure =>
          have := HK.out.1
          simp [intOf]
          omega
      · have i1 : ¬ (k : Int) < (n : Int) := by omega
        obtain ⟨xa, xc, hlen⟩ := rep_len1 hXw
        rw [HC.out.2] at hlen
        have HX : Hid (Same [] W wr) := hs
        clear hs hRw hXw
        go_wp2
        go_meet
        exact HX.out

/-- The comparison of the reader's reply and the law's own. -/
theorem same_parse (R X T N B B' : Nat) (cf cf' : Nat → Nat) (f : Nat → Nat) (s : St) (W : World) (hT : Row W T N f) (hR : RepAt W R T B cf (parse f N s).bs (parse f N s).cs (parse f N s).nt) (hX : RepAt W X T B' cf' (parse f N s).bs (parse f N s).cs (parse f N s).nt) :
    Calls Ybaf.prog 13 #[.pointer (some ⟨R, 0, none⟩), .pointer (some ⟨X, 0, none⟩)] W fun e w' => e = .returned (.bool true) ∧ Same [] W w' := by
  refine same_any R X T N B B' cf cf' f _ _ _ W hT hR hX (fun c hc => ?_) (inL_fList f N _ _) ?_ (inB_list f N _ _) ?_
  · simp only [parse] at hc
    split at hc
    · injection hc with hc
      subst hc
      exact ⟨inL_cert f N _, len_cert f N _⟩
    · cases hc
  · simp only [parse]
    rw [fList_length]
    exact Nat.le_trans (cnt_le _ _ _ _) (by omega)
  · simp only [parse]
    rw [bList_length]
    exact cnt_le _ _ _ _
end Go.Proofs.YbulkdlruFmt
