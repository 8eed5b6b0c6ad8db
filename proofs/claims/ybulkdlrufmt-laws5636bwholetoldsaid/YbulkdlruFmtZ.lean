/-
  The law's own parser, whole.
-/
import Derived.Test.YbulkdlruFmtY
namespace Go.Proofs.YbulkdlruFmt
open Go.RowKit Go.Shelf
set_option linter.unusedVariables false
set_option linter.unusedSimpArgs false

/-- What the law's parser comes to. -/
def ModelSaid (T N cap : Nat) (f : Nat → Nat) (W : World) (e : Ending) (w' : World) : Prop :=
  ∃ B ga gc ps ga2 gc2 qs nv, e = .returned (.tuple #[.agg #[.slice ga ps.length gc, .slice ga2 qs.length gc2, nv], .int .i64 ((parse f N ⟨0, 0⟩).st.p : Int), .int .i64 ((parse f N ⟨0, 0⟩).st.k : Int)]) ∧
    Held w' T B (fun o => cap - o) ga gc ps (parse f N ⟨0, 0⟩).bs ga2 gc2 qs (parse f N ⟨0, 0⟩).cs ∧ NotAt w' T (fun o => cap - o) nv (parse f N ⟨0, 0⟩).nt ∧ Same [] W w'

set_option maxRecDepth 100000 in
set_option maxHeartbeats 4000000 in
theorem model_any (T N cap : Nat) (f : Nat → Nat) (W : World) (hN : N ≤ cap) (hN2 : (N : Int) ≤ 200000000) (hT : Row W T N f) (hf : ∀ i, f i < 256) :
    Calls Ybaf.prog 12 #[.slice (some ⟨T, 0, none⟩) N cap] W (ModelSaid T N cap f W) := by
  have hTl := hT.lt
  go_enter Ybaf.func12, Ybaf.ntmps12
  go_upto_region 2 with fail
  obtain ⟨X, hX⟩ : ∃ X, W.heap.size = X := ⟨_, rfl⟩
  obtain ⟨w1, hw1⟩ : ∃ w1, W.alloc (.cells #[.slice none 0 0, .slice none 0 0, .pointer none] 97) = w1 := ⟨_, rfl⟩
  have hz1 : w1.heap.size = X + 1 := by rw [← hw1, ← hX]; simp
  have hX1 : w1.heap[X]? = some (.cells #[.slice none 0 0, .slice none 0 0, .pointer none] 97 (0, 0)) := by rw [← hw1, ← hX]; exact heap_alloc_new W _
  have hs1 : Same [] W w1 := by rw [← hw1]; exact Same.alloc _ _ _
  rw [hw1, hX]
  obtain ⟨w2, hw2⟩ : ∃ w2, w1.alloc (.cells #[.slice none 0 0, .slice none 0 0, .pointer none] 97) = w2 := ⟨_, rfl⟩
  have hz2 : w2.heap.size = X + 2 := by rw [← hw2]; simp; omega
  have hR2 : w2.heap[X + 1]? = some (.cells #[.slice none 0 0, .slice none 0 0, .pointer none] 97 (0, 0)) := by rw [← hw2, ← hz1]; exact heap_alloc_new w1 _
  have hs2 : Same [] w1 w2 := by rw [← hw2]; exact Same.alloc _ _ _
  rw [hw2]
  have hX2 := (hs2.block X (by omega) (by simp)).trans hX1
  have hs12 := hs1.trans hs2
  clear hw1 hw2
  go_cut [6] (fun v wx => v = .pointer (some ⟨X + 2, 0, none⟩) ∧ wx = w2.alloc (.cells #[.slice (some ⟨T, 0, none⟩) N cap, .int .i64 0, .int .i64 0] 133))
  case first =>
    have HZ : Hid (w2.heap.size = X + 2) := hz2
    clear hz1 hz2 hX1 hR2 hX2 hs1 hs2 hs12 hX
    go_wp2
    go_meet
    rw [HZ.out]
    exact ⟨rfl, rfl⟩
  case rest =>
    obtain ⟨rfl, hw3⟩ := hcut
    have hz3 : wc.heap.size = X + 3 := by rw [hw3]; simp; omega
    have hM3 : wc.heap[X + 2]? = some (.cells #[.slice (some ⟨T, 0, none⟩) N cap, .int .i64 ((0 : Nat) : Int), .int .i64 ((0 : Nat) : Int)] 133 (0, 0)) := by rw [hw3, ← hz2]; exact heap_alloc_new w2 _
    have hs3 : Same [] w2 wc := by rw [hw3]; exact Same.alloc _ _ _
    have hR3 := (hs3.block (X + 1) (by omega) (by simp)).trans hR2
    have hX3 := (hs3.block X (by omega) (by simp)).trans hX2
    have hT3 := hT.same (hs12.trans hs3) (by simp)
    have hS3 : Same [] W wc := hs12.trans hs3
    rename_i K hK
    refine hK _ _ ?_
    have hrep : RepAt wc (X + 1) T (X + 3) (fun o => cap - o) [] [] none := ⟨none, 0, [], none, 0, [], .pointer none, hR3, ⟨fun _ => ⟨rfl, rfl⟩, fun _ => ⟨rfl, rfl⟩, World.ownsRow_nil _ _ _ _, ⟨rfl, fun i p b hp => by simp at hp⟩, World.ownsRow_nil _ _ _ _, ⟨rfl, fun i p b hp => by simp at hp⟩⟩, rfl⟩
    refine mod3 T N cap X (X + 1) (X + 2) (X + 3) f ⟨0, 0⟩ wc _ hN hN2 hT3 hf ⟨Nat.zero_le _, hM3⟩ hrep (by omega) (by omega) (by omega) (by omega) (by omega) (by omega) (by omega) _ _ _ _ _ _ _ _ _ _ _ _ _ _ _ _ _ _ _ _ _ _ _ _ _ _ _ _ _ _ _ _ _ _ _ _ _ _ _ _ _ _ _ _ _ _ _ _ _ _ _ _ _ _ _ _ _ _ _ _ _ _ _ _ _ _ _ _ _ _ _ _ _ _ _ _ _ _ _ _ _ _ _ _ _ _ _ _ _ _ _ _ _ _ _ _ _ _ _ _ _ _ _ _ _ _ _ _ _ _ _ _ _ _ _ _ _ _ _ _ _ _ _ _ _ _ _ _ _ _ _ _ _ _ _ _ _ _ _ _ _ _ _ _ _ _ _ _ _ _ _ _ _ _ _ _ _ _ _ _ _ _ _ _ _ _ _ _ _ _ _ _ _ _ _ _ _ _ _ _ _ _ _ _ _ _ _ _ _ _ _ _ _ _ _ _ _ _ _ _ _ _ ?_
    intro w4 y1 y3 y4 y7 y8 y9 y10 y11 y12 y13 y14 y15 y16 y17 y18 y19 y20 y21 y22 y23 y24 y25 y26 y27 y28 y29 y30 y31 y32 y33 y34 y35 y36 y37 y38 y39 y40 y41 y42 y43 y44 y45 y46 y47 y48 y49 y50 y51 y52 y53 y54 y55 y56 y57 y58 y59 y60 y61 y62 y63 y64 y65 y66 y67 y68 y69 y70 y71 y72 y73 y74 y75 y76 y77 y78 y79 y80 y81 y82 y83 y84 y85 y86 y87 y88 y89 y90 y91 y92 y93 y94 y95 y96 y97 y98 y99 y100 y101 y102 y103 y104 y105 y106 y107 y108 y109 y110 y111 y112 y113 y114 y115 y116 y117 y118 y119 y120 y121 y122 y123 y124 y125 y126 y127 y128 y129 y130 y131 y132 y133 y134 y135 y136 y137 y138 y139 y140 y141 y142 y143 y144 y145 y146 y147 y148 y149 y150 y151 y152 y153 y154 y155 y156 y157 y158 y159 y160 y161 y162 y163 y164 y165 y166 y167 y168 y169 y170 y171 y172 y173 y174 y175 y176 y177 y178 y179 y180 y181 y182 y183 y184 y185 y186 y187 y188 y189 y190 y191 y192 y193 y194 y195 y196 y197 y198 y199 y200 y201 y202 y203 y204 y205 hrep4 hmd4 hk4
    have hT4 : Row w4 T N f := hT3.block (hk4.block T (by omega) (by simp; omega))
    refine mod17 T N cap X (X + 1) (X + 2) (X + 3) f _ (prS1 f N ⟨0, 0⟩) w4 _ hN hN2 hT4 hf hmd4 hrep4 (by have := hk4.size; omega) (by omega) (by omega) (by omega) (by omega) (by omega) (by omega) _ _ _ _ _ _ _ _ _ _ _ _ _ _ _ _ _ _ _ _ _ _ _ _ _ _ _ _ _ _ _ _ _ _ _ _ _ _ _ _ _ _ _ _ _ _ _ _ _ _ _ _ _ _ _ _ _ _ _ _ _ _ _ _ _ _ _ _ _ _ _ _ _ _ _ _ _ _ _ _ _ _ _ _ _ _ _ _ _ _ _ _ _ _ _ _ _ _ _ _ _ _ _ _ _ _ _ _ _ _ _ _ _ _ _ _ _ _ _ _ _ _ _ _ _ _ _ _ _ _ _ _ _ _ _ _ _ _ _ _ _ _ _ _ _ _ _ _ _ _ _ _ _ _ _ _ _ _ _ _ _ _ _ _ _ _ _ _ _ _ _ _ _ _ _ _ _ _ _ _ _ _ _ _ _ _ _ _ _ _ _ _ _ _ _ _ _ _ _ _ _ _ ?_
    intro w5 z1 z3 z4 z7 z8 z9 z10 z11 z12 z13 z14 z15 z16 z17 z18 z19 z20 z21 z22 z23 z24 z25 z26 z27 z28 z29 z30 z31 z32 z33 z34 z35 z36 z37 z38 z39 z40 z41 z42 z43 z44 z45 z46 z47 z48 z49 z50 z51 z52 z53 z54 z55 z56 z57 z58 z59 z60 z61 z62 z63 z64 z65 z66 z67 z68 z69 z70 z71 z72 z73 z74 z75 z76 z77 z78 z79 z80 z81 z82 z83 z84 z85 z86 z87 z88 z89 z90 z91 z92 z93 z94 z95 z96 z97 z98 z99 z100 z101 z102 z103 z104 z105 z106 z107 z108 z109 z110 z111 z112 z113 z114 z115 z116 z117 z118 z119 z120 z121 z122 z123 z124 z125 z126 z127 z128 z129 z130 z131 z132 z133 z134 z135 z136 z137 z138 z139 z140 z141 z142 z143 z144 z145 z146 z147 z148 z149 z150 z151 z152 z153 z154 z155 z156 z157 z158 z159 z160 z161 z162 z163 z164 z165 z166 z167 z168 z169 z170 z171 z172 z173 z174 z175 z176 z177 z178 z179 z180 z181 z182 z183 z184 z185 z186 z187 z188 z189 z190 z191 z192 z193 z194 z195 z196 z197 z198 z199 z200 z201 z202 z203 z204 z205 hrep5 hmd5 hk5
    have hT5 : Row w5 T N f := hT4.block (hk5.block T (by omega) (by simp; omega))
    have hmd5' : Md (X + 2) T N cap (prS2 f N ⟨0, 0⟩) w5 := hmd5
    refine mod30 T N cap X (X + 1) (X + 2) (X + 3) f _ _ (prS2 f N ⟨0, 0⟩) w5 _ hN hN2 hT5 hf hmd5' hrep5 (by have := hk4.size; have := hk5.size; omega) (by omega) (by omega) (by omega) (by omega) (by omega) (by omega) _ _ _ _ _ _ _ _ _ _ _ _ _ _ _ _ _ _ _ _ _ _ _ _ _ _ _ _ _ _ _ _ _ _ _ _ _ _ _ _ _ _ _ _ _ _ _ _ _ _ _ _ _ _ _ _ _ _ _ _ _ _ _ _ _ _ _ _ _ _ _ _ _ _ _ _ _ _ _ _ _ _ _ _ _ _ _ _ _ _ _ _ _ _ _ _ _ _ _ _ _ _ _ _ _ _ _ _ _ _ _ _ _ _ _ _ _ _ _ _ _ _ _ _ _ _ _ _ _ _ _ _ _ _ _ _ _ _ _ _ _ _ _ _ _ _ _ _ _ _ _ _ _ _ _ _ _ _ _ _ _ _ _ _ _ _ _ _ _ _ _ _ _ _ _ _ _ _ _ _ _ _ _ _ _ _ _ _ _ _ _ _ _ _ _ _ _ _ _ _ _ _ ?_
    intro w6 v1 v3 v4 v7 v8 v9 v10 v11 v12 v13 v14 v15 v16 v17 v18 v19 v20 v21 v22 v23 v24 v25 v26 v27 v28 v29 v30 v31 v32 v33 v34 v35 v36 v37 v38 v39 v40 v41 v42 v43 v44 v45 v46 v47 v48 v49 v50 v51 v52 v53 v54 v55 v56 v57 v58 v59 v60 v61 v62 v63 v64 v65 v66 v67 v68 v69 v70 v71 v72 v73 v74 v75 v76 v77 v78 v79 v80 v81 v82 v83 v84 v85 v86 v87 v88 v89 v90 v91 v92 v93 v94 v95 v96 v97 v98 v99 v100 v101 v102 v103 v104 v105 v106 v107 v108 v109 v110 v111 v112 v113 v114 v115 v116 v117 v118 v119 v120 v121 v122 v123 v124 v125 v126 v127 v128 v129 v130 v131 v132 v133 v134 v135 v136 v137 v138 v139 v140 v141 v142 v143 v144 v145 v146 v147 v148 v149 v150 v151 v152 v153 v154 v155 v156 v157 v158 v159 v160 v161 v162 v163 v164 v165 v166 v167 v168 v169 v170 v171 v172 v173 v174 v175 v176 v177 v178 v179 v180 v181 v182 v183 v184 v185 v186 v187 v188 v189 v190 v191 v192 v193 v194 v195 v196 v197 v198 v199 v200 v201 v202 v203 v204 v205 hrep6 hmd6 hk6
    have hk36 : Kp (X + 3) [X + 2, X + 1] wc w6 := (hk4.trans hk5).trans hk6
    obtain ⟨ga, gc, ps, ga2, gc2, qs, nv, hR6, hH6, hnv6⟩ := hrep6
    have hX6 := (hk36.block X (by omega) (by simp)).trans hX3
    have hone : ∀ u ∈ [.slice ga ps.length gc, .slice ga2 qs.length gc2, nv], u.oneCell' = true := by
      intro u hu
      simp only [List.mem_cons, List.not_mem_nil, or_false] at hu
      rcases hu with rfl | rfl | rfl
      · rfl
      · rfl
      · cases hq : lastNt f N (prS2 f N ⟨0, 0⟩) with
        | none => rw [hq] at hnv6; rw [show u = .pointer none from hnv6]; rfl
        | some c => rw [hq] at hnv6; obtain ⟨b, h1, _⟩ := hnv6; rw [h1]; rfl
    conv => arg 2; whnf
    conv => arg 4; zeta
    go_upto_region 44 with fail
    refine last44 T N cap X (X + 1) (X + 2) _ w6 _ _ _ _ _ _ _ hR6 hX6 hmd6.2 hone (by omega) (by omega) (fun _ _ d _ _ h => by cases d <;> exact h) _ _ _ _ _ _ _ _ _ _ _ _ _ _ _ _ _ _ _ _ _ _ _ _ _ _ _ _ _ _ _ _ _ _ _ _ _ _ _ _ _ _ _ _ _ _ _ _ _ _ _ _ _ _ _ _ _ _ _ _ _ _ _ _ _ _ _ _ _ _ _ _ _ _ _ _ _ _ _ _ _ _ _ _ _ _ _ _ _ _ _ _ _ _ _ _ _ _ _ _ _ _ _ _ _ _ _ _ _ _ _ _ _ _ _ _ _ _ _ _ _ _ _ _ _ _ _ _ _ _ _ _ _ _ _ _ _ _ _ _ _ _ _ _ _ _ _ _ _ _ _ _ _ _ _ _ _ _ _ _ _ _ _ _ _ _ _ _ _ _ _ _ _ _ _ _ _ _ _ _ _ _ _ _ _ _ _ _ _ _ _ _ _ _ _ _ _ _ _ _ _ _ ?_
    intro w7 hX7 hs7
    conv => arg 4; zeta
    have hS6 : Same [X + 2, X + 1] wc w6 := hk36.same (by omega) (fun k hk => .inl hk)
    have hS7 : Same [] W w7 := (hS3.shed hS6 (by simp; omega)).shed hs7 (by simp; omega)
    have HX : Hid (ModelSaid T N cap f W (.returned (.tuple #[.agg #[.slice ga ps.length gc, .slice ga2 qs.length gc2, nv], .int .i64 ((lastSt f N (prS2 f N ⟨0, 0⟩)).p : Int), .int .i64 ((lastSt f N (prS2 f N ⟨0, 0⟩)).k : Int)])) w7) := by
      refine ⟨X + 3, ga, gc, ps, ga2, gc2, qs, nv, rfl, hH6.same hs7 (fun t ht => apart_one hX6 (by omega)), ?_, hS7⟩
      show NotAt w7 T _ nv (lastNt f N (prS2 f N ⟨0, 0⟩))
      cases hq : lastNt f N (prS2 f N ⟨0, 0⟩) with
      | none => rw [hq] at hnv6; exact hnv6
      | some c => rw [hq] at hnv6; obtain ⟨b, h1, h2⟩ := hnv6; exact ⟨b, h1, h2.same hs7 (apart_one hX6 (by omega)) (apart_one hX6 (by omega))⟩
    clear hS6 hS7 hs7 hH6 hnv6 hR6 hX6 hmd6 hk36 hone hrep hk4 hk5 hk6 hrep4 hrep5 hmd4 hmd5 hmd5' hT3 hT4 hT5 hM3 hR3 hX3 hs3 hS3 hR2 hX2 hX1 hs1 hs2 hs12
    go_wp2
    exact bodyPost_ret (results_model Ybaf.results12 _ _ X _ _ _ _ _ rfl rfl rfl hX7) rfl HX.out
end Go.Proofs.YbulkdlruFmt
