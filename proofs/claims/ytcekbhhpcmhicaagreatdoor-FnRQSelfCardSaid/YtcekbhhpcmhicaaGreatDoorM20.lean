/- Penalty rule 3: the region that looks along a row; Penalty rule 3: the region that looks down a column; Penalty rule 3, and the sum of the penalties; A mask is chosen: chooseMaskPattern; A QR code's struct; An empty map has no entries. -/
import Derived.Test.YtcekbhhpcmhicaaGreatDoorM02
import Derived.Test.YtcekbhhpcmhicaaGreatDoorM18
import Derived.Test.YtcekbhhpcmhicaaGreatDoorM19
import Derived.BigGuardPart
import Derived.KernelRfl
import Derived.Maps.Own
import Derived.Test.YtcekbhhpcmhicaaGreatDoorProg
namespace Go.Proofs.YtcekbhhpcmhicaaGreatDoor
open Go.RowKit Go.QW Go.QM Go.QV Go.QZ
section
variable {w : World} {A R d : Nat} {f : Cells}
noncomputable def regH : Code := ((Tryz.f157.body.bind (findReg 12)).getD .skip)
set_option maxHeartbeats 100000000 in
set_option maxRecDepth 1000000 in
theorem regH_any {i j : Nat} {K' : Act → World → Prop} {Q' : Exit → Act → World → Prop} {c0 c1 c2 c3 c4 c6 c7 c10 c11 c12 c13 c14 c15 c16 c17 c18 c19 c20 c21 c22 c23 c24 c25 c26 c27 c28 c29 c30 c31 c32 c33 c34 c35 c36 c37 c38 c39 c40 c41 c42 c43 c44 c45 c46 c47 c48 c49 c50 c51 c52 c53 c54 c55 c56 c57 c58 c59 c60 c61 c62 c63 c64 c65 c66 c67 c68 c69 c70 c71 c72 c73 c74 c75 c76 c77 c78 c79 c80 c81 c82 c83 c84 c85 c86 c87 c88 c89 c90 c91 c92 c93 c94 c95 c96 c97 c98 c99 c100 c101 c102 c103 c104 c105 c106 c107 c108 c109 c110 c111 c112 c113 c114 c115 c116 c117 c118 c119 c120 c121 c122 c123 c124 c125 c126 c127 c128 c129 c130 c131 c132 c133 c134 c135 c136 c137 c138 c139 c140 c141 c142 c143 c144 c145 c146 c147 c148 c149 c150 c151 c152 c153 c154 c155 c156 c157 c158 c159 c160 c161 c162 c163 c164 c165 c166 c167 c168 c169 c170 c171 c172 c173 c174 c175 c176 c177 c178 c179 c180 c181 c182 c183 c184 c185 c186 c187 c188 c189 c190 c191 c192 c193 c194 c195 c196 c197 c198 c199 c200 c201 c202 c203 c204 c205 c206 : Value} (h : Mat w A R d f) (hd2 : d ≤ 200) (hi : i < d) (hj : j < d)
    (hK : ∀ v30 v31 v32 v33 v34 v35 v36 v37 v38 v39 v40 v41 v42 v43 v44 v45 v46 v47 v48 v49 v50 v51 v52 v53 v54 v55 v56 v57 v58 v59 v60 v61 v62 v63 v64 v65 v66 v67 v68 v69 v70 v71 v72 v73 v74 v75 v76 v77 v78 v79 v80 v81 v82 v83 v84 v85 v86 v87 v88 v89 v90 v91 v92 v93 v94 v95 v96 v97 v98 v99 v100 v101 v102 v103 : Value, SomeV v103 → K' ⟨#[c0, c1, c2, c3, c4, .int .i64 d, c6, c7, .int .i64 j, .slice (some ⟨R + 1 + i, 0, none⟩) d d, c10, c11, c12, c13, c14, c15, c16, c17, c18, c19, c20, c21, c22, c23, c24, c25, c26, c27, c28, c29, v30, v31, v32, v33, v34, v35, v36, v37, v38, v39, v40, v41, v42, v43, v44, v45, v46, v47, v48, v49, v50, v51, v52, v53, v54, v55, v56, v57, v58, v59, v60, v61, v62, v63, v64, v65, v66, v67, v68, v69, v70, v71, v72, v73, v74, v75, v76, v77, v78, v79, v80, v81, v82, v83, v84, v85, v86, v87, v88, v89, v90, v91, v92, v93, v94, v95, v96, v97, v98, v99, v100, v101, v102, v103, c104, c105, c106, c107, c108, c109, c110, c111, c112, c113, c114, c115, c116, c117, c118, c119, c120, c121, c122, c123, c124, c125, c126, c127, c128, c129, c130, c131, c132, c133, c134, c135, c136, c137, c138, c139, c140, c141, c142, c143, c144, c145, c146, c147, c148, c149, c150, c151, c152, c153, c154, c155, c156, c157, c158, c159, c160, c161, c162, c163, c164, c165, c166, c167, c168, c169, c170, c171, c172, c173, c174, c175, c176, c177, c178, c179, c180, c181, c182, c183, c184, c185, c186, c187, c188, c189, c190, c191, c192, c193, c194, c195, c196, c197, c198, c199, c200, c201, c202, c203, c204, c205, c206], []⟩ w) :
    Code.wp Tryz.prog regH (Exit.then K' Q') ⟨#[c0, c1, c2, c3, c4, .int .i64 d, c6, c7, .int .i64 j, .slice (some ⟨R + 1 + i, 0, none⟩) d d, c10, c11, c12, c13, c14, c15, c16, c17, c18, c19, c20, c21, c22, c23, c24, c25, c26, c27, c28, c29, c30, c31, c32, c33, c34, c35, c36, c37, c38, c39, c40, c41, c42, c43, c44, c45, c46, c47, c48, c49, c50, c51, c52, c53, c54, c55, c56, c57, c58, c59, c60, c61, c62, c63, c64, c65, c66, c67, c68, c69, c70, c71, c72, c73, c74, c75, c76, c77, c78, c79, c80, c81, c82, c83, c84, c85, c86, c87, c88, c89, c90, c91, c92, c93, c94, c95, c96, c97, c98, c99, c100, c101, c102, c103, c104, c105, c106, c107, c108, c109, c110, c111, c112, c113, c114, c115, c116, c117, c118, c119, c120, c121, c122, c123, c124, c125, c126, c127, c128, c129, c130, c131, c132, c133, c134, c135, c136, c137, c138, c139, c140, c141, c142, c143, c144, c145, c146, c147, c148, c149, c150, c151, c152, c153, c154, c155, c156, c157, c158, c159, c160, c161, c162, c163, c164, c165, c166, c167, c168, c169, c170, c171, c172, c173, c174, c175, c176, c177, c178, c179, c180, c181, c182, c183, c184, c185, c186, c187, c188, c189, c190, c191, c192, c193, c194, c195, c196, c197, c198, c199, c200, c201, c202, c203, c204, c205, c206], []⟩ w := by
  have HK := Lib.hid hK
  clear hK
  conv => arg 2; whnf
  dsimp only [List.append_eq, List.cons_append, List.nil_append]
  by_cases h6 : j + 6 < d
  · have d6 : decide ((j : Int) + 6 < (d : Int)) = true := by simp; omega
    have y0 := (h.rows i (by omega)).cell j
    rw [i8s_get (by omega)] at y0
    obtain ⟨z0, hz0⟩ : ∃ z, z = f i j := ⟨_, rfl⟩
    rw [← hz0] at y0
    clear hz0
    have y1 := (h.rows i (by omega)).cell (j + 1)
    rw [i8s_get (by omega)] at y1
    obtain ⟨z1, hz1⟩ : ∃ z, z = f i (j + 1) := ⟨_, rfl⟩
    rw [← hz1] at y1
    clear hz1
    have y2 := (h.rows i (by omega)).cell (j + 2)
    rw [i8s_get (by omega)] at y2
    obtain ⟨z2, hz2⟩ : ∃ z, z = f i (j + 2) := ⟨_, rfl⟩
    rw [← hz2] at y2
    clear hz2
    have y3 := (h.rows i (by omega)).cell (j + 3)
    rw [i8s_get (by omega)] at y3
    obtain ⟨z3, hz3⟩ : ∃ z, z = f i (j + 3) := ⟨_, rfl⟩
    rw [← hz3] at y3
    clear hz3
    have y4 := (h.rows i (by omega)).cell (j + 4)
    rw [i8s_get (by omega)] at y4
    obtain ⟨z4, hz4⟩ : ∃ z, z = f i (j + 4) := ⟨_, rfl⟩
    rw [← hz4] at y4
    clear hz4
    have y5 := (h.rows i (by omega)).cell (j + 5)
    rw [i8s_get (by omega)] at y5
    obtain ⟨z5, hz5⟩ : ∃ z, z = f i (j + 5) := ⟨_, rfl⟩
    rw [← hz5] at y5
    clear hz5
    have y6 := (h.rows i (by omega)).cell (j + 6)
    rw [i8s_get (by omega)] at y6
    obtain ⟨z6, hz6⟩ : ∃ z, z = f i (j + 6) := ⟨_, rfl⟩
    rw [← hz6] at y6
    clear hz6
    go_wp2_with ((go_at_call 196; refine (whiteH_any (h.rows i (by omega)) _ _ (by omega) (by omega) (by omega) (by omega) hd2).mono ?_; rintro e w2' ⟨b1, rfl, rfl⟩))
    all_goals (exact HK.out _ _ _ _ _ _ _ _ _ _ _ _ _ _ _ _ _ _ _ _ _ _ _ _ _ _ _ _ _ _ _ _ _ _ _ _ _ _ _ _ _ _ _ _ _ _ _ _ _ _ _ _ _ _ _ _ _ _ _ _ _ _ _ _ _ _ _ _ _ _ _ _ _ _ ⟨_, rfl⟩)
  · have d6 : decide ((j : Int) + 6 < (d : Int)) = false := by simp; omega
    go_wp2_with fail
    exact HK.out _ _ _ _ _ _ _ _ _ _ _ _ _ _ _ _ _ _ _ _ _ _ _ _ _ _ _ _ _ _ _ _ _ _ _ _ _ _ _ _ _ _ _ _ _ _ _ _ _ _ _ _ _ _ _ _ _ _ _ _ _ _ _ _ _ _ _ _ _ _ _ _ _ _ ⟨_, rfl⟩
end
end Go.Proofs.YtcekbhhpcmhicaaGreatDoor
namespace Go.Proofs.YtcekbhhpcmhicaaGreatDoor
open Go.RowKit Go.QW Go.QM Go.QV Go.QZ
section
variable {w : World} {A R d : Nat} {f : Cells}
noncomputable def regV : Code := ((Tryz.f157.body.bind (findReg 14)).getD .skip)
set_option maxHeartbeats 100000000 in
set_option maxRecDepth 1000000 in
theorem regV_any {i j : Nat} {K' : Act → World → Prop} {Q' : Exit → Act → World → Prop} {c0 c1 c2 c3 c5 c9 c10 c11 c12 c13 c14 c15 c16 c17 c18 c19 c20 c21 c22 c23 c24 c25 c26 c27 c28 c29 c30 c31 c32 c33 c34 c35 c36 c37 c38 c39 c40 c41 c42 c43 c44 c45 c46 c47 c48 c49 c50 c51 c52 c53 c54 c55 c56 c57 c58 c59 c60 c61 c62 c63 c64 c65 c66 c67 c68 c69 c70 c71 c72 c73 c74 c75 c76 c77 c78 c79 c80 c81 c82 c83 c84 c85 c86 c87 c88 c89 c90 c91 c92 c93 c94 c95 c96 c97 c98 c99 c100 c101 c102 c103 c104 c105 c106 c107 c108 c109 c110 c111 c112 c113 c114 c115 c116 c117 c118 c119 c120 c121 c122 c123 c124 c125 c126 c127 c128 c129 c130 c131 c132 c133 c134 c135 c136 c137 c138 c139 c140 c141 c142 c143 c144 c145 c146 c147 c148 c149 c150 c151 c152 c153 c154 c155 c156 c157 c158 c159 c160 c161 c162 c163 c164 c165 c166 c167 c168 c169 c170 c171 c172 c173 c174 c175 c176 c177 c178 c179 c180 c181 c182 c183 c184 c185 c186 c187 c188 c189 c190 c191 c192 c193 c194 c195 c196 c197 c198 c199 c200 c201 c202 c203 c204 c205 c206 : Value} (h : Mat w A R d f) (hd2 : d ≤ 200) (hi : i < d) (hj : j < d)
    (hK : ∀ v106 v107 v108 v109 v110 v111 v112 v113 v114 v115 v116 v117 v118 v119 v120 v121 v122 v123 v124 v125 v126 v127 v128 v129 v130 v131 v132 v133 v134 v135 v136 v137 v138 v139 v140 v141 v142 v143 v144 v145 v146 v147 v148 v149 v150 v151 v152 v153 v154 v155 v156 v157 v158 v159 v160 v161 v162 v163 v164 v165 v166 v167 v168 v169 v170 v171 v172 v173 v174 v175 v176 v177 v178 v179 v180 v181 v182 v183 v184 v185 v186 v187 v188 v189 v190 v191 v192 v193 v194 v195 v196 v197 v198 v199 v200 v201 v202 : Value, SomeV v202 → K' ⟨#[c0, c1, c2, c3, .slice (some ⟨R, 0, none⟩) d d, c5, .int .i64 d, .int .i64 i, .int .i64 j, c9, c10, c11, c12, c13, c14, c15, c16, c17, c18, c19, c20, c21, c22, c23, c24, c25, c26, c27, c28, c29, c30, c31, c32, c33, c34, c35, c36, c37, c38, c39, c40, c41, c42, c43, c44, c45, c46, c47, c48, c49, c50, c51, c52, c53, c54, c55, c56, c57, c58, c59, c60, c61, c62, c63, c64, c65, c66, c67, c68, c69, c70, c71, c72, c73, c74, c75, c76, c77, c78, c79, c80, c81, c82, c83, c84, c85, c86, c87, c88, c89, c90, c91, c92, c93, c94, c95, c96, c97, c98, c99, c100, c101, c102, c103, c104, c105, v106, v107, v108, v109, v110, v111, v112, v113, v114, v115, v116, v117, v118, v119, v120, v121, v122, v123, v124, v125, v126, v127, v128, v129, v130, v131, v132, v133, v134, v135, v136, v137, v138, v139, v140, v141, v142, v143, v144, v145, v146, v147, v148, v149, v150, v151, v152, v153, v154, v155, v156, v157, v158, v159, v160, v161, v162, v163, v164, v165, v166, v167, v168, v169, v170, v171, v172, v173, v174, v175, v176, v177, v178, v179, v180, v181, v182, v183, v184, v185, v186, v187, v188, v189, v190, v191, v192, v193, v194, v195, v196, v197, v198, v199, v200, v201, v202, c203, c204, c205, c206], []⟩ w) :
    Code.wp Tryz.prog regV (Exit.then K' Q') ⟨#[c0, c1, c2, c3, .slice (some ⟨R, 0, none⟩) d d, c5, .int .i64 d, .int .i64 i, .int .i64 j, c9, c10, c11, c12, c13, c14, c15, c16, c17, c18, c19, c20, c21, c22, c23, c24, c25, c26, c27, c28, c29, c30, c31, c32, c33, c34, c35, c36, c37, c38, c39, c40, c41, c42, c43, c44, c45, c46, c47, c48, c49, c50, c51, c52, c53, c54, c55, c56, c57, c58, c59, c60, c61, c62, c63, c64, c65, c66, c67, c68, c69, c70, c71, c72, c73, c74, c75, c76, c77, c78, c79, c80, c81, c82, c83, c84, c85, c86, c87, c88, c89, c90, c91, c92, c93, c94, c95, c96, c97, c98, c99, c100, c101, c102, c103, c104, c105, c106, c107, c108, c109, c110, c111, c112, c113, c114, c115, c116, c117, c118, c119, c120, c121, c122, c123, c124, c125, c126, c127, c128, c129, c130, c131, c132, c133, c134, c135, c136, c137, c138, c139, c140, c141, c142, c143, c144, c145, c146, c147, c148, c149, c150, c151, c152, c153, c154, c155, c156, c157, c158, c159, c160, c161, c162, c163, c164, c165, c166, c167, c168, c169, c170, c171, c172, c173, c174, c175, c176, c177, c178, c179, c180, c181, c182, c183, c184, c185, c186, c187, c188, c189, c190, c191, c192, c193, c194, c195, c196, c197, c198, c199, c200, c201, c202, c203, c204, c205, c206], []⟩ w := by
  have HK := Lib.hid hK
  clear hK
  conv => arg 2; whnf
  dsimp only [List.append_eq, List.cons_append, List.nil_append]
  by_cases h6 : i + 6 < d
  · have d6 : decide ((i : Int) + 6 < (d : Int)) = true := by simp; omega
    have r0 := h.hR.cell i
    rw [rowPtrs_get (by omega)] at r0
    have y0 := (h.rows i (by omega)).cell j
    rw [i8s_get (by omega)] at y0
    obtain ⟨z0, hz0⟩ : ∃ z, z = f i j := ⟨_, rfl⟩
    rw [← hz0] at y0
    clear hz0
    have r1 := h.hR.cell (i + 1)
    rw [rowPtrs_get (by omega)] at r1
    have y1 := (h.rows (i + 1) (by omega)).cell j
    rw [i8s_get (by omega)] at y1
    obtain ⟨z1, hz1⟩ : ∃ z, z = f (i + 1) j := ⟨_, rfl⟩
    rw [← hz1] at y1
    clear hz1
    have r2 := h.hR.cell (i + 2)
    rw [rowPtrs_get (by omega)] at r2
    have y2 := (h.rows (i + 2) (by omega)).cell j
    rw [i8s_get (by omega)] at y2
    obtain ⟨z2, hz2⟩ : ∃ z, z = f (i + 2) j := ⟨_, rfl⟩
    rw [← hz2] at y2
    clear hz2
    have r3 := h.hR.cell (i + 3)
    rw [rowPtrs_get (by omega)] at r3
    have y3 := (h.rows (i + 3) (by omega)).cell j
    rw [i8s_get (by omega)] at y3
    obtain ⟨z3, hz3⟩ : ∃ z, z = f (i + 3) j := ⟨_, rfl⟩
    rw [← hz3] at y3
    clear hz3
    have r4 := h.hR.cell (i + 4)
    rw [rowPtrs_get (by omega)] at r4
    have y4 := (h.rows (i + 4) (by omega)).cell j
    rw [i8s_get (by omega)] at y4
    obtain ⟨z4, hz4⟩ : ∃ z, z = f (i + 4) j := ⟨_, rfl⟩
    rw [← hz4] at y4
    clear hz4
    have r5 := h.hR.cell (i + 5)
    rw [rowPtrs_get (by omega)] at r5
    have y5 := (h.rows (i + 5) (by omega)).cell j
    rw [i8s_get (by omega)] at y5
    obtain ⟨z5, hz5⟩ : ∃ z, z = f (i + 5) j := ⟨_, rfl⟩
    rw [← hz5] at y5
    clear hz5
    have r6 := h.hR.cell (i + 6)
    rw [rowPtrs_get (by omega)] at r6
    have y6 := (h.rows (i + 6) (by omega)).cell j
    rw [i8s_get (by omega)] at y6
    obtain ⟨z6, hz6⟩ : ∃ z, z = f (i + 6) j := ⟨_, rfl⟩
    rw [← hz6] at y6
    clear hz6
    go_wp2_with ((go_at_call 197; refine (whiteV_any h (show j < d by omega) _ _ (by omega) (by omega) (by omega) (by omega) hd2).mono ?_; rintro e w2' ⟨b1, rfl, rfl⟩))
    all_goals (exact HK.out _ _ _ _ _ _ _ _ _ _ _ _ _ _ _ _ _ _ _ _ _ _ _ _ _ _ _ _ _ _ _ _ _ _ _ _ _ _ _ _ _ _ _ _ _ _ _ _ _ _ _ _ _ _ _ _ _ _ _ _ _ _ _ _ _ _ _ _ _ _ _ _ _ _ _ _ _ _ _ _ _ _ _ _ _ _ _ _ _ _ _ _ _ _ _ _ _ ⟨_, rfl⟩)
  · have d6 : decide ((i : Int) + 6 < (d : Int)) = false := by simp; omega
    go_wp2_with fail
    exact HK.out _ _ _ _ _ _ _ _ _ _ _ _ _ _ _ _ _ _ _ _ _ _ _ _ _ _ _ _ _ _ _ _ _ _ _ _ _ _ _ _ _ _ _ _ _ _ _ _ _ _ _ _ _ _ _ _ _ _ _ _ _ _ _ _ _ _ _ _ _ _ _ _ _ _ _ _ _ _ _ _ _ _ _ _ _ _ _ _ _ _ _ _ _ _ _ _ _ ⟨_, rfl⟩
end
end Go.Proofs.YtcekbhhpcmhicaaGreatDoor
namespace Go.Proofs.YtcekbhhpcmhicaaGreatDoor
open Go.RowKit Go.QW Go.QM Go.QV Go.QZ
section
variable {w : World} {A R d : Nat} {f : Cells}
set_option maxHeartbeats 100000000 in
set_option maxRecDepth 100000 in
theorem rule3_any (h : Mat w A R d f) (hd : 21 ≤ d) :
    Calls Tryz.prog 157 #[.pointer (some ⟨A, 0, none⟩)] w fun e w' => ∃ p : Nat, e = .returned (.int .i64 p) ∧ p ≤ 4000000 ∧ w = w' := by
  have hd2 := h.le
  go_enter Tryz.func157, Tryz.ntmps157
  go_wp2_with fail
  refine (marray_any h).mono ?_
  rintro e w2' ⟨rfl, rfl⟩
  go_wp2_with fail
  refine (mw_any h).mono ?_
  rintro e w2' ⟨rfl, rfl⟩
  go_wp2_with fail
  refine (mh_any h).mono ?_
  rintro e w2' ⟨rfl, rfl⟩
  go_wp2_with fail
  go_loopg [3, 7] d (fun gk t3 t7 wr => ∃ p i : Nat, i ≤ d ∧ d ≤ gk + i ∧ p ≤ 400 * i ∧ t3 = .int .i64 p ∧ t7 = .int .i64 i ∧ wr = w)
  case atStart => exact ⟨0, 0, by omega, by omega, by omega, rfl, rfl, rfl⟩
  case round =>
    obtain ⟨p, i, hi, hgk, hp, rfl, rfl, rfl⟩ := hrel
    by_cases hlt : i < d
    · have hda : decide ((i : Int) < (d : Int)) = true := by simp; omega
      go_wp2_with fail
      obtain ⟨p0, rfl⟩ : ∃ p0, p0 = p := ⟨_, rfl⟩
      obtain ⟨wo, rfl⟩ : ∃ wo : World, wo = wr := ⟨_, rfl⟩
      go_loopg [3, 8] d (fun gk t3 t8 wr => ∃ p j : Nat, j ≤ d ∧ d ≤ gk + j ∧ p ≤ 400 * i + 2 * j ∧ t3 = .int .i64 p ∧ t8 = .int .i64 j ∧ wr = wo)
      case atStart => exact ⟨p0, 0, by omega, by omega, by omega, rfl, rfl, rfl⟩
      case round =>
        obtain ⟨p, j, hj, hgk2, hpn, rfl, rfl, hww⟩ := hrel
        subst hww
        by_cases hlt2 : j < d
        · have hdb : decide ((j : Int) < (d : Int)) = true := by simp; omega
          have rr := h.hR.cell i
          rw [rowPtrs_get hlt] at rr
          go_upto_region 12 with fail
          go_cut [103] (fun s wx => SomeV s ∧ wr = wx)
          case first =>
            refine regH_any h hd2 hlt hlt2 ?_
            intro v30 v31 v32 v33 v34 v35 v36 v37 v38 v39 v40 v41 v42 v43 v44 v45 v46 v47 v48 v49 v50 v51 v52 v53 v54 v55 v56 v57 v58 v59 v60 v61 v62 v63 v64 v65 v66 v67 v68 v69 v70 v71 v72 v73 v74 v75 v76 v77 v78 v79 v80 v81 v82 v83 v84 v85 v86 v87 v88 v89 v90 v91 v92 v93 v94 v95 v96 v97 v98 v99 v100 v101 v102 v103 hv
            dsimp only
            go_step
            go_meet
            exact ⟨hv, rfl⟩
          case rest =>
            obtain ⟨⟨b, rfl⟩, rfl⟩ := hcut
            go_upto_if 103 with fail
            go_cut [3] (fun s3 wx => PNext p s3 ∧ wr = wx)
            case first =>
              cases b with
              | true =>
                go_wp2_with fail
                go_meet
                exact ⟨⟨p + 1, by go_num, by omega⟩, rfl⟩
              | false =>
                go_wp2_with fail
                go_meet
                exact ⟨⟨p, rfl, by omega⟩, rfl⟩
            case rest =>
              obtain ⟨⟨p', rfl, hp'⟩, rfl⟩ := hcut
              go_upto_region 14 with fail
              go_cut [202] (fun s wx => SomeV s ∧ wr = wx)
              case first =>
                refine regV_any h hd2 hlt hlt2 ?_
                intro v106 v107 v108 v109 v110 v111 v112 v113 v114 v115 v116 v117 v118 v119 v120 v121 v122 v123 v124 v125 v126 v127 v128 v129 v130 v131 v132 v133 v134 v135 v136 v137 v138 v139 v140 v141 v142 v143 v144 v145 v146 v147 v148 v149 v150 v151 v152 v153 v154 v155 v156 v157 v158 v159 v160 v161 v162 v163 v164 v165 v166 v167 v168 v169 v170 v171 v172 v173 v174 v175 v176 v177 v178 v179 v180 v181 v182 v183 v184 v185 v186 v187 v188 v189 v190 v191 v192 v193 v194 v195 v196 v197 v198 v199 v200 v201 v202 hv
                dsimp only
                go_step
                go_meet
                exact ⟨hv, rfl⟩
              case rest =>
                obtain ⟨⟨b, rfl⟩, rfl⟩ := hcut
                cases b with
                | true =>
                  go_wp2_with fail
                  go_roundg (d - (j + 1))
                  case measure => omega
                  case rel => exact ⟨p' + 1, j + 1, by omega, by omega, by omega, by go_num, by go_num, rfl⟩
                | false =>
                  go_wp2_with fail
                  go_roundg (d - (j + 1))
                  case measure => omega
                  case rel => exact ⟨p', j + 1, by omega, by omega, by omega, rfl, by go_num, rfl⟩
        · have hdb : decide ((j : Int) < (d : Int)) = false := by simp; omega
          go_wp2_with fail
          go_roundg (d - (i + 1))
          case measure => omega
          case rel => exact ⟨p, i + 1, by omega, by omega, by omega, rfl, by go_num, rfl⟩
    · have hda : decide ((i : Int) < (d : Int)) = false := by simp; omega
      go_wp2_with fail
      go_ret
      exact ⟨p * 40, ret_int (by omega), by omega, rfl⟩
theorem penalty_any (h : Mat w A R d f) (hd : 21 ≤ d) :
    Calls Tryz.prog 122 #[.pointer (some ⟨A, 0, none⟩)] w fun e w' => ∃ p : Int, e = .returned (.int .i64 p) ∧ 0 ≤ p ∧ p ≤ 20000000 ∧ w = w' := by
  go_enter Tryz.func122, Tryz.ntmps122
  go_wp2_with fail
  refine (rule1_any h hd).mono ?_
  rintro e w2' ⟨p1, rfl, h1, rfl⟩
  go_wp2_with fail
  refine (rule2_any h hd).mono ?_
  rintro e w2' ⟨p2, rfl, h2, rfl⟩
  go_wp2_with fail
  refine (rule3_any h hd).mono ?_
  rintro e w2' ⟨p3, rfl, h3, rfl⟩
  go_wp2_with fail
  refine (rule4_any h hd).mono ?_
  rintro e w2' ⟨p4, rfl, h40, h4, rfl⟩
  go_wp2_with fail
  go_ret
  exact ⟨_, rfl, by omega, by omega, rfl⟩
end
end Go.Proofs.YtcekbhhpcmhicaaGreatDoor
namespace Go.Proofs.YtcekbhhpcmhicaaGreatDoor
open Go.RowKit Go.QW Go.QM Go.QV Go.QZ
section
variable {w : World} {A R v : Nat} {f : Cells}
set_option maxHeartbeats 8000000 in
set_option maxRecDepth 100000 in
theorem choose_mask_any {V B g cc l : Nat} {S : List Bool} (h : Mat w A R (17 + 4 * v) f) (hS : Bits w B g cc S) (hV : Ver w V v) (h1 : 1 ≤ v) (h2 : v ≤ 27) (hl : l < 4) (hroom : S.length ≤ cnt v (2 * ((8 + 2 * v) * (17 + 4 * v)))) (hSl : S.length ≤ 40000) :
    Calls Tryz.prog 70 #[.pointer (some ⟨B, 0, none⟩), .int .i64 l, .pointer (some ⟨V, 0, none⟩), .pointer (some ⟨A, 0, none⟩)] w fun e w' => ∃ (k : Nat) (f' : Cells), e = .returned (.tuple #[.int .i64 k, .nilIface]) ∧ k < 8 ∧ Mat w' A R (17 + 4 * v) f' ∧ Kp (rowsOf R (17 + 4 * v)) w w' := by
  obtain ⟨hBo, hgo⟩ := hS.norow h
  have hVo : Off w (rowsOf R (17 + 4 * v)) [3, 141, 201, 211] := h.off (by decide)
  have HR := Lib.hid hroom
  clear hroom
  go_enter Tryz.func70, Tryz.ntmps70
  go_wp2_with fail
  go_loopw [10, 11, 12] (fun t10 t11 t12 wr => ∃ (k : Nat) (mp bm : Int) (f : Cells), k ≤ 8 ∧ t12 = .int .i64 k ∧ t10 = .int .i64 mp ∧ t11 = .int .i64 bm ∧ ((k < 1 ∧ 2147483647 ≤ mp ∧ mp ≤ 2147483647) ∨ (1 ≤ k ∧ 0 ≤ bm ∧ bm < 8 ∧ 0 ≤ mp ∧ mp ≤ 2147483647)) ∧ Mat wr A R (17 + 4 * v) f ∧ Kp (rowsOf R (17 + 4 * v)) w wr) (fun _ _ t12 _ => 8 - (intOf t12).toNat)
  case atStart => exact ⟨0, 2147483647, -1, f, by omega, rfl, rfl, rfl, .inl ⟨by omega, by omega, by omega⟩, h, Kp.refl _ _⟩
  case round =>
    obtain ⟨k, mp, bm, f, hk, rfl, rfl, rfl, hc, hM, hkp⟩ := hrel
    by_cases hlt : k < 8
    · go_wp2_with fail
      refine (build_any hM (hS.kp hkp hBo hgo) (hV.kp hkp hVo) h1 h2 hl hlt HR.out hSl).mono ?_
      rintro e w1 ⟨f1, rfl, hM1, -, -, k1⟩
      go_wp2_with fail
      refine (penalty_any hM1 (by omega)).mono ?_
      rintro e w2 ⟨p, rfl, hp0, hp, rfl⟩
      by_cases hpm : p < mp
      · have hd : decide (p < mp) = true := by simp; omega
        go_wp2_with fail
        go_roundw
        case rel => exact ⟨k + 1, p, k, f1, by omega, by go_num, rfl, rfl, .inr ⟨by omega, by omega, by omega, by omega, by omega⟩, hM1, hkp.more k1⟩
        case measure => simp [intOf]; omega
      · have hd : decide (p < mp) = false := by simp; omega
        go_wp2_with fail
        go_roundw
        case rel => exact ⟨k + 1, mp, bm, f1, by omega, by go_num, rfl, rfl, .inr ⟨by omega, by omega, by omega, by omega, by omega⟩, hM1, hkp.more k1⟩
        case measure => simp [intOf]; omega
    · go_wp2_with fail
      go_ret2
      obtain ⟨m, hm⟩ := Int.eq_ofNat_of_zero_le (show 0 ≤ bm by omega)
      subst hm
      exact ⟨m, f, rfl, by omega, hM, hkp⟩
end
end Go.Proofs.YtcekbhhpcmhicaaGreatDoor
namespace Go.Proofs.YtcekbhhpcmhicaaGreatDoor
open Go.RowKit Go.QW
/-- block Q is the code: mode, level, version, mask, matrix -/
def Qr (w : World) (Q : Nat) (a b c d e : Value) : Prop := Blk w Q 137 #[a, b, c, d, e]
theorem newqr_any (w : World) :
    Calls Tryz.prog 63 #[] w fun e w' => ∃ Q, e = .returned (.pointer (some ⟨Q, 0, none⟩)) ∧ Qr w' Q (.int .i64 0) (.int .i64 0) (.pointer none) (.int .i64 (-1)) (.pointer none) ∧ w.heap.size ≤ Q ∧ Below w.heap.size w w' := by
  go_enter Tryz.func63, Tryz.ntmps63
  go_wp2
  go_ret
  exact ⟨w.heap.size, rfl, Blk.new _ _ _, Nat.le_refl _, (Below.refl _ _).alloc (Nat.le_refl _) _⟩
theorem setmode_any {w : World} {Q : Nat} {a b c d e : Value} (m : Int) (h : Qr w Q a b c d e) :
    Calls Tryz.prog 65 #[.pointer (some ⟨Q, 0, none⟩), .int .i64 m] w fun r w' => r = .returned (.tuple #[]) ∧ Qr w' Q (.int .i64 m) (b) (c) (d) (e) ∧ Kp [Q] w w' := by
  unfold Qr at h
  have c0 := h.cell 0
  have f0 := h.frozen 0
  simp only [List.getElem?_toArray, List.getElem?_cons_zero] at c0
  go_enter Tryz.func65, Tryz.ntmps65
  go_wp2
  go_end0
  exact ⟨rfl, h.set_ 0 _, (Kp.refl _ _).setCell (by simp) _⟩
theorem setlev_any {w : World} {Q : Nat} {a b c d e : Value} (m : Int) (h : Qr w Q a b c d e) :
    Calls Tryz.prog 64 #[.pointer (some ⟨Q, 0, none⟩), .int .i64 m] w fun r w' => r = .returned (.tuple #[]) ∧ Qr w' Q (a) (.int .i64 m) (c) (d) (e) ∧ Kp [Q] w w' := by
  unfold Qr at h
  have c0 := h.cell 1
  have f0 := h.frozen 1
  simp only [List.getElem?_toArray, List.getElem?_cons_zero, List.getElem?_cons_succ] at c0
  go_enter Tryz.func64, Tryz.ntmps64
  go_wp2
  go_end0
  exact ⟨rfl, h.set_ 1 _, (Kp.refl _ _).setCell (by simp) _⟩
theorem setver_any {w : World} {Q : Nat} {a b c d e : Value} (V : Nat) (h : Qr w Q a b c d e) :
    Calls Tryz.prog 66 #[.pointer (some ⟨Q, 0, none⟩), .pointer (some ⟨V, 0, none⟩)] w fun r w' => r = .returned (.tuple #[]) ∧ Qr w' Q (a) (b) (.pointer (some ⟨V, 0, none⟩)) (d) (e) ∧ Kp [Q] w w' := by
  unfold Qr at h
  have c0 := h.cell 2
  have f0 := h.frozen 2
  simp only [List.getElem?_toArray, List.getElem?_cons_zero, List.getElem?_cons_succ] at c0
  go_enter Tryz.func66, Tryz.ntmps66
  go_wp2
  go_end0
  exact ⟨rfl, h.set_ 2 _, (Kp.refl _ _).setCell (by simp) _⟩
theorem setmask_any {w : World} {Q : Nat} {a b c d e : Value} (m : Int) (h : Qr w Q a b c d e) :
    Calls Tryz.prog 71 #[.pointer (some ⟨Q, 0, none⟩), .int .i64 m] w fun r w' => r = .returned (.tuple #[]) ∧ Qr w' Q (a) (b) (c) (.int .i64 m) (e) ∧ Kp [Q] w w' := by
  unfold Qr at h
  have c0 := h.cell 3
  have f0 := h.frozen 3
  simp only [List.getElem?_toArray, List.getElem?_cons_zero, List.getElem?_cons_succ] at c0
  go_enter Tryz.func71, Tryz.ntmps71
  go_wp2
  go_end0
  exact ⟨rfl, h.set_ 3 _, (Kp.refl _ _).setCell (by simp) _⟩
theorem setmat_any {w : World} {Q : Nat} {a b c d e : Value} (M : Nat) (h : Qr w Q a b c d e) :
    Calls Tryz.prog 73 #[.pointer (some ⟨Q, 0, none⟩), .pointer (some ⟨M, 0, none⟩)] w fun r w' => r = .returned (.tuple #[]) ∧ Qr w' Q (a) (b) (c) (d) (.pointer (some ⟨M, 0, none⟩)) ∧ Kp [Q] w w' := by
  unfold Qr at h
  have c0 := h.cell 4
  have f0 := h.frozen 4
  simp only [List.getElem?_toArray, List.getElem?_cons_zero, List.getElem?_cons_succ] at c0
  go_enter Tryz.func73, Tryz.ntmps73
  go_wp2
  go_end0
  exact ⟨rfl, h.set_ 4 _, (Kp.refl _ _).setCell (by simp) _⟩
end Go.Proofs.YtcekbhhpcmhicaaGreatDoor
namespace Go.Proofs.YtcekbhhpcmhicaaGreatDoor
open Go.RowKit Go.QW Go.Maps
theorem key_law : Keyed Tryz.prog 49 := int_keyed Tryz.underlying49
theorem zero_any (w : World) : (zeroValue 20).run Tryz.prog w = .ok .nilIface w := by kernel_rfl
set_option maxRecDepth 100000 in
theorem lookup_none (w : World) (b : Nat) (hb : w.heap[b]? = some (.map #[] 0)) (k : Int) (hk : (Lit.int .i64 k).wf = true) :
    (Instr.lookup 48 (.map (some b)) (.int .i64 k) true).run Tryz.prog w = .ok (.tuple #[.nilIface, .bool false]) w := by
  obtain ⟨es, clock, hb', F, _, _⟩ := World.ownsMap_made (H := Unit) w Tryz.prog 49 (plainElem Tryz.prog 20)
  have he : some (Obj.map #[] 0) = some (Obj.map es clock) := (heap_alloc_new w _).symm.trans hb'
  injection he with he
  injection he with h1 h2
  subst h1 h2
  rcases fit_look true key_law Tryz.underlying48 (w := w) (z := .nilIface) (zero_any w) hb F (keyOf_int_mk Tryz.underlying49 hk) with ⟨h, _⟩ | ⟨e0, y, hm, _⟩
  · exact h
  · simp at hm
end Go.Proofs.YtcekbhhpcmhicaaGreatDoor
