import Derived.Test.Qxb6000847aMl1
namespace Go.Proofs.Qxb6000847a
open Go.RowKit
set_option linter.unusedSimpArgs false
set_option linter.unusedVariables false

set_option maxHeartbeats 8000000 in
set_option maxRecDepth 1000000 in
theorem mloop3 (RR : Ending → World → Prop) (KK : Act → World → Prop) (v0 v1 v2 v4 v5 v6 v7 v8 v9 v10 v11 v14 v15 v16 v17 v18 v19 v20 v21 v22 v23 v24 v25 v26 v27 v28 v29 v30 v31 v32 v33 v34 v35 v36 v37 v38 v39 v40 v41 v42 v43 v44 v45 v46 v47 v48 v49 v50 v51 v52 v53 v54 v55 v56 v57 v58 v59 v60 v61 v62 v63 v64 v65 v66 v67 v68 v69 v70 v71 v72 v73 v74 v75 v76 v77 v78 v79 v80 v81 v82 v83 v84 v85 v86 v87 v88 v89 v90 v91 v92 v93 v94 v95 v96 v97 v98 v99 v100 v101 v102 v103 v104 v105 v106 v107 v108 v109 v110 v111 v112 v113 v114 v115 v116 v117 v118 v119 v120 v121 v122 v123 v124 v125 v126 v127 v128 v129 v130 v131 v132 v133 v134 v135 v136 v137 v138 v139 v140 v141 v142 v143 v144 v145 v146 v147 v148 v149 v150 v151 v152 v153 v154 v155 v156 v157 v158 v159 v160 v161 v162 v163 v164 v165 v166 v167 v168 v169 v170 v171 v174 v175 v176 v177 v178 v179 v180 v181 v182 v183 v184 v185 v186 v187 v188 v189 v190 v191 v192 v193 v194 v195 v196 v197 v198 v199 v200 v201 v202 v203 v204 v205 v206 v207 v208 v209 v210 v211 v212 v213 v214 v215 v216 v217 v218 v219 v220 v221 v222 v223 v224 v225 v226 v227 v228 v229 v230 v231 v232 v233 v234 v235 v236 v237 v238 v239 v240 v241 v242 v243 v244 v245 v246 v247 v248 v249 v250 v251 v252 v253 v254 v255 v256 v257 v258 v259 v260 v261 v262 v263 v264 v265 v266 v267 v268 v269 v270 v271 v272 v273 v274 v275 v276 v277 v278 v279 v280 v281 v282 v283 v284 v285 v286 v287 v288 v289 v290 v291 v292 v293 v294 v295 v296 v297 v298 v299 v300 v301 v302 v303 v304 v305 v306 v307 v308 v309 v310 v311 v312 v313 v314 : Value) (n : Nat) (K C : Nat → Int) (w w0 : World) (hn : n ≤ 65536) (CB : Nat) (h0 : St3 w w0 CB n 0 K C)
    (hexit : ∀ (u12 u13 u14 u15 u173 u174 u175 u176 u177 u178 u179 u180 u181 u182 u183 u184 u185 u186 u187 u188 u189 u190 u191 u192 u193 u194 u195 u196 u197 u198 u199 u200 u201 u202 u203 u204 u205 u206 u207 u208 u209 u210 : Value) (wx : World), St3 w wx CB n ((n + 63) / 64) K C → KK ⟨(List.toArray (v0 :: v1 :: v2 :: (.pointer (some ⟨w.heap.size + 1 + 1, 0, none⟩)) :: v4 :: v5 :: v6 :: v7 :: v8 :: v9 :: v10 :: v11 :: u12 :: u13 :: u14 :: u15 :: v16 :: v17 :: v18 :: v19 :: v20 :: v21 :: v22 :: v23 :: v24 :: v25 :: v26 :: v27 :: v28 :: v29 :: v30 :: v31 :: v32 :: v33 :: v34 :: v35 :: v36 :: v37 :: v38 :: v39 :: v40 :: v41 :: v42 :: v43 :: v44 :: v45 :: v46 :: v47 :: v48 :: v49 :: v50 :: v51 :: v52 :: v53 :: v54 :: v55 :: v56 :: v57 :: v58 :: v59 :: v60 :: v61 :: v62 :: v63 :: v64 :: v65 :: v66 :: v67 :: v68 :: v69 :: v70 :: v71 :: v72 :: v73 :: v74 :: v75 :: v76 :: v77 :: v78 :: v79 :: v80 :: v81 :: v82 :: v83 :: v84 :: v85 :: v86 :: v87 :: v88 :: v89 :: v90 :: v91 :: v92 :: v93 :: v94 :: v95 :: v96 :: v97 :: v98 :: v99 :: v100 :: v101 :: v102 :: v103 :: v104 :: v105 :: v106 :: v107 :: v108 :: v109 :: v110 :: v111 :: v112 :: v113 :: v114 :: v115 :: v116 :: v117 :: v118 :: v119 :: v120 :: v121 :: v122 :: v123 :: v124 :: v125 :: v126 :: v127 :: v128 :: v129 :: v130 :: v131 :: v132 :: v133 :: v134 :: v135 :: v136 :: v137 :: v138 :: v139 :: v140 :: v141 :: v142 :: v143 :: v144 :: v145 :: v146 :: v147 :: v148 :: v149 :: v150 :: v151 :: v152 :: v153 :: v154 :: v155 :: v156 :: v157 :: v158 :: v159 :: v160 :: v161 :: v162 :: v163 :: v164 :: v165 :: v166 :: v167 :: v168 :: v169 :: v170 :: v171 :: (.int .i64 (((n : Int) + 63) / 64)) :: u173 :: u174 :: u175 :: u176 :: u177 :: u178 :: u179 :: u180 :: u181 :: u182 :: u183 :: u184 :: u185 :: u186 :: u187 :: u188 :: u189 :: u190 :: u191 :: u192 :: u193 :: u194 :: u195 :: u196 :: u197 :: u198 :: u199 :: u200 :: u201 :: u202 :: u203 :: u204 :: u205 :: u206 :: u207 :: u208 :: u209 :: u210 :: v211 :: v212 :: v213 :: v214 :: v215 :: v216 :: v217 :: v218 :: v219 :: v220 :: v221 :: v222 :: v223 :: v224 :: v225 :: v226 :: v227 :: v228 :: v229 :: v230 :: v231 :: v232 :: v233 :: v234 :: v235 :: v236 :: v237 :: v238 :: v239 :: v240 :: v241 :: v242 :: v243 :: v244 :: v245 :: v246 :: v247 :: v248 :: v249 :: v250 :: v251 :: v252 :: v253 :: v254 :: v255 :: v256 :: v257 :: v258 :: v259 :: v260 :: v261 :: v262 :: v263 :: v264 :: v265 :: v266 :: v267 :: v268 :: v269 :: v270 :: v271 :: v272 :: v273 :: v274 :: v275 :: v276 :: v277 :: v278 :: v279 :: v280 :: v281 :: v282 :: v283 :: v284 :: v285 :: v286 :: v287 :: v288 :: v289 :: v290 :: v291 :: v292 :: v293 :: v294 :: v295 :: v296 :: v297 :: v298 :: v299 :: v300 :: v301 :: v302 :: v303 :: v304 :: v305 :: v306 :: v307 :: v308 :: v309 :: v310 :: v311 :: v312 :: v313 :: v314 :: List.nil)), []⟩ wx) :
    Code.wp Try.prog (Code.loop (((Try.f19.body.map loopsOf).getD []).getD 2 .skip)) (Exit.inBlock 5 (Exit.then KK (bodyPost Try.prog Try.f19 RR))) ⟨(List.toArray (v0 :: v1 :: v2 :: (.pointer (some ⟨w.heap.size + 1 + 1, 0, none⟩)) :: v4 :: v5 :: v6 :: v7 :: v8 :: v9 :: v10 :: v11 :: (.int .i64 (-1)) :: (.int .i64 (-1)) :: v14 :: v15 :: v16 :: v17 :: v18 :: v19 :: v20 :: v21 :: v22 :: v23 :: v24 :: v25 :: v26 :: v27 :: v28 :: v29 :: v30 :: v31 :: v32 :: v33 :: v34 :: v35 :: v36 :: v37 :: v38 :: v39 :: v40 :: v41 :: v42 :: v43 :: v44 :: v45 :: v46 :: v47 :: v48 :: v49 :: v50 :: v51 :: v52 :: v53 :: v54 :: v55 :: v56 :: v57 :: v58 :: v59 :: v60 :: v61 :: v62 :: v63 :: v64 :: v65 :: v66 :: v67 :: v68 :: v69 :: v70 :: v71 :: v72 :: v73 :: v74 :: v75 :: v76 :: v77 :: v78 :: v79 :: v80 :: v81 :: v82 :: v83 :: v84 :: v85 :: v86 :: v87 :: v88 :: v89 :: v90 :: v91 :: v92 :: v93 :: v94 :: v95 :: v96 :: v97 :: v98 :: v99 :: v100 :: v101 :: v102 :: v103 :: v104 :: v105 :: v106 :: v107 :: v108 :: v109 :: v110 :: v111 :: v112 :: v113 :: v114 :: v115 :: v116 :: v117 :: v118 :: v119 :: v120 :: v121 :: v122 :: v123 :: v124 :: v125 :: v126 :: v127 :: v128 :: v129 :: v130 :: v131 :: v132 :: v133 :: v134 :: v135 :: v136 :: v137 :: v138 :: v139 :: v140 :: v141 :: v142 :: v143 :: v144 :: v145 :: v146 :: v147 :: v148 :: v149 :: v150 :: v151 :: v152 :: v153 :: v154 :: v155 :: v156 :: v157 :: v158 :: v159 :: v160 :: v161 :: v162 :: v163 :: v164 :: v165 :: v166 :: v167 :: v168 :: v169 :: v170 :: v171 :: (.int .i64 (((n : Int) + 63) / 64)) :: (.int .i64 0) :: v174 :: v175 :: v176 :: v177 :: v178 :: v179 :: v180 :: v181 :: v182 :: v183 :: v184 :: v185 :: v186 :: v187 :: v188 :: v189 :: v190 :: v191 :: v192 :: v193 :: v194 :: v195 :: v196 :: v197 :: v198 :: v199 :: v200 :: v201 :: v202 :: v203 :: v204 :: v205 :: v206 :: v207 :: v208 :: v209 :: v210 :: v211 :: v212 :: v213 :: v214 :: v215 :: v216 :: v217 :: v218 :: v219 :: v220 :: v221 :: v222 :: v223 :: v224 :: v225 :: v226 :: v227 :: v228 :: v229 :: v230 :: v231 :: v232 :: v233 :: v234 :: v235 :: v236 :: v237 :: v238 :: v239 :: v240 :: v241 :: v242 :: v243 :: v244 :: v245 :: v246 :: v247 :: v248 :: v249 :: v250 :: v251 :: v252 :: v253 :: v254 :: v255 :: v256 :: v257 :: v258 :: v259 :: v260 :: v261 :: v262 :: v263 :: v264 :: v265 :: v266 :: v267 :: v268 :: v269 :: v270 :: v271 :: v272 :: v273 :: v274 :: v275 :: v276 :: v277 :: v278 :: v279 :: v280 :: v281 :: v282 :: v283 :: v284 :: v285 :: v286 :: v287 :: v288 :: v289 :: v290 :: v291 :: v292 :: v293 :: v294 :: v295 :: v296 :: v297 :: v298 :: v299 :: v300 :: v301 :: v302 :: v303 :: v304 :: v305 :: v306 :: v307 :: v308 :: v309 :: v310 :: v311 :: v312 :: v313 :: v314 :: List.nil)), []⟩ w0 := by
  have HEX := Hid.mk' hexit
  clear hexit
  conv => arg 2; arg 1; whnf
  go_loopg [12, 13, 173] ((n + 63) / 64) (fun g s12 s13 s173 wr => ∃ t : Nat, t ≤ (n + 63) / 64 ∧ g = (n + 63) / 64 - t ∧ s173 = .int .i64 t ∧ s12 = .int .i64 (barW K C n t) ∧ s13 = .int .i64 (endW K C n t) ∧ St3 w wr CB n t K C)
  case atStart => exact ⟨0, Nat.zero_le _, rfl, rfl, rfl, rfl, h0⟩
  case round =>
    obtain ⟨t, ht, rfl, rfl, rfl, rfl, hO3⟩ := hrel
    clear h0
    by_cases htn : t < (n + 63) / 64
    · have d0 : wr.cell? ⟨w.heap.size + 1 + 1, 0, none⟩ = some (.slice (some ⟨w.heap.size + 1, 0, none⟩) ((n + 63) / 64) ((n + 63) / 64)) := hO3.st.m.cell' 0 0 rfl (by omega) (by omega)
      have m1 := hO3.st.wds.cell' t 1 (o := t * 10 + 1) (by omega) htn (by omega)
      have m2 := hO3.st.wds.cell' t 2 (o := t * 10 + 2) (by omega) htn (by omega)
      have m6 := hO3.st.wds.cell' t 6 (o := t * 10 + 6) (by omega) htn (by omega)
      have m8 := hO3.st.wds.cell' t 8 (o := t * 10 + 8) (by omega) htn (by omega)
      have m9 := hO3.st.wds.cell' t 9 (o := t * 10 + 9) (by omega) htn (by omega)
      simp only [maskCell3, Nat.reduceLT, if_true] at m1 m2 m6
      have f0 : ∀ o, wr.frozen? ⟨w.heap.size + 1, o, none⟩ = false := hO3.st.wds.frozen
      have f08 := f0 (t * 10 + 8)
      have f09 := f0 (t * 10 + 9)
      obtain ⟨X1, hX1⟩ : ∃ X, X = maskAt K C n t 1 := ⟨_, rfl⟩
      obtain ⟨X2, hX2⟩ : ∃ X, X = maskAt K C n t 2 := ⟨_, rfl⟩
      obtain ⟨X6, hX6⟩ : ∃ X, X = maskAt K C n t 6 := ⟨_, rfl⟩
      rw [← hX1] at m1; rw [← hX2] at m2; rw [← hX6] at m6
      have lX1 : X1 < 18446744073709551616 := by rw [hX1]; exact maskAt_lt _ _ _ _ _
      have lX2 : X2 < 18446744073709551616 := by rw [hX2]; exact maskAt_lt _ _ _ _ _
      have lX6 : X6 < 18446744073709551616 := by rw [hX6]; exact maskAt_lt _ _ _ _ _
      have o1 : bits .or .u64 (X2 : Int) (X1 : Int) = ((X2 ||| X1 : Nat) : Int) := bits_or_u64_nat _ _ lX2 lX1
      have o2 : bits .or .u64 ((X2 ||| X1 : Nat) : Int) (X6 : Int) = ((X2 ||| X1 ||| X6 : Nat) : Int) := bits_or_u64_nat _ _ (Nat.or_lt_two_pow (n := 64) lX2 lX1) lX6
      have HX : Hid (X1 = maskAt K C n t 1 ∧ X2 = maskAt K C n t 2 ∧ X6 = maskAt K C n t 6) := ⟨hX1, hX2, hX6⟩
      clear hX1 hX2 hX6
      have hsz3 := hO3.st.size
      have close : ∀ (q : Nat) (vb ve : Int), vb = barW K C n (t + 1) → ve = endW K C n (t + 1) → ∃ t' : Nat, t' ≤ (n + 63) / 64 ∧ (n + 63) / 64 - (t + 1) = (n + 63) / 64 - t' ∧ Value.int .i64 ((t : Int) + 1) = .int .i64 (t' : Int) ∧ Value.int .i64 vb = .int .i64 (barW K C n t') ∧ Value.int .i64 ve = .int .i64 (endW K C n t') ∧
          St3 w (((wr.drewN q).setCell ⟨w.heap.size + 1, t * 10 + 8, none⟩ (.int .i64 vb)).setCell ⟨w.heap.size + 1, t * 10 + 9, none⟩ (.int .i64 ve)) CB n t' K C :=
        fun q vb ve hb he => ⟨t + 1, by omega, rfl, by go_num, by rw [hb], by rw [he], st3_step hO3 vb ve hb he q⟩
      have CL := Hid.mk' close
      clear close
      by_cases hbz : X2 ||| X1 ||| X6 = 0
      · have h6z : X6 = 0 := by
          have := Nat.or_eq_zero_iff.1 hbz
          exact this.2
        have tb : (((X2 ||| X1 ||| X6 : Nat) : Int) != 0) = false := by rw [hbz]; rfl
        have te : ((X6 : Int) != 0) = false := by rw [h6z]; rfl
        have HZ : Hid (X2 ||| X1 ||| X6 = 0 ∧ X6 = 0) := ⟨hbz, h6z⟩
        clear hbz h6z
        go_wp2
        go_quiet (fail)
        go_wp2
        go_roundg ((n + 63) / 64 - (t + 1))
        case measure => omega
        case rel => exact CL.out nq _ _ (barW_no _ _ _ _ (by rw [← HX.out.1, ← HX.out.2.1, ← HX.out.2.2]; exact HZ.out.1)).symm (endW_no _ _ _ _ (by rw [← HX.out.2.2]; exact HZ.out.2)).symm
      · have tb : (((X2 ||| X1 ||| X6 : Nat) : Int) != 0) = true := by rw [bne_iff_ne]; omega
        have HZ : Hid (X2 ||| X1 ||| X6 ≠ 0) := hbz
        clear hbz
        by_cases h6z : X6 = 0
        · have te : ((X6 : Int) != 0) = false := by rw [h6z]; rfl
          have HE : Hid (X6 = 0) := h6z
          clear h6z
          go_wp2
          go_quiet (fail)
          go_wp2
          go_roundg ((n + 63) / 64 - (t + 1))
          case measure => omega
          case rel => exact CL.out nq _ _ (barW_yes _ _ _ _ (by rw [← HX.out.1, ← HX.out.2.1, ← HX.out.2.2]; exact HZ.out)).symm (endW_no _ _ _ _ (by rw [← HX.out.2.2]; exact HE.out)).symm
        · have te : ((X6 : Int) != 0) = true := by rw [bne_iff_ne]; omega
          have HE : Hid (X6 ≠ 0) := h6z
          clear h6z
          go_wp2
          go_quiet (fail)
          go_wp2
          go_roundg ((n + 63) / 64 - (t + 1))
          case measure => omega
          case rel => exact CL.out nq _ _ (barW_yes _ _ _ _ (by rw [← HX.out.1, ← HX.out.2.1, ← HX.out.2.2]; exact HZ.out)).symm (endW_yes _ _ _ _ (by rw [← HX.out.2.2]; exact HE.out)).symm
    · obtain rfl : t = (n + 63) / 64 := by omega
      go_wp2
      exact HEX.out _ _ _ _ _ _ _ _ _ _ _ _ _ _ _ _ _ _ _ _ _ _ _ _ _ _ _ _ _ _ _ _ _ _ _ _ _ _ _ _ _ _ _ hO3

end Go.Proofs.Qxb6000847a
