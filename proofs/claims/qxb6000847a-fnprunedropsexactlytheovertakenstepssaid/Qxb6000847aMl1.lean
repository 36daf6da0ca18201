import Derived.Test.Qxb6000847aMst5
import Derived.Deep.DeepCutAuto
namespace Go.Proofs.Qxb6000847a
open Go.RowKit
set_option linter.unusedSimpArgs false
set_option linter.unusedVariables false

def loopsOf : Code → List Code
  | .loop c => [c]
  | .seq a b => loopsOf a ++ loopsOf b
  | .block _ c => loopsOf c
  | .cond _ a b => loopsOf a ++ loopsOf b
  | _ => []

set_option maxHeartbeats 8000000 in
set_option maxRecDepth 1000000 in
theorem mloop1 (RR : Ending → World → Prop) (KK : Act → World → Prop) (v1 v2 v3 v5 v6 v7 v8 v9 v10 v11 v12 v13 v14 v15 v16 v17 v18 v19 v20 v21 v22 v23 v24 v25 v26 v27 v28 v29 v33 v34 v35 v36 v37 v38 v39 v40 v41 v42 v43 v44 v45 v46 v47 v48 v49 v50 v51 v52 v53 v54 v55 v56 v57 v58 v59 v60 v61 v62 v63 v64 v65 v66 v67 v68 v69 v70 v71 v72 v73 v74 v75 v76 v77 v78 v79 v80 v81 v82 v83 v84 v85 v86 v87 v88 v89 v90 v91 v92 v93 v94 v95 v96 v97 v98 v99 v100 v101 v102 v103 v104 v105 v106 v107 v108 v109 v110 v111 v112 v113 v114 v115 v116 v117 v118 v119 v120 v121 v122 v123 v124 v125 v126 v127 v128 v129 v130 v131 v132 v133 v134 v135 v136 v137 v138 v139 v140 v141 v142 v143 v144 v145 v146 v147 v148 v149 v150 v151 v152 v153 v154 v155 v156 v157 v158 v159 v160 v161 v162 v163 v164 v165 v166 v167 v168 v169 v170 v171 v172 v173 v174 v175 v176 v177 v178 v179 v180 v181 v182 v183 v184 v185 v186 v187 v188 v189 v190 v191 v192 v193 v194 v195 v196 v197 v198 v199 v200 v201 v202 v203 v204 v205 v206 v207 v208 v209 v210 v211 v212 v213 v214 v215 v216 v217 v218 v219 v220 v221 v222 v223 v224 v225 v226 v227 v228 v229 v230 v231 v232 v233 v234 v235 v236 v237 v238 v239 v240 v241 v242 v243 v244 v245 v246 v247 v248 v249 v250 v251 v252 v253 v254 v255 v256 v257 v258 v259 v260 v261 v262 v263 v264 v265 v266 v267 v268 v269 v270 v271 v272 v273 v274 v275 v276 v277 v278 v279 v280 v281 v282 v283 v284 v285 v286 v287 v288 v289 v290 v291 v292 v293 v294 v295 v296 v297 v298 v299 v300 v301 v302 v303 v304 v305 v306 v307 v308 v309 v310 v311 v312 v313 v314 : Value) (bs n : Nat) (K C : Nat → Int) (w w0 : World) (hS : Grid w bs 71 4 n (stepCell K C)) (hn : n ≤ 65536) (hbs : bs < w.heap.size) (h0 : St w w0 ((n + 63) / 64) (fun _ j => zeroWord j) (.slice none 0 0))
    (hexit : ∀ (u6 u32 u33 u34 u35 u36 u37 u38 u39 u40 u41 u42 u43 u44 u45 u46 : Value) (wx : World), St w wx ((n + 63) / 64) (fun _ j => zeroWord j) (.slice none 0 0) → KK ⟨(List.toArray ((.slice (some ⟨bs, 0, none⟩) n n) :: v1 :: v2 :: v3 :: (.int .i64 (chList K C n).length) :: v5 :: u6 :: v7 :: v8 :: v9 :: v10 :: v11 :: v12 :: v13 :: v14 :: v15 :: v16 :: v17 :: v18 :: v19 :: v20 :: v21 :: v22 :: v23 :: v24 :: v25 :: v26 :: v27 :: v28 :: v29 :: (.slice (some ⟨bs, 0, none⟩) n n) :: (.int .i64 n) :: u32 :: u33 :: u34 :: u35 :: u36 :: u37 :: u38 :: u39 :: u40 :: u41 :: u42 :: u43 :: u44 :: u45 :: u46 :: v47 :: v48 :: v49 :: v50 :: v51 :: v52 :: v53 :: v54 :: v55 :: v56 :: v57 :: v58 :: v59 :: v60 :: v61 :: v62 :: v63 :: v64 :: v65 :: v66 :: v67 :: v68 :: v69 :: v70 :: v71 :: v72 :: v73 :: v74 :: v75 :: v76 :: v77 :: v78 :: v79 :: v80 :: v81 :: v82 :: v83 :: v84 :: v85 :: v86 :: v87 :: v88 :: v89 :: v90 :: v91 :: v92 :: v93 :: v94 :: v95 :: v96 :: v97 :: v98 :: v99 :: v100 :: v101 :: v102 :: v103 :: v104 :: v105 :: v106 :: v107 :: v108 :: v109 :: v110 :: v111 :: v112 :: v113 :: v114 :: v115 :: v116 :: v117 :: v118 :: v119 :: v120 :: v121 :: v122 :: v123 :: v124 :: v125 :: v126 :: v127 :: v128 :: v129 :: v130 :: v131 :: v132 :: v133 :: v134 :: v135 :: v136 :: v137 :: v138 :: v139 :: v140 :: v141 :: v142 :: v143 :: v144 :: v145 :: v146 :: v147 :: v148 :: v149 :: v150 :: v151 :: v152 :: v153 :: v154 :: v155 :: v156 :: v157 :: v158 :: v159 :: v160 :: v161 :: v162 :: v163 :: v164 :: v165 :: v166 :: v167 :: v168 :: v169 :: v170 :: v171 :: v172 :: v173 :: v174 :: v175 :: v176 :: v177 :: v178 :: v179 :: v180 :: v181 :: v182 :: v183 :: v184 :: v185 :: v186 :: v187 :: v188 :: v189 :: v190 :: v191 :: v192 :: v193 :: v194 :: v195 :: v196 :: v197 :: v198 :: v199 :: v200 :: v201 :: v202 :: v203 :: v204 :: v205 :: v206 :: v207 :: v208 :: v209 :: v210 :: v211 :: v212 :: v213 :: v214 :: v215 :: v216 :: v217 :: v218 :: v219 :: v220 :: v221 :: v222 :: v223 :: v224 :: v225 :: v226 :: v227 :: v228 :: v229 :: v230 :: v231 :: v232 :: v233 :: v234 :: v235 :: v236 :: v237 :: v238 :: v239 :: v240 :: v241 :: v242 :: v243 :: v244 :: v245 :: v246 :: v247 :: v248 :: v249 :: v250 :: v251 :: v252 :: v253 :: v254 :: v255 :: v256 :: v257 :: v258 :: v259 :: v260 :: v261 :: v262 :: v263 :: v264 :: v265 :: v266 :: v267 :: v268 :: v269 :: v270 :: v271 :: v272 :: v273 :: v274 :: v275 :: v276 :: v277 :: v278 :: v279 :: v280 :: v281 :: v282 :: v283 :: v284 :: v285 :: v286 :: v287 :: v288 :: v289 :: v290 :: v291 :: v292 :: v293 :: v294 :: v295 :: v296 :: v297 :: v298 :: v299 :: v300 :: v301 :: v302 :: v303 :: v304 :: v305 :: v306 :: v307 :: v308 :: v309 :: v310 :: v311 :: v312 :: v313 :: v314 :: List.nil)), []⟩ wx) :
    Code.wp Try.prog (Code.loop (((Try.f19.body.map loopsOf).getD []).getD 0 .skip)) (Exit.inBlock 0 (Exit.then KK (bodyPost Try.prog Try.f19 RR))) ⟨(List.toArray ((.slice (some ⟨bs, 0, none⟩) n n) :: v1 :: v2 :: v3 :: (.int .i64 0) :: v5 :: v6 :: v7 :: v8 :: v9 :: v10 :: v11 :: v12 :: v13 :: v14 :: v15 :: v16 :: v17 :: v18 :: v19 :: v20 :: v21 :: v22 :: v23 :: v24 :: v25 :: v26 :: v27 :: v28 :: v29 :: (.slice (some ⟨bs, 0, none⟩) n n) :: (.int .i64 n) :: (.int .i64 0) :: v33 :: v34 :: v35 :: v36 :: v37 :: v38 :: v39 :: v40 :: v41 :: v42 :: v43 :: v44 :: v45 :: v46 :: v47 :: v48 :: v49 :: v50 :: v51 :: v52 :: v53 :: v54 :: v55 :: v56 :: v57 :: v58 :: v59 :: v60 :: v61 :: v62 :: v63 :: v64 :: v65 :: v66 :: v67 :: v68 :: v69 :: v70 :: v71 :: v72 :: v73 :: v74 :: v75 :: v76 :: v77 :: v78 :: v79 :: v80 :: v81 :: v82 :: v83 :: v84 :: v85 :: v86 :: v87 :: v88 :: v89 :: v90 :: v91 :: v92 :: v93 :: v94 :: v95 :: v96 :: v97 :: v98 :: v99 :: v100 :: v101 :: v102 :: v103 :: v104 :: v105 :: v106 :: v107 :: v108 :: v109 :: v110 :: v111 :: v112 :: v113 :: v114 :: v115 :: v116 :: v117 :: v118 :: v119 :: v120 :: v121 :: v122 :: v123 :: v124 :: v125 :: v126 :: v127 :: v128 :: v129 :: v130 :: v131 :: v132 :: v133 :: v134 :: v135 :: v136 :: v137 :: v138 :: v139 :: v140 :: v141 :: v142 :: v143 :: v144 :: v145 :: v146 :: v147 :: v148 :: v149 :: v150 :: v151 :: v152 :: v153 :: v154 :: v155 :: v156 :: v157 :: v158 :: v159 :: v160 :: v161 :: v162 :: v163 :: v164 :: v165 :: v166 :: v167 :: v168 :: v169 :: v170 :: v171 :: v172 :: v173 :: v174 :: v175 :: v176 :: v177 :: v178 :: v179 :: v180 :: v181 :: v182 :: v183 :: v184 :: v185 :: v186 :: v187 :: v188 :: v189 :: v190 :: v191 :: v192 :: v193 :: v194 :: v195 :: v196 :: v197 :: v198 :: v199 :: v200 :: v201 :: v202 :: v203 :: v204 :: v205 :: v206 :: v207 :: v208 :: v209 :: v210 :: v211 :: v212 :: v213 :: v214 :: v215 :: v216 :: v217 :: v218 :: v219 :: v220 :: v221 :: v222 :: v223 :: v224 :: v225 :: v226 :: v227 :: v228 :: v229 :: v230 :: v231 :: v232 :: v233 :: v234 :: v235 :: v236 :: v237 :: v238 :: v239 :: v240 :: v241 :: v242 :: v243 :: v244 :: v245 :: v246 :: v247 :: v248 :: v249 :: v250 :: v251 :: v252 :: v253 :: v254 :: v255 :: v256 :: v257 :: v258 :: v259 :: v260 :: v261 :: v262 :: v263 :: v264 :: v265 :: v266 :: v267 :: v268 :: v269 :: v270 :: v271 :: v272 :: v273 :: v274 :: v275 :: v276 :: v277 :: v278 :: v279 :: v280 :: v281 :: v282 :: v283 :: v284 :: v285 :: v286 :: v287 :: v288 :: v289 :: v290 :: v291 :: v292 :: v293 :: v294 :: v295 :: v296 :: v297 :: v298 :: v299 :: v300 :: v301 :: v302 :: v303 :: v304 :: v305 :: v306 :: v307 :: v308 :: v309 :: v310 :: v311 :: v312 :: v313 :: v314 :: List.nil)), []⟩ w0 := by
  have HEX := Hid.mk' hexit
  clear hexit
  conv => arg 2; arg 1; whnf
  go_loopg [4, 32] n (fun g s4 s32 wr => ∃ r : Nat, r ≤ n ∧ g = n - r ∧ s32 = .int .i64 r ∧ s4 = .int .i64 (chList K C r).length ∧ St w wr ((n + 63) / 64) (fun _ j => zeroWord j) (.slice none 0 0))
  case atStart => exact ⟨0, Nat.zero_le _, rfl, rfl, rfl, h0⟩
  case round =>
    obtain ⟨r, hr, rfl, rfl, rfl, hO⟩ := hrel
    clear h0
    have hcc := chList_le K C r
    have hsz := hO.size
    by_cases hrn : r < n
    · have c0 : wr.cell? ⟨bs, r * 4, none⟩ = some (.int .u8 (K r)) := by rw [hO.bel.cell (p := ⟨bs, r * 4, none⟩) hbs]; exact hS.cell' r 0 (by omega) hrn (by omega)
      have c1 : wr.cell? ⟨bs, r * 4 + 1, none⟩ = some (.int .i32 (C r)) := by rw [hO.bel.cell (p := ⟨bs, r * 4 + 1, none⟩) hbs]; exact hS.cell' r 1 (by omega) hrn (by omega)
      have c2 : wr.cell? ⟨bs, r * 4 + 2, none⟩ = some (.slice none 0 0) := by rw [hO.bel.cell (p := ⟨bs, r * 4 + 2, none⟩) hbs]; exact hS.cell' r 2 (by omega) hrn (by omega)
      have c3 : wr.cell? ⟨bs, r * 4 + 3, none⟩ = some (.bool false) := by rw [hO.bel.cell (p := ⟨bs, r * 4 + 3, none⟩) hbs]; exact hS.cell' r 3 (by omega) hrn (by omega)
      by_cases hk0 : (K r == 0) = true
      · by_cases hc : (C r == 47) = true
        · have hcd : Hid ((chList K C (r + 1)).length = (chList K C r).length) := by show (chList K C (r + 1)).length = (chList K C r).length; simp [chList, chStep, hc]
          go_wp2
          go_roundg (n - (r + 1))
          case measure => omega
          case rel => exact ⟨r + 1, by omega, rfl, by go_num, by rw [hcd.out], hO.alloc _⟩
        · have hc' : (C r == 47) = false := by simpa using hc
          have hcd : Hid ((chList K C (r + 1)).length = (chList K C r).length + 1) := by show (chList K C (r + 1)).length = (chList K C r).length + 1; simp [chList, chStep, hc', hk0]
          clear hc
          go_wp2
          go_roundg (n - (r + 1))
          case measure => omega
          case rel => exact ⟨r + 1, by omega, rfl, by go_num, by rw [hcd.out]; go_num, hO.alloc _⟩
      · have hk0' : (K r == 0) = false := by simpa using hk0
        have hcd : Hid ((chList K C (r + 1)).length = (chList K C r).length) := by show (chList K C (r + 1)).length = (chList K C r).length; simp [chList, chStep, hk0']
        clear hk0
        go_wp2
        go_roundg (n - (r + 1))
        case measure => omega
        case rel => exact ⟨r + 1, by omega, rfl, by go_num, by rw [hcd.out], hO.alloc _⟩
    · obtain rfl : n = r := by omega
      go_wp2
      exact HEX.out _ _ _ _ _ _ _ _ _ _ _ _ _ _ _ _ _ hO

end Go.Proofs.Qxb6000847a
