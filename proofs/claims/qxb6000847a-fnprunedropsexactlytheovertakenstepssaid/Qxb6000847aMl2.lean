import Derived.Test.Qxb6000847aMl1
namespace Go.Proofs.Qxb6000847a
open Go.RowKit
set_option linter.unusedSimpArgs false
set_option linter.unusedVariables false

set_option maxHeartbeats 8000000 in
set_option maxRecDepth 1000000 in
theorem mloop2 (RR : Ending → World → Prop) (KK : Act → World → Prop) (v1 v2 v4 v5 v6 v8 v9 v10 v11 v12 v13 v14 v15 v16 v17 v18 v19 v20 v21 v22 v23 v24 v25 v26 v27 v28 v29 v30 v31 v32 v33 v34 v35 v36 v37 v38 v39 v40 v41 v42 v43 v44 v45 v46 v47 v48 v52 v53 v54 v55 v56 v57 v58 v59 v60 v61 v62 v63 v64 v65 v66 v67 v68 v69 v70 v71 v72 v73 v74 v75 v76 v77 v78 v79 v80 v81 v82 v83 v84 v85 v86 v87 v88 v89 v90 v91 v92 v93 v94 v95 v96 v97 v98 v99 v100 v101 v102 v103 v104 v105 v106 v107 v108 v109 v110 v111 v112 v113 v114 v115 v116 v117 v118 v119 v120 v121 v122 v123 v124 v125 v126 v127 v128 v129 v130 v131 v132 v133 v134 v135 v136 v137 v138 v139 v140 v141 v142 v143 v144 v145 v146 v147 v148 v149 v150 v151 v152 v153 v154 v155 v156 v157 v158 v159 v160 v161 v162 v163 v164 v165 v166 v167 v168 v169 v170 v171 v172 v173 v174 v175 v176 v177 v178 v179 v180 v181 v182 v183 v184 v185 v186 v187 v188 v189 v190 v191 v192 v193 v194 v195 v196 v197 v198 v199 v200 v201 v202 v203 v204 v205 v206 v207 v208 v209 v210 v211 v212 v213 v214 v215 v216 v217 v218 v219 v220 v221 v222 v223 v224 v225 v226 v227 v228 v229 v230 v231 v232 v233 v234 v235 v236 v237 v238 v239 v240 v241 v242 v243 v244 v245 v246 v247 v248 v249 v250 v251 v252 v253 v254 v255 v256 v257 v258 v259 v260 v261 v262 v263 v264 v265 v266 v267 v268 v269 v270 v271 v272 v273 v274 v275 v276 v277 v278 v279 v280 v281 v282 v283 v284 v285 v286 v287 v288 v289 v290 v291 v292 v293 v294 v295 v296 v297 v298 v299 v300 v301 v302 v303 v304 v305 v306 v307 v308 v309 v310 v311 v312 v313 v314 : Value) (bs n : Nat) (K C : Nat → Int) (w w0 : World) (hS : Grid w bs 71 4 n (stepCell K C)) (hn : n ≤ 65536) (hbs : bs < w.heap.size) (CB : Nat) (hK : ∀ i, i < n → 0 ≤ K i ∧ K i ≤ 5) (hK0 : 0 < n → K 0 ≠ 5) (h0 : St2 w w0 CB n 0 K C)
    (hexit : ∀ (u8 u9 u10 u11 u51 u52 u53 u54 u55 u56 u57 u58 u59 u60 u61 u62 u63 u64 u65 u66 u67 u68 u69 u70 u71 u72 u73 u74 u75 u76 u77 u78 u79 u80 u81 u82 u83 u84 u85 u86 u87 u88 u89 u90 u91 u92 u93 u94 u95 u96 u97 u98 u99 u100 u101 u102 u103 u104 u105 u106 u107 u108 u109 u110 u111 u112 u113 u114 u115 u116 u117 u118 u119 u120 u121 u122 u123 u124 u125 u126 u127 u128 u129 u130 u131 u132 u133 u134 u135 u136 u137 u138 u139 u140 u141 u142 u143 u144 u145 u146 u147 u148 u149 u150 u151 u152 u153 u154 u155 u156 u157 u158 u159 u160 u161 u162 u163 u164 u165 u166 u167 u168 u169 : Value) (wx : World), St2 w wx CB n n K C → KK ⟨(List.toArray ((.slice (some ⟨bs, 0, none⟩) n n) :: v1 :: v2 :: (.pointer (some ⟨w.heap.size + 1 + 1, 0, none⟩)) :: v4 :: v5 :: v6 :: (.slice (some ⟨CB, 0, none⟩) (chList K C n).length (chList K C n).length) :: u8 :: u9 :: u10 :: u11 :: v12 :: v13 :: v14 :: v15 :: v16 :: v17 :: v18 :: v19 :: v20 :: v21 :: v22 :: v23 :: v24 :: v25 :: v26 :: v27 :: v28 :: v29 :: v30 :: v31 :: v32 :: v33 :: v34 :: v35 :: v36 :: v37 :: v38 :: v39 :: v40 :: v41 :: v42 :: v43 :: v44 :: v45 :: v46 :: v47 :: v48 :: (.slice (some ⟨bs, 0, none⟩) n n) :: (.int .i64 n) :: u51 :: u52 :: u53 :: u54 :: u55 :: u56 :: u57 :: u58 :: u59 :: u60 :: u61 :: u62 :: u63 :: u64 :: u65 :: u66 :: u67 :: u68 :: u69 :: u70 :: u71 :: u72 :: u73 :: u74 :: u75 :: u76 :: u77 :: u78 :: u79 :: u80 :: u81 :: u82 :: u83 :: u84 :: u85 :: u86 :: u87 :: u88 :: u89 :: u90 :: u91 :: u92 :: u93 :: u94 :: u95 :: u96 :: u97 :: u98 :: u99 :: u100 :: u101 :: u102 :: u103 :: u104 :: u105 :: u106 :: u107 :: u108 :: u109 :: u110 :: u111 :: u112 :: u113 :: u114 :: u115 :: u116 :: u117 :: u118 :: u119 :: u120 :: u121 :: u122 :: u123 :: u124 :: u125 :: u126 :: u127 :: u128 :: u129 :: u130 :: u131 :: u132 :: u133 :: u134 :: u135 :: u136 :: u137 :: u138 :: u139 :: u140 :: u141 :: u142 :: u143 :: u144 :: u145 :: u146 :: u147 :: u148 :: u149 :: u150 :: u151 :: u152 :: u153 :: u154 :: u155 :: u156 :: u157 :: u158 :: u159 :: u160 :: u161 :: u162 :: u163 :: u164 :: u165 :: u166 :: u167 :: u168 :: u169 :: v170 :: v171 :: v172 :: v173 :: v174 :: v175 :: v176 :: v177 :: v178 :: v179 :: v180 :: v181 :: v182 :: v183 :: v184 :: v185 :: v186 :: v187 :: v188 :: v189 :: v190 :: v191 :: v192 :: v193 :: v194 :: v195 :: v196 :: v197 :: v198 :: v199 :: v200 :: v201 :: v202 :: v203 :: v204 :: v205 :: v206 :: v207 :: v208 :: v209 :: v210 :: v211 :: v212 :: v213 :: v214 :: v215 :: v216 :: v217 :: v218 :: v219 :: v220 :: v221 :: v222 :: v223 :: v224 :: v225 :: v226 :: v227 :: v228 :: v229 :: v230 :: v231 :: v232 :: v233 :: v234 :: v235 :: v236 :: v237 :: v238 :: v239 :: v240 :: v241 :: v242 :: v243 :: v244 :: v245 :: v246 :: v247 :: v248 :: v249 :: v250 :: v251 :: v252 :: v253 :: v254 :: v255 :: v256 :: v257 :: v258 :: v259 :: v260 :: v261 :: v262 :: v263 :: v264 :: v265 :: v266 :: v267 :: v268 :: v269 :: v270 :: v271 :: v272 :: v273 :: v274 :: v275 :: v276 :: v277 :: v278 :: v279 :: v280 :: v281 :: v282 :: v283 :: v284 :: v285 :: v286 :: v287 :: v288 :: v289 :: v290 :: v291 :: v292 :: v293 :: v294 :: v295 :: v296 :: v297 :: v298 :: v299 :: v300 :: v301 :: v302 :: v303 :: v304 :: v305 :: v306 :: v307 :: v308 :: v309 :: v310 :: v311 :: v312 :: v313 :: v314 :: List.nil)), []⟩ wx) :
    Code.wp Try.prog (Code.loop (((Try.f19.body.map loopsOf).getD []).getD 1 .skip)) (Exit.inBlock 2 (Exit.then KK (bodyPost Try.prog Try.f19 RR))) ⟨(List.toArray ((.slice (some ⟨bs, 0, none⟩) n n) :: v1 :: v2 :: (.pointer (some ⟨w.heap.size + 1 + 1, 0, none⟩)) :: v4 :: v5 :: v6 :: (.slice (some ⟨CB, 0, none⟩) 0 (chList K C n).length) :: v8 :: v9 :: v10 :: v11 :: v12 :: v13 :: v14 :: v15 :: v16 :: v17 :: v18 :: v19 :: v20 :: v21 :: v22 :: v23 :: v24 :: v25 :: v26 :: v27 :: v28 :: v29 :: v30 :: v31 :: v32 :: v33 :: v34 :: v35 :: v36 :: v37 :: v38 :: v39 :: v40 :: v41 :: v42 :: v43 :: v44 :: v45 :: v46 :: v47 :: v48 :: (.slice (some ⟨bs, 0, none⟩) n n) :: (.int .i64 n) :: (.int .i64 0) :: v52 :: v53 :: v54 :: v55 :: v56 :: v57 :: v58 :: v59 :: v60 :: v61 :: v62 :: v63 :: v64 :: v65 :: v66 :: v67 :: v68 :: v69 :: v70 :: v71 :: v72 :: v73 :: v74 :: v75 :: v76 :: v77 :: v78 :: v79 :: v80 :: v81 :: v82 :: v83 :: v84 :: v85 :: v86 :: v87 :: v88 :: v89 :: v90 :: v91 :: v92 :: v93 :: v94 :: v95 :: v96 :: v97 :: v98 :: v99 :: v100 :: v101 :: v102 :: v103 :: v104 :: v105 :: v106 :: v107 :: v108 :: v109 :: v110 :: v111 :: v112 :: v113 :: v114 :: v115 :: v116 :: v117 :: v118 :: v119 :: v120 :: v121 :: v122 :: v123 :: v124 :: v125 :: v126 :: v127 :: v128 :: v129 :: v130 :: v131 :: v132 :: v133 :: v134 :: v135 :: v136 :: v137 :: v138 :: v139 :: v140 :: v141 :: v142 :: v143 :: v144 :: v145 :: v146 :: v147 :: v148 :: v149 :: v150 :: v151 :: v152 :: v153 :: v154 :: v155 :: v156 :: v157 :: v158 :: v159 :: v160 :: v161 :: v162 :: v163 :: v164 :: v165 :: v166 :: v167 :: v168 :: v169 :: v170 :: v171 :: v172 :: v173 :: v174 :: v175 :: v176 :: v177 :: v178 :: v179 :: v180 :: v181 :: v182 :: v183 :: v184 :: v185 :: v186 :: v187 :: v188 :: v189 :: v190 :: v191 :: v192 :: v193 :: v194 :: v195 :: v196 :: v197 :: v198 :: v199 :: v200 :: v201 :: v202 :: v203 :: v204 :: v205 :: v206 :: v207 :: v208 :: v209 :: v210 :: v211 :: v212 :: v213 :: v214 :: v215 :: v216 :: v217 :: v218 :: v219 :: v220 :: v221 :: v222 :: v223 :: v224 :: v225 :: v226 :: v227 :: v228 :: v229 :: v230 :: v231 :: v232 :: v233 :: v234 :: v235 :: v236 :: v237 :: v238 :: v239 :: v240 :: v241 :: v242 :: v243 :: v244 :: v245 :: v246 :: v247 :: v248 :: v249 :: v250 :: v251 :: v252 :: v253 :: v254 :: v255 :: v256 :: v257 :: v258 :: v259 :: v260 :: v261 :: v262 :: v263 :: v264 :: v265 :: v266 :: v267 :: v268 :: v269 :: v270 :: v271 :: v272 :: v273 :: v274 :: v275 :: v276 :: v277 :: v278 :: v279 :: v280 :: v281 :: v282 :: v283 :: v284 :: v285 :: v286 :: v287 :: v288 :: v289 :: v290 :: v291 :: v292 :: v293 :: v294 :: v295 :: v296 :: v297 :: v298 :: v299 :: v300 :: v301 :: v302 :: v303 :: v304 :: v305 :: v306 :: v307 :: v308 :: v309 :: v310 :: v311 :: v312 :: v313 :: v314 :: List.nil)), []⟩ w0 := by
  have HEX := Hid.mk' hexit
  clear hexit
  conv => arg 2; arg 1; whnf
  go_loopg [7, 51] n (fun g s7 s51 wr => ∃ r : Nat, r ≤ n ∧ g = n - r ∧ s51 = .int .i64 r ∧ s7 = .slice (some ⟨CB, 0, none⟩) (chList K C r).length (chList K C n).length ∧ St2 w wr CB n r K C)
  case atStart => exact ⟨0, Nat.zero_le _, rfl, rfl, rfl, h0⟩
  case round =>
    obtain ⟨r, hr, rfl, rfl, rfl, hO⟩ := hrel
    clear h0
    have hcc := chList_le K C r
    by_cases hrn : r < n
    · have c0 : wr.cell? ⟨bs, r * 4, none⟩ = some (.int .u8 (K r)) := by rw [hO.st.bel.cell (p := ⟨bs, r * 4, none⟩) hbs]; exact hS.cell' r 0 (by omega) hrn (by omega)
      have c1 : wr.cell? ⟨bs, r * 4 + 1, none⟩ = some (.int .i32 (C r)) := by rw [hO.st.bel.cell (p := ⟨bs, r * 4 + 1, none⟩) hbs]; exact hS.cell' r 1 (by omega) hrn (by omega)
      have c2 : wr.cell? ⟨bs, r * 4 + 2, none⟩ = some (.slice none 0 0) := by rw [hO.st.bel.cell (p := ⟨bs, r * 4 + 2, none⟩) hbs]; exact hS.cell' r 2 (by omega) hrn (by omega)
      have c3 : wr.cell? ⟨bs, r * 4 + 3, none⟩ = some (.bool false) := by rw [hO.st.bel.cell (p := ⟨bs, r * 4 + 3, none⟩) hbs]; exact hS.cell' r 3 (by omega) hrn (by omega)
      have d0 : wr.cell? ⟨w.heap.size + 1 + 1, 0, none⟩ = some (.slice (some ⟨w.heap.size + 1, 0, none⟩) ((n + 63) / 64) ((n + 63) / 64)) := hO.st.m.cell' 0 0 rfl (by omega) (by omega)
      have hlm := hO.st.m.lt
      go_wp2
      go_quiet (fail)
      have hO2 := (hO.alloc (Obj.cells #[Value.int IntKind.u8 (K r), Value.int IntKind.i32 (C r), Value.slice none 0 0, Value.bool false] 71)).drewN nq
      have g0 : ((wr.alloc (Obj.cells #[Value.int IntKind.u8 (K r), Value.int IntKind.i32 (C r), Value.slice none 0 0, Value.bool false] 71)).drewN nq).cell? ⟨wr.heap.size, 0, none⟩ = some (.int .u8 (K r)) := by simp
      have g1 : ((wr.alloc (Obj.cells #[Value.int IntKind.u8 (K r), Value.int IntKind.i32 (C r), Value.slice none 0 0, Value.bool false] 71)).drewN nq).cell? ⟨wr.heap.size, 1, none⟩ = some (.int .i32 (C r)) := by simp
      have gs : wr.heap.size < ((wr.alloc (Obj.cells #[Value.int IntKind.u8 (K r), Value.int IntKind.i32 (C r), Value.slice none 0 0, Value.bool false] 71)).drewN nq).heap.size := by simp
      clear c0 c1 c2 c3 d0 hlm hO
      generalize ((wr.alloc (Obj.cells #[Value.int IntKind.u8 (K r), Value.int IntKind.i32 (C r), Value.slice none 0 0, Value.bool false] 71)).drewN nq) = W at hO2 g0 g1 gs ⊢
      generalize wr.heap.size = sb at g0 g1 gs ⊢
      have hbit : IntKind.u64.wrap ((2 : Int) ^ (r % 64)) = ((2 ^ (r % 64) : Nat) : Int) := wrap_pow r
      rw [hbit]
      clear hbit
      have HB : Hid (2 ^ (r % 64) < 18446744073709551616) := two_pow_lt64 r
      generalize hB : 2 ^ (r % 64) = B at HB ⊢
      have lB := HB.out
      clear HB
      have hw64 : r / 64 < (n + 63) / 64 := by omega
      have m0 := hO2.st.wds.cell' (r / 64) 0 (o := r / 64 * 10) (by omega) hw64 (by omega)
      have m1 := hO2.st.wds.cell' (r / 64) 1 (o := r / 64 * 10 + 1) (by omega) hw64 (by omega)
      have m2 := hO2.st.wds.cell' (r / 64) 2 (o := r / 64 * 10 + 2) (by omega) hw64 (by omega)
      have m4 := hO2.st.wds.cell' (r / 64) 4 (o := r / 64 * 10 + 4) (by omega) hw64 (by omega)
      have m5 := hO2.st.wds.cell' (r / 64) 5 (o := r / 64 * 10 + 5) (by omega) hw64 (by omega)
      have m6 := hO2.st.wds.cell' (r / 64) 6 (o := r / 64 * 10 + 6) (by omega) hw64 (by omega)
      simp only [maskCell, Nat.reduceLT, if_true] at m0 m1 m2 m4 m5 m6
      have f0 : ∀ o, W.frozen? ⟨w.heap.size + 1, o, none⟩ = false := hO2.st.wds.frozen
      have f00 := f0 (r / 64 * 10)
      have f01 := f0 (r / 64 * 10 + 1)
      have f02 := f0 (r / 64 * 10 + 2)
      have f04 := f0 (r / 64 * 10 + 4)
      have f05 := f0 (r / 64 * 10 + 5)
      have f06 := f0 (r / 64 * 10 + 6)
      obtain ⟨X0, hX0⟩ : ∃ X, X = maskAt K C r (r / 64) 0 := ⟨_, rfl⟩
      obtain ⟨X1, hX1⟩ : ∃ X, X = maskAt K C r (r / 64) 1 := ⟨_, rfl⟩
      obtain ⟨X2, hX2⟩ : ∃ X, X = maskAt K C r (r / 64) 2 := ⟨_, rfl⟩
      obtain ⟨X4, hX4⟩ : ∃ X, X = maskAt K C r (r / 64) 4 := ⟨_, rfl⟩
      obtain ⟨X5, hX5⟩ : ∃ X, X = maskAt K C r (r / 64) 5 := ⟨_, rfl⟩
      obtain ⟨X6, hX6⟩ : ∃ X, X = maskAt K C r (r / 64) 6 := ⟨_, rfl⟩
      rw [← hX0] at m0; rw [← hX1] at m1; rw [← hX2] at m2; rw [← hX4] at m4; rw [← hX5] at m5; rw [← hX6] at m6
      have o0 : bits .or .u64 (X0 : Int) (B : Int) = ((X0 ||| B : Nat) : Int) := bits_or_u64_nat _ _ (by rw [hX0]; exact maskAt_lt _ _ _ _ _) lB
      have o1 : bits .or .u64 (X1 : Int) (B : Int) = ((X1 ||| B : Nat) : Int) := bits_or_u64_nat _ _ (by rw [hX1]; exact maskAt_lt _ _ _ _ _) lB
      have o2 : bits .or .u64 (X2 : Int) (B : Int) = ((X2 ||| B : Nat) : Int) := bits_or_u64_nat _ _ (by rw [hX2]; exact maskAt_lt _ _ _ _ _) lB
      have o4 : bits .or .u64 (X4 : Int) (B : Int) = ((X4 ||| B : Nat) : Int) := bits_or_u64_nat _ _ (by rw [hX4]; exact maskAt_lt _ _ _ _ _) lB
      have o5 : bits .or .u64 (X5 : Int) (B : Int) = ((X5 ||| B : Nat) : Int) := bits_or_u64_nat _ _ (by rw [hX5]; exact maskAt_lt _ _ _ _ _) lB
      have o6 : bits .or .u64 (X6 : Int) (B : Int) = ((X6 ||| B : Nat) : Int) := bits_or_u64_nat _ _ (by rw [hX6]; exact maskAt_lt _ _ _ _ _) lB
      have HX : Hid (2 ^ (r % 64) = B ∧ X0 = maskAt K C r (r / 64) 0 ∧ X1 = maskAt K C r (r / 64) 1 ∧ X2 = maskAt K C r (r / 64) 2 ∧ X4 = maskAt K C r (r / 64) 4 ∧ X5 = maskAt K C r (r / 64) 5 ∧ X6 = maskAt K C r (r / 64) 6) := ⟨hB, hX0, hX1, hX2, hX4, hX5, hX6⟩
      clear hB hX0 hX1 hX2 hX4 hX5 hX6
      have hsz2 := hO2.st.size
      have hcb := hO2.ch.lt
      have hcb3 := hO2.cb
      have hk := hK r hrn
      rcases (by omega : K r = 0 ∨ K r = 1 ∨ K r = 2 ∨ K r = 3 ∨ K r = 4 ∨ K r = 5) with h | h | h | h | h | h
      · have t0 : (K r == 0) = true := by rw [h]; rfl
        have HK : Hid (K r = 0) := h
        clear h
        by_cases hc : C r = 47
        · have tc : (C r == 47) = true := by rw [hc]; rfl
          have HC : Hid (C r = 47) := hc
          clear hc
          go_wp2
          go_roundg (n - (r + 1))
          case measure => omega
          case rel => exact ⟨r + 1, by omega, rfl, by go_num, by rw [chList_no K C r (by rw [(kinds_of (C := C) HK.out).2.2.2.2.2.2, HC.out]; rfl)], st2_k0 hO2 X2 B HX.out.2.2.2.1 HX.out.1 HK.out HC.out⟩
        · have tc : (C r == 47) = false := by simpa using hc
          have HC : Hid (C r ≠ 47) := hc
          clear hc
          have hstep : chStep K C r = true := by rw [(kinds_of (C := C) HK.out).2.2.2.2.2.2, tc]; rfl
          have hroom : (chList K C r).length + 1 ≤ (chList K C n).length := by
            have h1 := chList_mono K C (r + 1) n hrn
            rw [chList_yes K C r hstep] at h1
            simpa using h1
          have hcode : bits .or .u64 (IntKind.u64.wrap (IntKind.u64.wrap (C r) * 4294967296)) (r : Int) = chCode C r := chCode_bits C r (by omega)
          have HS : Hid (chStep K C r = true) := hstep
          clear hstep
          obtain ⟨i0, hi, hz0, hz1, hz2⟩ := info_parts info31
          have hsp : ∀ o j, j < 1 → ((W.alloc o).cell? ⟨CB, 0 + (chList K C r).length * 1 + j, none⟩).isSome = true ∧ (W.alloc o).frozen? ⟨CB, 0 + (chList K C r).length * 1 + j, none⟩ = false := fun o j hj =>
            ⟨by rw [(hO2.ch.alloc o).cell' (chList K C r).length j (by omega) (by omega) hj]; rfl, (hO2.ch.alloc o).frozen _⟩
          go_wp2_with (at_builtin; refine wpList_append_fit _ rfl (.tmp 79) (.tmp 87) 36 rfl 31 i0 1 Try.underlying36 hi hz1 CB 0 (chList K C r).length (chList K C n).length rfl ⟨W.heap.size, 0, none⟩ 1 1 [.int .u64 (chCode C r)] rfl rfl ?c1 ?c2 hroom ?c3 ?_)
          case c1 =>
            intro j u hj
            match j, hj with
            | 0, hj => simp at hj; subst hj; simp [Addr.add]
          case c2 => intro u hu; simp at hu; subst hu; rfl
          case c3 => intro j hj; exact hsp _ j hj
          clear hsp
          go_wp2
          go_roundg (n - (r + 1))
          case measure => omega
          case rel => exact ⟨r + 1, by omega, rfl, by go_num, by rw [chList_yes K C r HS.out]; simp, st2_ch hO2 HK.out HC.out hrn⟩
      · have t0 : (K r == 0) = false := by rw [h]; rfl
        have t1 : (K r == 1) = true := by rw [h]; rfl
        have HK : Hid (K r = 1) := h
        clear h
        go_wp2
        go_roundg (n - (r + 1))
        case measure => omega
        case rel => exact ⟨r + 1, by omega, rfl, by go_num, by rw [chList_no K C r (kinds_of (C := C) HK.out).2.2.2.2.2.2], st2_k1 hO2 X4 B HX.out.2.2.2.2.1 HX.out.1 HK.out⟩
      · have t0 : (K r == 0) = false := by rw [h]; rfl
        have t1 : (K r == 1) = false := by rw [h]; rfl
        have t2 : (K r == 2) = true := by rw [h]; rfl
        have HK : Hid (K r = 2) := h
        clear h
        go_wp2
        go_roundg (n - (r + 1))
        case measure => omega
        case rel => exact ⟨r + 1, by omega, rfl, by go_num, by rw [chList_no K C r (kinds_of (C := C) HK.out).2.2.2.2.2.2], st2_k2 hO2 X5 B HX.out.2.2.2.2.2.1 HX.out.1 HK.out⟩
      · have t0 : (K r == 0) = false := by rw [h]; rfl
        have t1 : (K r == 1) = false := by rw [h]; rfl
        have t2 : (K r == 2) = false := by rw [h]; rfl
        have t3 : (K r == 3) = true := by rw [h]; rfl
        have HK : Hid (K r = 3) := h
        clear h
        go_wp2
        go_roundg (n - (r + 1))
        case measure => omega
        case rel => exact ⟨r + 1, by omega, rfl, by go_num, by rw [chList_no K C r (kinds_of (C := C) HK.out).2.2.2.2.2.2], st2_k3 hO2 X0 B HX.out.2.1 HX.out.1 HK.out⟩
      · have t0 : (K r == 0) = false := by rw [h]; rfl
        have t1 : (K r == 1) = false := by rw [h]; rfl
        have t2 : (K r == 2) = false := by rw [h]; rfl
        have t3 : (K r == 3) = false := by rw [h]; rfl
        have t4 : (K r == 4) = true := by rw [h]; rfl
        have HK : Hid (K r = 4) := h
        clear h
        go_wp2
        go_roundg (n - (r + 1))
        case measure => omega
        case rel => exact ⟨r + 1, by omega, rfl, by go_num, by rw [chList_no K C r (kinds_of (C := C) HK.out).2.2.2.2.2.2], st2_k4 hO2 X0 X1 B HX.out.2.1 HX.out.2.2.1 HX.out.1 HK.out⟩
      · have t0 : (K r == 0) = false := by rw [h]; rfl
        have t1 : (K r == 1) = false := by rw [h]; rfl
        have t2 : (K r == 2) = false := by rw [h]; rfl
        have t3 : (K r == 3) = false := by rw [h]; rfl
        have t4 : (K r == 4) = false := by rw [h]; rfl
        have t5 : (K r == 5) = true := by rw [h]; rfl
        have HK : Hid (K r = 5) := h
        clear h
        have hr0 : 0 < r := by
          rcases Nat.eq_zero_or_pos r with e | e
          · subst e; exact absurd HK.out (hK0 hrn)
          · exact e
        have p0 : W.cell? ⟨bs, (r - 1) * 4, none⟩ = some (.int .u8 (K (r - 1))) := by rw [hO2.st.bel.cell (p := ⟨bs, (r - 1) * 4, none⟩) hbs]; exact hS.cell' (r - 1) 0 (by omega) (by omega) (by omega)
        by_cases hp : K (r - 1) = 4
        · have tp : (K (r - 1) == 4) = true := by rw [hp]; rfl
          have HP : Hid (K (r - 1) = 4) := hp
          clear hp
          go_wp2
          have hSt := hO2.st.setw (r / 64) 6 (by omega) (.int .u64 ((X6 ||| B : Nat) : Int)) rfl
          have d0 := hSt.m.cell' 0 0 (o := 0) rfl (by omega) (by omega)
          simp only [if_true] at d0
          have y0 := hSt.wds.cell' ((r - 1) / 64) 7 rfl (by omega) (by omega)
          simp only [maskCell, Nat.reduceLT, if_true, Nat.reduceEqDiff, and_false, if_false] at y0
          have fy := hSt.wds.frozen ((r - 1) / 64 * 10 + 7)
          have hlt7 : (r - 1) / 64 < (n + 63) / 64 := by omega
          obtain ⟨Y, hY⟩ : ∃ Y, Y = maskAt K C r ((r - 1) / 64) 7 := ⟨_, rfl⟩
          rw [← hY] at y0
          have oY : bits .or .u64 (Y : Int) ((2 ^ ((r - 1) % 64) : Nat) : Int) = ((Y ||| 2 ^ ((r - 1) % 64) : Nat) : Int) := bits_or_u64_nat _ _ (by rw [hY]; exact maskAt_lt _ _ _ _ _) (two_pow_lt64 _)
          have HY : Hid (Y = maskAt K C r ((r - 1) / 64) 7) := hY
          clear hY hSt
          have hbit2 : IntKind.u64.wrap ((2 : Int) ^ ((r - 1) % 64)) = ((2 ^ ((r - 1) % 64) : Nat) : Int) := wrap_pow (r - 1)
          generalize hD : 2 ^ ((r - 1) % 64) = D at hbit2 oY
          have HD : Hid (2 ^ ((r - 1) % 64) = D) := hD
          clear hD
          have hW' : Hid (W.setCell ⟨w.heap.size + 1, r / 64 * 10 + 6, none⟩ (.int .u64 ((X6 ||| B : Nat) : Int)) = W.setCell ⟨w.heap.size + 1, r / 64 * 10 + 6, none⟩ (.int .u64 ((X6 ||| B : Nat) : Int))) := rfl
          generalize hWq : W.setCell ⟨w.heap.size + 1, r / 64 * 10 + 6, none⟩ (.int .u64 ((X6 ||| B : Nat) : Int)) = W' at y0 d0 fy ⊢
          have HW : Hid (W.setCell ⟨w.heap.size + 1, r / 64 * 10 + 6, none⟩ (.int .u64 ((X6 ||| B : Nat) : Int)) = W') := hWq
          clear hWq hW'
          go_region
          all_goals go_wp2
          go_roundg (n - (r + 1))
          case measure => omega
          case rel => exact ⟨r + 1, by omega, rfl, by go_num, by rw [chList_no K C r (kinds_of (C := C) HK.out).2.2.2.2.2.2], by rw [← HW.out]; exact st2_k54 hO2 X6 B Y D HX.out.2.2.2.2.2.2 HX.out.1 HY.out HD.out HK.out HP.out hr0 1⟩
        · have tp : (K (r - 1) == 4) = false := by simpa using hp
          have HP : Hid (K (r - 1) ≠ 4) := hp
          clear hp
          go_wp2
          go_roundg (n - (r + 1))
          case measure => omega
          case rel => exact ⟨r + 1, by omega, rfl, by go_num, by rw [chList_no K C r (kinds_of (C := C) HK.out).2.2.2.2.2.2], st2_k5 hO2 X6 B HX.out.2.2.2.2.2.2 HX.out.1 HK.out HP.out⟩
    · obtain rfl : n = r := by omega
      go_wp2
      exact HEX.out _ _ _ _ _ _ _ _ _ _ _ _ _ _ _ _ _ _ _ _ _ _ _ _ _ _ _ _ _ _ _ _ _ _ _ _ _ _ _ _ _ _ _ _ _ _ _ _ _ _ _ _ _ _ _ _ _ _ _ _ _ _ _ _ _ _ _ _ _ _ _ _ _ _ _ _ _ _ _ _ _ _ _ _ _ _ _ _ _ _ _ _ _ _ _ _ _ _ _ _ _ _ _ _ _ _ _ _ _ _ _ _ _ _ _ _ _ _ _ _ _ _ _ _ hO

end Go.Proofs.Qxb6000847a
