/- A round of LawS3342CScript: the case 'Sp'. By an AI agent. -/
import Derived.Test.YbulkbqeoFmtScriptFrame
namespace Go.Proofs.YbulkbqeoFmt
open Go Go.RowKit
set_option maxRecDepth 1000000 in
set_option maxHeartbeats 4000000 in
theorem script_sp {a : Option Addr} {len cap capv : Nat} {w wr : World} {R C : Nat} {k n : Nat} {m : Int} {xs : List Value} {eb sb rb qb pb : Option Nat} {ss : List Addr} (c2 c3 c20 c21 c22 c23 c24 c25 c26 c27 c28 c29 c30 c31 c32 c33 c34 c364 c365 c366 c367 c368 c369 c370 c371 c372 c373 c374 c375 c376 c377 c378 c379 c380 c381 c382 c383 c384 c385 c386 c387 c388 c389 c390 c391 c392 v4 v11 v12 v13 v14 v15 v16 v17 v18 v19 v38 v39 v40 v41 v42 v43 v44 v45 v46 v47 v48 v49 v50 v51 v52 v53 v54 v55 v56 v57 v58 v59 v60 v61 v62 v63 v64 v65 v66 v67 v68 v69 v70 v71 v72 v73 v74 v75 v76 v77 v78 v79 v80 v81 v82 v83 v84 v85 v86 v87 v88 v89 v90 v91 v92 v93 v94 v95 v96 v97 v98 v99 v100 v101 v102 v103 v104 v105 v106 v107 v108 v109 v110 v111 v112 v113 v114 v115 v116 v117 v118 v119 v120 v121 v122 v123 v124 v125 v126 v127 v128 v129 v130 v131 v132 v133 v134 v135 v136 v137 v138 v139 v140 v141 v142 v143 v144 v145 v146 v147 v148 v149 v150 v151 v152 v153 v154 v155 v156 v157 v158 v159 v160 v161 v162 v163 v164 v165 v166 v167 v168 v169 v170 v171 v172 v173 v174 v175 v176 v177 v178 v179 v180 v181 v182 v183 v184 v185 v186 v187 v188 v189 v190 v191 v192 v193 v194 v195 v196 v197 v198 v199 v200 v201 v202 v203 v204 v205 v206 v207 v208 v209 v210 v211 v212 v213 v214 v215 v216 v217 v218 v219 v220 v221 v222 v223 v224 v225 v226 v227 v228 v229 v230 v231 v232 v233 v234 v235 v236 v237 v238 v239 v240 v241 v242 v243 v244 v245 v246 v247 v248 v249 v250 v251 v252 v253 v254 v255 v256 v257 v258 v259 v260 v261 v262 v263 v264 v265 v266 v267 v268 v269 v270 v271 v272 v273 v274 v275 v276 v277 v278 v279 v280 v281 v282 v283 v284 v285 v286 v287 v288 v289 v290 v291 v292 v293 v294 v295 v296 v297 v298 v299 v300 v301 v302 v303 v304 v305 v306 v307 v308 v309 v310 v311 v312 v313 v314 v315 v316 v317 v318 v319 v320 v321 v322 v323 v324 v325 v326 v327 v328 v329 v330 v331 v332 v333 v334 v335 v336 v337 v338 v339 v340 v341 v342 v343 v344 v345 v346 v347 v348 v349 v350 v351 v352 v353 v354 v355 v356 v357 v358 v359 v360 v361 v362 v363 v9 v10 : Value) {K : Act → World → Prop} {Q0 : Exit → Act → World → Prop}
    (hcap : capv ≤ 255) (hlen : len ≤ 1024) (HO : ∀ k, k < len → ∃ b off, ∃ op : Nat, a = some ⟨b, off, none⟩ ∧ w.cell? ⟨b, off + k, none⟩ = some (.int .u8 op) ∧ op ≤ 255) (hlt : k < len) (hm0 : 0 ≤ m) (hm1 : m ≤ (capv : Int)) (hn : n ≤ k) (hsl : ss.length ≤ k)
    (hS : Scr w wr w.heap.size R C capv m n xs eb sb rb qb pb ss [] ss [] v9 v10) (hpar : ∀ b off (op : Nat), a = some ⟨b, off, none⟩ → w.cell? ⟨b, off + k, none⟩ = some (.int .u8 op) → op % 2 = 0) (hroom : ¬ m < (capv : Int))
    (HK : Hid (∀ {v4 v8 v9 v10 v11 v12 v13 v14 v15 v16 v17 v18 v19 v37 v38 v39 v40 v41 v42 v43 v44 v45 v46 v47 v48 v49 v50 v51 v52 v53 v54 v55 v56 v57 v58 v59 v60 v61 v62 v63 v64 v65 v66 v67 v68 v69 v70 v71 v72 v73 v74 v75 v76 v77 v78 v79 v80 v81 v82 v83 v84 v85 v86 v87 v88 v89 v90 v91 v92 v93 v94 v95 v96 v97 v98 v99 v100 v101 v102 v103 v104 v105 v106 v107 v108 v109 v110 v111 v112 v113 v114 v115 v116 v117 v118 v119 v120 v121 v122 v123 v124 v125 v126 v127 v128 v129 v130 v131 v132 v133 v134 v135 v136 v137 v138 v139 v140 v141 v142 v143 v144 v145 v146 v147 v148 v149 v150 v151 v152 v153 v154 v155 v156 v157 v158 v159 v160 v161 v162 v163 v164 v165 v166 v167 v168 v169 v170 v171 v172 v173 v174 v175 v176 v177 v178 v179 v180 v181 v182 v183 v184 v185 v186 v187 v188 v189 v190 v191 v192 v193 v194 v195 v196 v197 v198 v199 v200 v201 v202 v203 v204 v205 v206 v207 v208 v209 v210 v211 v212 v213 v214 v215 v216 v217 v218 v219 v220 v221 v222 v223 v224 v225 v226 v227 v228 v229 v230 v231 v232 v233 v234 v235 v236 v237 v238 v239 v240 v241 v242 v243 v244 v245 v246 v247 v248 v249 v250 v251 v252 v253 v254 v255 v256 v257 v258 v259 v260 v261 v262 v263 v264 v265 v266 v267 v268 v269 v270 v271 v272 v273 v274 v275 v276 v277 v278 v279 v280 v281 v282 v283 v284 v285 v286 v287 v288 v289 v290 v291 v292 v293 v294 v295 v296 v297 v298 v299 v300 v301 v302 v303 v304 v305 v306 v307 v308 v309 v310 v311 v312 v313 v314 v315 v316 v317 v318 v319 v320 v321 v322 v323 v324 v325 v326 v327 v328 v329 v330 v331 v332 v333 v334 v335 v336 v337 v338 v339 v340 v341 v342 v343 v344 v345 v346 v347 v348 v349 v350 v351 v352 v353 v354 v355 v356 v357 v358 v359 v360 v361 v362 v363 : Value} {w' : World}, Rel len capv w R C v8 v9 v10 v37 w' → v37 = .int .i64 ((k : Int) + 1) → K ⟨#[.slice a len cap, .int .u8 capv, c2, c3, v4, .pointer (some ⟨w.heap.size, 0, none⟩), .pointer (some ⟨R, 0, none⟩), .pointer (some ⟨C, 0, none⟩), v8, v9, v10, v11, v12, v13, v14, v15, v16, v17, v18, v19, c20, c21, c22, c23, c24, c25, c26, c27, c28, c29, c30, c31, c32, c33, c34, .slice a len cap, .int .i64 len, v37, v38, v39, v40, v41, v42, v43, v44, v45, v46, v47, v48, v49, v50, v51, v52, v53, v54, v55, v56, v57, v58, v59, v60, v61, v62, v63, v64, v65, v66, v67, v68, v69, v70, v71, v72, v73, v74, v75, v76, v77, v78, v79, v80, v81, v82, v83, v84, v85, v86, v87, v88, v89, v90, v91, v92, v93, v94, v95, v96, v97, v98, v99, v100, v101, v102, v103, v104, v105, v106, v107, v108, v109, v110, v111, v112, v113, v114, v115, v116, v117, v118, v119, v120, v121, v122, v123, v124, v125, v126, v127, v128, v129, v130, v131, v132, v133, v134, v135, v136, v137, v138, v139, v140, v141, v142, v143, v144, v145, v146, v147, v148, v149, v150, v151, v152, v153, v154, v155, v156, v157, v158, v159, v160, v161, v162, v163, v164, v165, v166, v167, v168, v169, v170, v171, v172, v173, v174, v175, v176, v177, v178, v179, v180, v181, v182, v183, v184, v185, v186, v187, v188, v189, v190, v191, v192, v193, v194, v195, v196, v197, v198, v199, v200, v201, v202, v203, v204, v205, v206, v207, v208, v209, v210, v211, v212, v213, v214, v215, v216, v217, v218, v219, v220, v221, v222, v223, v224, v225, v226, v227, v228, v229, v230, v231, v232, v233, v234, v235, v236, v237, v238, v239, v240, v241, v242, v243, v244, v245, v246, v247, v248, v249, v250, v251, v252, v253, v254, v255, v256, v257, v258, v259, v260, v261, v262, v263, v264, v265, v266, v267, v268, v269, v270, v271, v272, v273, v274, v275, v276, v277, v278, v279, v280, v281, v282, v283, v284, v285, v286, v287, v288, v289, v290, v291, v292, v293, v294, v295, v296, v297, v298, v299, v300, v301, v302, v303, v304, v305, v306, v307, v308, v309, v310, v311, v312, v313, v314, v315, v316, v317, v318, v319, v320, v321, v322, v323, v324, v325, v326, v327, v328, v329, v330, v331, v332, v333, v334, v335, v336, v337, v338, v339, v340, v341, v342, v343, v344, v345, v346, v347, v348, v349, v350, v351, v352, v353, v354, v355, v356, v357, v358, v359, v360, v361, v362, v363, c364, c365, c366, c367, c368, c369, c370, c371, c372, c373, c374, c375, c376, c377, c378, c379, c380, c381, c382, c383, c384, c385, c386, c387, c388, c389, c390, c391, c392], []⟩ w')) :
    Code.wp Ybaf.prog (loopOf Ybaf.f4) (Exit.then K Q0) ⟨#[.slice a len cap, .int .u8 capv, c2, c3, v4, .pointer (some ⟨w.heap.size, 0, none⟩), .pointer (some ⟨R, 0, none⟩), .pointer (some ⟨C, 0, none⟩), .int .i64 m, v9, v10, v11, v12, v13, v14, v15, v16, v17, v18, v19, c20, c21, c22, c23, c24, c25, c26, c27, c28, c29, c30, c31, c32, c33, c34, .slice a len cap, .int .i64 len, .int .i64 k, v38, v39, v40, v41, v42, v43, v44, v45, v46, v47, v48, v49, v50, v51, v52, v53, v54, v55, v56, v57, v58, v59, v60, v61, v62, v63, v64, v65, v66, v67, v68, v69, v70, v71, v72, v73, v74, v75, v76, v77, v78, v79, v80, v81, v82, v83, v84, v85, v86, v87, v88, v89, v90, v91, v92, v93, v94, v95, v96, v97, v98, v99, v100, v101, v102, v103, v104, v105, v106, v107, v108, v109, v110, v111, v112, v113, v114, v115, v116, v117, v118, v119, v120, v121, v122, v123, v124, v125, v126, v127, v128, v129, v130, v131, v132, v133, v134, v135, v136, v137, v138, v139, v140, v141, v142, v143, v144, v145, v146, v147, v148, v149, v150, v151, v152, v153, v154, v155, v156, v157, v158, v159, v160, v161, v162, v163, v164, v165, v166, v167, v168, v169, v170, v171, v172, v173, v174, v175, v176, v177, v178, v179, v180, v181, v182, v183, v184, v185, v186, v187, v188, v189, v190, v191, v192, v193, v194, v195, v196, v197, v198, v199, v200, v201, v202, v203, v204, v205, v206, v207, v208, v209, v210, v211, v212, v213, v214, v215, v216, v217, v218, v219, v220, v221, v222, v223, v224, v225, v226, v227, v228, v229, v230, v231, v232, v233, v234, v235, v236, v237, v238, v239, v240, v241, v242, v243, v244, v245, v246, v247, v248, v249, v250, v251, v252, v253, v254, v255, v256, v257, v258, v259, v260, v261, v262, v263, v264, v265, v266, v267, v268, v269, v270, v271, v272, v273, v274, v275, v276, v277, v278, v279, v280, v281, v282, v283, v284, v285, v286, v287, v288, v289, v290, v291, v292, v293, v294, v295, v296, v297, v298, v299, v300, v301, v302, v303, v304, v305, v306, v307, v308, v309, v310, v311, v312, v313, v314, v315, v316, v317, v318, v319, v320, v321, v322, v323, v324, v325, v326, v327, v328, v329, v330, v331, v332, v333, v334, v335, v336, v337, v338, v339, v340, v341, v342, v343, v344, v345, v346, v347, v348, v349, v350, v351, v352, v353, v354, v355, v356, v357, v358, v359, v360, v361, v362, v363, c364, c365, c366, c367, c368, c369, c370, c371, c372, c373, c374, c375, c376, c377, c378, c379, c380, c381, c382, c383, c384, c385, c386, c387, c388, c389, c390, c391, c392], []⟩ wr := by
  have q57 := neq_same
  obtain ⟨b, off, op, ha, c0, hop⟩ := HO k hlt
  subst ha
  have hbw : b < w.heap.size := World.block_lt_of_cell? w _ c0
  have h1 : wr.cell? ⟨b, off + k, none⟩ = some (.int .u8 op) := (hS.below.cell hbw).trans c0
  have hp : op % 2 = 0 := hpar b off op rfl c0
  have hww := hS.below.size
  have HS0 := hide hS
  clear hS c0 HO hpar
  have j1 : (0 : Int) ≤ (k : Int) := by omega
  have j2 : (k : Int) < (len : Int) := by omega
  conv => arg 2; whnf
  go_upto_region 14 with fail
  generalize hW : World.alloc (World.alloc (World.alloc wr _) _) _ = W
  have hS := HS0.out.boxes hW
  obtain ⟨_, b1, b2, b3, hWs⟩ := three_boxes hW
  have hP : PSt W wr.heap.size (k : Int) (.pointer none) := ⟨_, b1, rfl, rfl, rfl⟩
  have hE : GSt W (wr.heap.size + 1) ((k : Int) + 1) := ⟨_, b2, rfl⟩
  have hM : MSt W (wr.heap.size + 1 + 1) wr.heap.size (.pointer (some ⟨wr.heap.size + 1, 0, none⟩)) (k : Int) := ⟨_, b3, rfl, rfl, rfl⟩
  clear hW b1 b2 b3 h1 HS0
  generalize hMP : wr.heap.size + 1 + 1 = MP at *
  generalize hME : wr.heap.size + 1 = ME at *
  generalize hPP : wr.heap.size = PP at *
  obtain ⟨ea, ecap, e0⟩ := hS.evs.form
  have tP := hP.ty
  have tM := hM.ty
  have uP : w.heap.size ≤ PP := by omega
  have uM : w.heap.size ≤ MP := by omega
  have HX := hide (And.intro hS (And.intro hP (And.intro hE hM)))
  clear hS hP hE hM
  obtain ⟨hS, hP, hE, hM⟩ := HX.out
  have hsend := hide (send_park (R := R) W hS.run hS.evs (by omega) hM hP hE hS.c hroom (by omega))
  obtain ⟨ra, rcap, hrv⟩ := hS.rl.form
  subst hrv
  clear hS hP hE hM
  go_wp2_with fail
  refine hsend.out.mono ?_
  rintro e w4 ⟨rfl, eb', sb', a1, a2, a3, a4, a5, a7, a6⟩
  dsimp only
  obtain ⟨hS, hP, hE, hM⟩ := HX.out
  obtain ⟨f1, f2⟩ := hS.far tP tM a6
  have g65 : ∀ b, Ty W b 65 → w4.heap[b]? = W.heap[b]? := fun b hb => f1 b 65 hb (by decide) (by decide) (by decide) (by decide) (by decide) (by decide)
  have hE4 := hE.same (g65 ME hE.ty)
  have h4 := hS.op tP tM uP uM a6 a1 a2 a5 a7 (Or.inl rfl) (hS.gr.same g65) ((hS.gs.same g65).push hE4)
  have HF := hide (And.intro h4 (And.intro hE4 a3))
  have HL : Hid (∀ o, Lies (w4.alloc o) v10 ss pb) := fun o => h4.sl.same (fun b e => Below.heap_alloc _ _ _ (h4.sl.ty b e).lt)
  have k5 : n ≤ 1024 := by omega
  have k6 : ¬ (0 : Int) < ((0 : Nat) : Int) := by omega
  clear hS hP hE hM f1 f2 g65 h4 hE4 a1 a2 a3 a4 a5 a6 a7 hsend HX
  go_wp2_with (first
    | (at_builtin; refine wpList_append_cut rfl (.tmp 66) (.tmp 68) rfl rfl (HL.out _) (by omega) w4.heap.size ⟨ME, 0, none⟩ rfl (cell_at (heap_alloc_new _ _) 0) ?_; intro v5 w5 pb' l1 l2 l3
       obtain ⟨h4, hE4, a3⟩ := HF.out
       have h5 := h4.append_s l1 l2 l3
       have f5 := far_alloc l3
       have no : ∀ b t, Ty w4 b t → t ≠ 57 → w5.heap[b]? = w4.heap[b]? := fun b t hb ht => f5 b hb.lt (fun e => Ty.ne hb (h4.sl.ty b e) ht rfl)
       obtain ⟨mc, hMb, _, _, m2⟩ := a3.same (no MP 67 a3.ty (by decide))
       obtain ⟨ec, hEb, e1⟩ := hE4.same (no ME 65 hE4.ty (by decide))
       obtain ⟨B, bcap, s0, s1, s4, s6⟩ := evs_last h5.evs
       have ym2 := (cell_at hMb 2).trans m2
       have ye0 := (cell_at hEb 0).trans e1
       have yc2 := h5.c.cells.2.2
       have H5 := hide h5
       clear h4 hE4 a3 h5 f5 no hMb m2 hEb e1 l1 l2 l3 HL HF))
  go_quiet (fail)
  go_wp2
  exact HK.out ⟨k + 1, n + 1, m, _, _, _, _, _, _, _, _, rfl, by omega, rfl, hm0, hm1, by omega, by simp; omega, Nat.zero_le _, H5.out.drewN _⟩ rfl
end Go.Proofs.YbulkbqeoFmt
