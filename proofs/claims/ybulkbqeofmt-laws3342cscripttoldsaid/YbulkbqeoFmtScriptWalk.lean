/- The walk of LawS3342CScript. By an AI agent. -/
import Derived.Test.YbulkbqeoFmtScriptLoop
namespace Go.Proofs.YbulkbqeoFmt
open Go Go.RowKit
set_option maxRecDepth 100000 in
set_option maxHeartbeats 4000000 in
theorem script_big (a : Option Addr) (len cap : Nat) (capv : Nat) (w : World) (hbig : 1024 < len) (hlen : len ≤ 9223372036854775807) :
    Calls Ybaf.prog 4 #[.slice a len cap, .int .u8 capv] w fun e w' => e = .returned (.bool true) ∧ Below w.heap.size w w' := by
  have i0 : (1024 : Int) < (len : Int) := by omega
  go_enter Ybaf.func4, Ybaf.ntmps4
  go_wp2
  go_ret
  exact ⟨rfl, Below.refl _ _⟩
set_option maxRecDepth 100000 in
theorem script_start {w : World} {W : World} {capv : Int} {o1 o2 o3 : Obj} (hW : ((w.alloc o1).alloc o2).alloc o3 = W)
    (e1 : o1 = .cells #[.slice none 0 0] 25) (e2 : ∃ a b c d e f g h i j k l m n o p q, o2 = .cells #[.iface 22 (.pointer (some ⟨w.heap.size, 0, none⟩)), .int .i64 0, a, b, c, d, e, f, g, .slice none 0 0, h, i, j, k, l, m, n, o, p, q, .nilIface] 52)
    (e3 : o3 = .cells #[.string ⟨#[99]⟩, .int .i64 capv, .int .i64 0, .slice none 0 0, .int .i64 0, .int .i64 0, .slice none 0 0, .int .i64 0, .int .i64 0] 70) :
    Scr w W w.heap.size (w.heap.size + 1) (w.heap.size + 1 + 1) capv 0 0 [] none none none none none [] [] [] [] (.slice none 0 0) (.slice none 0 0) := by
  obtain ⟨a, b, c, d, e, f, g, h, i, j, k, l, m, n, o, p, q, rfl⟩ := e2
  subst e1 e3
  obtain ⟨_, k1, k2, k3, _⟩ := three_boxes hW
  have s1 := alloc_size w (.cells #[.slice none 0 0] 25)
  have s2 := alloc_size (w.alloc (.cells #[.slice none 0 0] 25)) (.cells #[.iface 22 (.pointer (some ⟨w.heap.size, 0, none⟩)), .int .i64 0, a, b, c, d, e, f, g, .slice none 0 0, h, i, j, k, l, m, n, o, p, q, .nilIface] 52)
  have hb : Below w.heap.size w W := by
    rw [← hW]
    exact (((Below.refl _ w).alloc (Nat.le_refl _) _).alloc (by omega) _).alloc (by omega) _
  have hno : AllG W [] := fun x hx => by cases hx
  have hn1 : ∀ b, (none : Option Nat) = some b → (none : Option Nat) ≠ some b ∧ (none : Option Nat) ≠ some b ∧ (none : Option Nat) ≠ some b := fun b hb => by cases hb
  have hn2 : ∀ b, (none : Option Nat) = some b → (none : Option Nat) ≠ some b ∧ (none : Option Nat) ≠ some b := fun b hb => by cases hb
  have hup : w.heap.size ≤ w.heap.size ∧ w.heap.size ≤ w.heap.size + 1 + 1 ∧ ∀ b, ((none : Option Nat) = some b ∨ (none : Option Nat) = some b ∨ (none : Option Nat) = some b ∨ (none : Option Nat) = some b ∨ (none : Option Nat) = some b) → w.heap.size ≤ b := ⟨Nat.le_refl _, by omega, fun b hb => by rcases hb with h | h | h | h | h <;> cases h⟩
  have hc4 : ∀ b, (none : Option Nat) = some b → (none : Option Nat) ≠ some b := fun b hb => by cases hb
  exact ⟨⟨_, k2, rfl, rfl, rfl, rfl⟩, ⟨_, k1, ⟨rfl, Or.inl ⟨rfl, rfl⟩⟩, rfl⟩, ⟨_, _, 0, 0, k3, Or.inl ⟨rfl, rfl, rfl, rfl⟩, Or.inl ⟨rfl, rfl, rfl, rfl⟩, hc4⟩, hno, hno, Or.inl ⟨rfl, rfl, rfl⟩, Or.inl ⟨rfl, rfl, rfl⟩, hn1, hn2, hb, hup⟩
set_option maxRecDepth 1000000 in
set_option maxHeartbeats 4000000 in
theorem script_walk (a : Option Addr) (len cap : Nat) (capv : Nat) (w : World) (hcap : capv ≤ 255) (hlen : len ≤ 1024) (hops : ∀ k, k < len → ∃ b off, ∃ op : Nat, a = some ⟨b, off, none⟩ ∧ w.cell? ⟨b, off + k, none⟩ = some (.int .u8 op) ∧ op ≤ 255) :
    Calls Ybaf.prog 4 #[.slice a len cap, .int .u8 capv] w fun e w' => e = .returned (.bool true) ∧ Below w.heap.size w w' := by
  have HO := hide hops
  clear hops
  have i0 : ¬ (1024 : Int) < (len : Int) := by omega
  go_enter Ybaf.func4, Ybaf.ntmps4
  go_wp2
  generalize hW : World.alloc (World.alloc (World.alloc w _) _) _ = W1
  have HS := hide (script_start (capv := (capv : Int)) hW rfl ⟨_, _, _, _, _, _, _, _, _, _, _, _, _, _, _, _, _, rfl⟩ rfl)
  clear hW
  generalize hC : w.heap.size + 1 + 1 = C at *
  generalize hR : w.heap.size + 1 = R at *
  refine script_loop hcap hlen HO.out ⟨0, 0, 0, [], none, none, none, none, none, [], [], rfl, Nat.zero_le _, rfl, Int.le_refl _, by omega, Nat.le_refl _, Nat.le_refl _, Nat.le_refl _, HS.out⟩ ?_
  intro v4 v8 v9 v10 v11 v12 v13 v14 v15 v16 v17 v18 v19 v37 v38 v39 v40 v41 v42 v43 v44 v45 v46 v47 v48 v49 v50 v51 v52 v53 v54 v55 v56 v57 v58 v59 v60 v61 v62 v63 v64 v65 v66 v67 v68 v69 v70 v71 v72 v73 v74 v75 v76 v77 v78 v79 v80 v81 v82 v83 v84 v85 v86 v87 v88 v89 v90 v91 v92 v93 v94 v95 v96 v97 v98 v99 v100 v101 v102 v103 v104 v105 v106 v107 v108 v109 v110 v111 v112 v113 v114 v115 v116 v117 v118 v119 v120 v121 v122 v123 v124 v125 v126 v127 v128 v129 v130 v131 v132 v133 v134 v135 v136 v137 v138 v139 v140 v141 v142 v143 v144 v145 v146 v147 v148 v149 v150 v151 v152 v153 v154 v155 v156 v157 v158 v159 v160 v161 v162 v163 v164 v165 v166 v167 v168 v169 v170 v171 v172 v173 v174 v175 v176 v177 v178 v179 v180 v181 v182 v183 v184 v185 v186 v187 v188 v189 v190 v191 v192 v193 v194 v195 v196 v197 v198 v199 v200 v201 v202 v203 v204 v205 v206 v207 v208 v209 v210 v211 v212 v213 v214 v215 v216 v217 v218 v219 v220 v221 v222 v223 v224 v225 v226 v227 v228 v229 v230 v231 v232 v233 v234 v235 v236 v237 v238 v239 v240 v241 v242 v243 v244 v245 v246 v247 v248 v249 v250 v251 v252 v253 v254 v255 v256 v257 v258 v259 v260 v261 v262 v263 v264 v265 v266 v267 v268 v269 v270 v271 v272 v273 v274 v275 v276 v277 v278 v279 v280 v281 v282 v283 v284 v285 v286 v287 v288 v289 v290 v291 v292 v293 v294 v295 v296 v297 v298 v299 v300 v301 v302 v303 v304 v305 v306 v307 v308 v309 v310 v311 v312 v313 v314 v315 v316 v317 v318 v319 v320 v321 v322 v323 v324 v325 v326 v327 v328 v329 v330 v331 v332 v333 v334 v335 v336 v337 v338 v339 v340 v341 v342 v343 v344 v345 v346 v347 v348 v349 v350 v351 v352 v353 v354 v355 v356 v357 v358 v359 v360 v361 v362 v363 wr hrel hv
  obtain ⟨k, n, m, xs, eb, sb, rb, qb, pb, ss, rs, hkl, hk, rfl, hm0, hm1, hn, hsl, hrl, hS⟩ := hrel
  subst hv
  obtain rfl : k = len := by
    simp only [Value.int.injEq, true_and] at hkl
    omega
  clear hkl HS HO
  have hd1 := hide (drain_r (k + 2) hS.c (by omega) (by omega))
  have HS0 := hide hS
  clear hS
  go_wp2_with fail
  refine hd1.out.mono ?_
  rintro e w5 ⟨rq, rfl, b1, b2, b3⟩
  have hd2 := hide (drain_s (k + 2) b2 (by omega) (by omega))
  have K5 := hide (And.intro b1 (And.intro b2 b3))
  clear b1 b2 b3 hd1
  go_wp2_with fail
  refine hd2.out.mono ?_
  rintro e w6 ⟨sq, rfl, d1, d2, d3⟩
  obtain ⟨b1, b2, b3⟩ := K5.out
  have hS := HS0.out
  have r5 := stay b3 hS.c.ty hS.c.rings.2
  have r6 := stay d3 b2.ty b2.rings.1
  have hrv : Lies w6 v9 rs qb := (hS.rl.same (fun b e => r5.2 b (hS.rl.ty b e) (hS.q1 b e).2.1)).same (fun b e => r6.2 b (by
    obtain ⟨cs, h1⟩ := hS.rl.ty b e
    exact ⟨cs, (r5.2 b ⟨cs, h1⟩ (hS.q1 b e).2.1).trans h1⟩) (hS.q1 b e).1)
  have hsv : Lies w6 v10 ss pb := (hS.sl.same (fun b e => r5.2 b (hS.sl.ty b e) (hS.q2 b e).2)).same (fun b e => r6.2 b (by
    obtain ⟨cs, h1⟩ := hS.sl.ty b e
    exact ⟨cs, (r5.2 b ⟨cs, h1⟩ (hS.q2 b e).2).trans h1⟩) (hS.q2 b e).1)
  have hR5 := hS.run.same (r5.1 R 52 hS.run.ty (by decide) (by decide))
  obtain ⟨rc, hRb, _, _, _, f20⟩ := hR5.same (r6.1 R 52 hR5.ty (by decide) (by decide))
  have y20 : w6.cell? ⟨R, 20, none⟩ = some .nilIface := (cell_at hRb 20).trans f20
  have h6 : Below w.heap.size w w6 := below_kept (below_kept hS.below b3 (Nat.le_refl _) (by
    rintro b (e | e)
    · rw [e]; exact hS.up.2.1
    · exact hS.up.2.2 b (Or.inr (Or.inl e)))) d3 (Nat.le_refl _) (by
    rintro b (e | e)
    · rw [e]; exact hS.up.2.1
    · exact hS.up.2.2 b (Or.inl e))
  have hrq : Holds w6 rq rs := (b1.same d3.1.size (fun g hg => r6.2 g (by
    obtain ⟨h1, _⟩ := b1
    rcases h1.2 with ⟨rfl, _⟩ | ⟨g', cap', cur, rfl, _, hg', _⟩
    · cases hg
    · obtain rfl : g' = g := by simpa [Value.ownBlock] using hg
      exact ⟨cur, hg'⟩) (fun e => by
    have h1 := (b1.2 g hg).1
    have h2 := (hS.c.rings.1 g e).lt
    omega))).holds
  have hsq : Holds w6 sq ss := d1.holds
  have hc1 := hide (same_true rq v9 rs w6 hrq hrv.holds (by omega))
  have hc2 : Hid (∀ q, Calls Ybaf.prog 8 #[sq, v10] (w6.drewN q) fun e w' => e = .returned (.bool true) ∧ ∃ q', w' = (w6.drewN q).drewN q') := fun q => same_true sq v10 ss (w6.drewN q) (hsq.drewN q) (hsv.holds.drewN q) (by omega)
  obtain ⟨a1, p1, rfl⟩ := hrq.form
  obtain ⟨a2, p2, rfl⟩ := hsq.form
  obtain ⟨a3, p3, e3⟩ := hrv.form
  obtain ⟨a4, p4, e4⟩ := hsv.form
  subst e3 e4
  have H6 := hide h6
  clear hS HS0 r5 r6 hrv hsv hR5 hRb f20 h6 hrq hsq b1 b2 b3 d1 d2 d3 K5 hd2
  go_wp2_with (first
    | (go_at_call 8; refine hc1.out.mono ?_; rintro e w7 ⟨rfl, q7, rfl⟩; clear hc1)
    | (go_at_call 8; refine (hc2.out _).mono ?_; rintro e w8 ⟨rfl, q8, rfl⟩))
  go_ret
  exact ⟨rfl, below_drewN' H6.out _⟩
end Go.Proofs.YbulkbqeoFmt
