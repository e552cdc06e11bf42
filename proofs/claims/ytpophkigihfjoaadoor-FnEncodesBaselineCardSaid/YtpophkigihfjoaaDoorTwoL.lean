/- The walk of Read. -/
import Derived.Test.YtpophkigihfjoaaDoorTwoK
import Derived.Test.YtpophkigihfjoaaDoorLawA
/- The walk of Read's loop over the segments. -/
namespace Go.Proofs.YtpophkigihfjoaaDoor
open Go.RowKit
set_option maxRecDepth 100000

noncomputable def rd0 : Code := blkOf 0 Tryd.f8.body

def noMaps : List Value := [.map none, .map none, .map none, .map none, .map none, .map none, .map none, .map none]

def segL (G c0 c1 c2 c3 : Nat) : List Value := segC G 219 6 130 c0 ++ segC G 192 140 15 c1 ++ segC G 196 159 416 c2 ++ segC G 218 579 10 c3

/-- What there is ahead of the loop. -/
structure SegIn (w : World) (TB SB G c0 c1 c2 c3 W H : Nat) (qs : List Int) : Prop where
  tb : Blk w TB (tblC 0 0 nilS nilS noMaps nilS) 66
  sg : ∀ j u, (segL G c0 c1 c2 c3)[j]? = some u → w.cell? ⟨SB, j, none⟩ = some u
  sl : SB < w.heap.size
  st : SB ≠ TB
  gt : G ≠ TB
  ql : qs.length = 128
  b0 : BodyW w G 6 (dqtBody qs)
  b1 : BodyW w G 140 (sofBody W H)
  b2 : BodyW w G 159 dhtBody

/-- What the segments' reading leaves. -/
def SegsOut (w : World) (TB G c3 W H : Nat) (w' : World) : Prop :=
  ∃ (CB cap tg tc M0 M1 M2 M3 : Nat) (more : List Value), w.heap.size ≤ CB ∧ Blk w' CB (cblOf nilS nilS nilS more) 38 ∧
    Blk w' TB (tblC W H (.slice (some ⟨CB, 0, none⟩) 3 cap) (.slice (some ⟨tg, 0, none⟩) 2 tc) [.map (some M0), .map (some M2), .map none, .map none, .map (some M1), .map (some M3), .map none, .map none] (.slice (some ⟨G, 579, none⟩) 10 c3)) 66 ∧
    MapIs w' M0 es0 ∧ MapIs w' M1 es1 ∧ MapIs w' M2 es2 ∧ MapIs w' M3 es3 ∧ Fr (· = TB) w w'

/-- The segments lie where they lay. -/
structure SegK (w0 w : World) (TB SB G c0 c1 c2 c3 W H : Nat) (qs : List Int) : Prop where
  sg : ∀ j u, (segL G c0 c1 c2 c3)[j]? = some u → w.cell? ⟨SB, j, none⟩ = some u
  sl : SB < w.heap.size
  b0 : BodyW w G 6 (dqtBody qs)
  b1 : BodyW w G 140 (sofBody W H)
  b2 : BodyW w G 159 dhtBody
  fr : Fr (· = TB) w0 w

theorem SegIn.k {w : World} {TB SB G c0 c1 c2 c3 W H : Nat} {qs : List Int} (h : SegIn w TB SB G c0 c1 c2 c3 W H qs) : SegK w w TB SB G c0 c1 c2 c3 W H qs := ⟨h.sg, h.sl, h.b0, h.b1, h.b2, Fr.refl _ _⟩

theorem SegK.go {w0 w w' : World} {TB SB G c0 c1 c2 c3 W H : Nat} {qs : List Int} (h : SegK w0 w TB SB G c0 c1 c2 c3 W H qs) (hst : SB ≠ TB) (hgt : G ≠ TB) (hf : Fr (· = TB) w w') : SegK w0 w' TB SB G c0 c1 c2 c3 W H qs :=
  ⟨fun j u hu => (World.cell?_of_block (a := ⟨SB, j, none⟩) (hf.block SB h.sl hst)).trans (h.sg j u hu), Nat.lt_of_lt_of_le h.sl hf.size, h.b0.frame hf hgt, h.b1.frame hf hgt, h.b2.frame hf hgt, h.fr.trans hf (fun _ _ e => e)⟩

theorem map_ne {w : World} {m b : Nat} {es : List (Nat × Nat × Nat)} {cs : List Value} {t : TypeId} (h : MapIs w m es) (hb : Blk w b cs t) : m ≠ b := by
  obtain ⟨n, D, ⟨xs, clock, hh, r⟩, hD⟩ := h
  rintro rfl
  unfold Blk at hb
  rw [hb] at hh
  cases hh

set_option maxHeartbeats 2000000 in
theorem s_loop {w : World} {TB SB G sc c0 c1 c2 c3 W H : Nat} {qs : List Int} {dl : List Deferred}
    {v0 v1 v2 v3 v4 v5 v6 v8 v9 v10 v11 v12 v13 v14 v15 v16 v17 v18 v19 v20 v21 v22 v23 v24 v25 v26 v27 v28 v29 v30 v31 v32 v33 v34 v35 v36 v37 v38 v42 v43 v44 v45 v46 v47 v48 v49 v50 v51 v52 v53 v54 v55 v56 v57 v58 v59 v60 v61 v62 v63 v64 v65 v66 v67 v68 v69 v70 v71 v72 v73 v74 v75 v76 v77 v78 v79 v80 v81 v82 v83 v84 v85 v86 v87 v88 v89 v90 v91 v92 v93 v94 v95 v96 v97 v98 v99 v100 v101 v102 v103 v104 v105 v106 v107 v108 v109 v110 v111 v112 v113 v114 v115 v116 v117 v118 v119 v120 v121 v122 v123 v124 v125 v126 v127 v128 v129 v130 v131 v132 v133 v134 v135 v136 v137 v138 v139 v140 v141 v142 v143 v144 v145 v146 v147 v148 v149 v150 v151 v152 v153 v154 v155 v156 v157 v158 v159 v160 v161 v162 v163 v164 v165 v166 v167 v168 v169 v170 v171 v172 v173 v174 v175 v176 v177 v178 v179 v180 v181 v182 v183 v184 v185 v186 v187 v188 v189 v190 v191 v192 v193 v194 v195 v196 v197 v198 v199 v200 v201 v202 v203 v204 v205 v206 v207 v208 v209 v210 v211 v212 v213 v214 v215 v216 v217 v218 v219 v220 v221 v222 v223 v224 v225 v226 v227 v228 v229 v230 v231 v232 v233 v234 v235 v236 v237 v238 v239 v240 v241 v242 v243 v244 v245 v246 v247 v248 v249 v250 v251 v252 v253 v254 v255 v256 v257 v258 v259 v260 v261 v262 v263 v264 v265 v266 v267 v268 v269 v270 v271 v272 v273 v274 v275 v276 v277 v278 v279 v280 v281 v282 v283 v284 v285 v286 v287 v288 v289 v290 v291 v292 v293 v294 v295 v296 v297 v298 v299 v300 v301 v302 v303 v304 v305 v306 v307 v308 v309 v310 v311 v312 v313 v314 v315 v316 v317 : Value}
    (h : SegIn w TB SB G c0 c1 c2 c3 W H qs) (w1 : 1 ≤ W) (w2 : W ≤ 40) (h1 : 1 ≤ H) (h2 : H ≤ 40) (k0 : 130 ≤ c0) (k1 : 15 ≤ c1) (k2 : 416 ≤ c2) :
    Code.wp Tryd.prog rd0 (fun e a' w' => e = .normal ∧ FrX (fun f => #[v0, v1, f 2, f 3, v4, v5, v6, .pointer (some ⟨TB, 0, none⟩), v8, f 9, v10, v11, v12, v13, v14, v15, v16, v17, v18, v19, v20, v21, v22, v23, v24, v25, v26, v27, v28, v29, v30, v31, v32, v33, v34, v35, v36, v37, v38, .slice (some ⟨SB, 0, none⟩) 4 sc, .int .i64 4, f 41, f 42, f 43, f 44, f 45, f 46, f 47, f 48, f 49, v50, v51, v52, v53, v54, v55, v56, v57, v58, v59, v60, v61, v62, v63, v64, v65, v66, v67, v68, v69, v70, v71, v72, v73, v74, v75, v76, v77, v78, v79, v80, v81, v82, v83, v84, v85, v86, v87, v88, v89, v90, v91, v92, v93, v94, v95, v96, v97, v98, v99, v100, v101, v102, v103, v104, v105, v106, v107, v108, v109, v110, v111, v112, v113, v114, v115, v116, v117, v118, v119, v120, v121, v122, v123, v124, v125, v126, v127, v128, v129, v130, v131, v132, v133, v134, v135, v136, v137, v138, v139, v140, v141, v142, v143, v144, v145, v146, v147, v148, v149, v150, v151, v152, v153, v154, v155, v156, v157, v158, v159, v160, v161, v162, v163, v164, v165, v166, v167, v168, v169, v170, v171, v172, v173, v174, v175, v176, v177, v178, v179, v180, v181, v182, v183, v184, v185, v186, v187, v188, v189, v190, v191, v192, v193, v194, v195, v196, v197, v198, v199, v200, v201, v202, v203, v204, v205, v206, v207, v208, v209, v210, v211, v212, v213, v214, v215, v216, v217, v218, v219, v220, v221, v222, v223, v224, v225, v226, v227, v228, v229, v230, v231, v232, v233, v234, v235, v236, v237, v238, v239, v240, v241, v242, v243, v244, v245, v246, v247, v248, v249, v250, v251, v252, v253, v254, v255, v256, v257, v258, v259, v260, v261, v262, v263, v264, v265, v266, v267, v268, v269, v270, v271, v272, v273, v274, v275, v276, v277, v278, v279, v280, v281, v282, v283, v284, v285, v286, v287, v288, v289, v290, v291, v292, v293, v294, v295, v296, v297, v298, v299, v300, v301, v302, v303, v304, v305, v306, v307, v308, v309, v310, v311, v312, v313, v314, v315, v316, v317]) dl (SegsOut w TB G c3 W H) a' w')
      ⟨#[v0, v1, v2, v3, v4, v5, v6, .pointer (some ⟨TB, 0, none⟩), v8, v9, v10, v11, v12, v13, v14, v15, v16, v17, v18, v19, v20, v21, v22, v23, v24, v25, v26, v27, v28, v29, v30, v31, v32, v33, v34, v35, v36, v37, v38, .slice (some ⟨SB, 0, none⟩) 4 sc, .int .i64 4, .int .i64 0, v42, v43, v44, v45, v46, v47, v48, v49, v50, v51, v52, v53, v54, v55, v56, v57, v58, v59, v60, v61, v62, v63, v64, v65, v66, v67, v68, v69, v70, v71, v72, v73, v74, v75, v76, v77, v78, v79, v80, v81, v82, v83, v84, v85, v86, v87, v88, v89, v90, v91, v92, v93, v94, v95, v96, v97, v98, v99, v100, v101, v102, v103, v104, v105, v106, v107, v108, v109, v110, v111, v112, v113, v114, v115, v116, v117, v118, v119, v120, v121, v122, v123, v124, v125, v126, v127, v128, v129, v130, v131, v132, v133, v134, v135, v136, v137, v138, v139, v140, v141, v142, v143, v144, v145, v146, v147, v148, v149, v150, v151, v152, v153, v154, v155, v156, v157, v158, v159, v160, v161, v162, v163, v164, v165, v166, v167, v168, v169, v170, v171, v172, v173, v174, v175, v176, v177, v178, v179, v180, v181, v182, v183, v184, v185, v186, v187, v188, v189, v190, v191, v192, v193, v194, v195, v196, v197, v198, v199, v200, v201, v202, v203, v204, v205, v206, v207, v208, v209, v210, v211, v212, v213, v214, v215, v216, v217, v218, v219, v220, v221, v222, v223, v224, v225, v226, v227, v228, v229, v230, v231, v232, v233, v234, v235, v236, v237, v238, v239, v240, v241, v242, v243, v244, v245, v246, v247, v248, v249, v250, v251, v252, v253, v254, v255, v256, v257, v258, v259, v260, v261, v262, v263, v264, v265, v266, v267, v268, v269, v270, v271, v272, v273, v274, v275, v276, v277, v278, v279, v280, v281, v282, v283, v284, v285, v286, v287, v288, v289, v290, v291, v292, v293, v294, v295, v296, v297, v298, v299, v300, v301, v302, v303, v304, v305, v306, v307, v308, v309, v310, v311, v312, v313, v314, v315, v316, v317], dl⟩ w := by
  dsimp only [rd0, blkOf, got, blkAt, Tryd.f8, Nat.reduceBEq, cond_true, cond_false]
  have hst := h.st
  have hgt := h.gt
  have HT0 := hu h.tb
  have HQ := hu h.ql
  have HK0 := hu h.k
  have HD := hu (And.intro (And.intro w1 w2) (And.intro h1 h2))
  have HCC := hu (And.intro k0 (And.intro k1 k2))
  clear h w1 w2 h1 h2 k0 k1 k2
  go_wp2_with (fail)
  refine wp_loop_rounds 5 ?_
  have s0 := (HK0.out ()).sg 0 _ rfl
  have s1 := (HK0.out ()).sg 1 _ rfl
  rw [rounds_succ]
  go_upto_region 8 with (fail)
  have hfa : Fr (· = TB) w (w.alloc (.cells (List.toArray [.int .i64 219, .slice (some ⟨G, 6, none⟩) 130 c0]) 68)) := (Fr.refl _ w).alloc _
  have hta := (HT0.out ()).alloc (.cells (List.toArray [.int .i64 219, .slice (some ⟨G, 6, none⟩) 130 c0]) 68)
  have hka := (HK0.out ()).go hst hgt hfa
  have hnb := Blk.new w [.int .i64 219, .slice (some ⟨G, 6, none⟩) 130 c0] 68
  obtain ⟨CC, hCC⟩ : ∃ z, w.heap.size = z := ⟨_, rfl⟩
  simp only [hCC] at hnb ⊢
  obtain ⟨wa0, hwa⟩ : ∃ z, w.alloc (.cells #[.int .i64 219, .slice (some ⟨G, 6, none⟩) 130 c0] 68) = z := ⟨_, rfl⟩
  simp only [hwa] at hfa hta hka hnb ⊢
  have q0 := hnb.cellv 0 rfl
  have q1 := hnb.cellv 1 rfl
  have HTA := hu hta
  have HKA := hu hka
  have HCK := hu hCC
  have HFA := hu hfa
  clear hfa hta hka hnb hwa hCC s0 s1 HT0 HK0
  go_wp2_with (fail)
  refine (read_dqt (q := []) (HQ.out ()) (HTA.out ()) (HKA.out ()).b0 hgt (HCC.out ()).1).mono ?_
  rintro e wn0 ⟨rfl, tg, tc, ht, -, hf⟩
  have HT1 := hu ht
  have HK1 := hu ((HKA.out ()).go hst hgt hf)
  have HF0 := hu ((HFA.out ()).trans hf (fun _ _ e => e))
  clear ht hf q0 q1 HTA HKA HCK HFA
  go_wp2
  have s0 := (HK1.out ()).sg 2 _ rfl
  have s1 := (HK1.out ()).sg 3 _ rfl
  rw [rounds_succ]
  go_upto_region 8 with (fail)
  have hfa : Fr (· = TB) wn0 (wn0.alloc (.cells (List.toArray [.int .i64 192, .slice (some ⟨G, 140, none⟩) 15 c1]) 68)) := (Fr.refl _ wn0).alloc _
  have hta := (HT1.out ()).alloc (.cells (List.toArray [.int .i64 192, .slice (some ⟨G, 140, none⟩) 15 c1]) 68)
  have hka := (HK1.out ()).go hst hgt hfa
  have hnb := Blk.new wn0 [.int .i64 192, .slice (some ⟨G, 140, none⟩) 15 c1] 68
  obtain ⟨CC, hCC⟩ : ∃ z, wn0.heap.size = z := ⟨_, rfl⟩
  simp only [hCC] at hnb ⊢
  obtain ⟨wa1, hwa⟩ : ∃ z, wn0.alloc (.cells #[.int .i64 192, .slice (some ⟨G, 140, none⟩) 15 c1] 68) = z := ⟨_, rfl⟩
  simp only [hwa] at hfa hta hka hnb ⊢
  have q0 := hnb.cellv 0 rfl
  have q1 := hnb.cellv 1 rfl
  have HTA := hu hta
  have HKA := hu hka
  have HCK := hu hCC
  have HFA := hu hfa
  clear hfa hta hka hnb hwa hCC s0 s1 HT1 HK1
  go_wp2_with (fail)
  refine (read_sof (HTA.out ()) (HKA.out ()).b1 hgt (HD.out ()).1.1 (HD.out ()).1.2 (HD.out ()).2.1 (HD.out ()).2.2 (HCC.out ()).2.1).mono ?_
  rintro e wn1 ⟨rfl, CB, cap, more, hCB, ht, hcb, hf⟩
  have HT2 := hu ht
  have HK2 := hu ((HKA.out ()).go hst hgt hf)
  have HF1 := hu ((HFA.out ()).trans hf (fun _ _ e => e))
  have hne : CB ≠ TB := by have := (HTA.out ()).lt; omega
  have HCB := hu hcb
  have HLE := hu (show w.heap.size ≤ CB from Nat.le_trans (HKA.out ()).fr.size hCB)
  clear ht hf q0 q1 HTA HKA HCK HFA hcb hCB
  go_wp2
  have s0 := (HK2.out ()).sg 4 _ rfl
  have s1 := (HK2.out ()).sg 5 _ rfl
  rw [rounds_succ]
  go_upto_region 8 with (fail)
  have hfa : Fr (· = TB) wn1 (wn1.alloc (.cells (List.toArray [.int .i64 196, .slice (some ⟨G, 159, none⟩) 416 c2]) 68)) := (Fr.refl _ wn1).alloc _
  have hta := (HT2.out ()).alloc (.cells (List.toArray [.int .i64 196, .slice (some ⟨G, 159, none⟩) 416 c2]) 68)
  have hka := (HK2.out ()).go hst hgt hfa
  have hnb := Blk.new wn1 [.int .i64 196, .slice (some ⟨G, 159, none⟩) 416 c2] 68
  obtain ⟨CC, hCC⟩ : ∃ z, wn1.heap.size = z := ⟨_, rfl⟩
  simp only [hCC] at hnb ⊢
  obtain ⟨wa2, hwa⟩ : ∃ z, wn1.alloc (.cells #[.int .i64 196, .slice (some ⟨G, 159, none⟩) 416 c2] 68) = z := ⟨_, rfl⟩
  simp only [hwa] at hfa hta hka hnb ⊢
  have q0 := hnb.cellv 0 rfl
  have q1 := hnb.cellv 1 rfl
  have HTA := hu hta
  have HKA := hu hka
  have HCK := hu hCC
  have HFA := hu hfa
  clear hfa hta hka hnb hwa hCC s0 s1 HT2 HK2
  go_wp2_with (fail)
  refine (read_dht (HTA.out ()) (HKA.out ()).b2 hgt (HCC.out ()).2.2).mono ?_
  rintro e wn2 ⟨rfl, M0, M1, M2, M3, ht, hm0, hm1, hm2, hm3, hf⟩
  have HT3 := hu ht
  have HK3 := hu ((HKA.out ()).go hst hgt hf)
  have HF2 := hu ((HFA.out ()).trans hf (fun _ _ e => e))
  have HMS := hu (And.intro hm0 (And.intro hm1 (And.intro hm2 hm3)))
  have HMN := hu (And.intro (map_ne hm0 (HT3.out ())) (And.intro (map_ne hm1 (HT3.out ())) (And.intro (map_ne hm2 (HT3.out ())) (map_ne hm3 (HT3.out ())))))
  clear ht hf q0 q1 HTA HKA HCK HFA hm0 hm1 hm2 hm3
  go_wp2
  have s0 := (HK3.out ()).sg 6 _ rfl
  have s1 := (HK3.out ()).sg 7 _ rfl
  rw [rounds_succ]
  go_upto_region 8 with (fail)
  have hfa : Fr (· = TB) wn2 (wn2.alloc (.cells (List.toArray [.int .i64 218, .slice (some ⟨G, 579, none⟩) 10 c3]) 68)) := (Fr.refl _ wn2).alloc _
  have hta := (HT3.out ()).alloc (.cells (List.toArray [.int .i64 218, .slice (some ⟨G, 579, none⟩) 10 c3]) 68)
  have hka := (HK3.out ()).go hst hgt hfa
  have hnb := Blk.new wn2 [.int .i64 218, .slice (some ⟨G, 579, none⟩) 10 c3] 68
  obtain ⟨CC, hCC⟩ : ∃ z, wn2.heap.size = z := ⟨_, rfl⟩
  simp only [hCC] at hnb ⊢
  obtain ⟨wa3, hwa⟩ : ∃ z, wn2.alloc (.cells #[.int .i64 218, .slice (some ⟨G, 579, none⟩) 10 c3] 68) = z := ⟨_, rfl⟩
  simp only [hwa] at hfa hta hka hnb ⊢
  have q0 := hnb.cellv 0 rfl
  have q1 := hnb.cellv 1 rfl
  have HTA := hu hta
  have HKA := hu hka
  have HCK := hu hCC
  have HFA := hu hfa
  clear hfa hta hka hnb hwa hCC s0 s1 HT3 HK3
  go_wp2_with (fail)
  refine (read_sos (HTA.out ()) rfl).mono ?_
  rintro e wn3 ⟨rfl, ht, hf⟩
  have HT4 := hu ht
  have HK4 := hu ((HKA.out ()).go hst hgt hf)
  have HF3 := hu ((HFA.out ()).trans hf (fun _ _ e => e))
  clear ht hf q0 q1 HTA HKA HCK HFA
  go_wp2
  rw [rounds_succ]
  go_wp2
  have ms := HMS.out ()
  have mn := HMN.out ()
  have hso : SegsOut w TB G c3 W H wn3 := ⟨CB, cap, tg, tc, M0, M1, M2, M3, more, HLE.out (), (HF3.out ()).blk ((HF2.out ()).blk (HCB.out ()) hne) hne, HT4.out (), ms.1.frame (HF3.out ()) mn.1, ms.2.1.frame (HF3.out ()) mn.2.1, ms.2.2.1.frame (HF3.out ()) mn.2.2.1, ms.2.2.2.frame (HF3.out ()) mn.2.2.2, (HK4.out ()).fr⟩
  first | exact ex_frame hso rfl | exact ⟨rfl, ex_frame hso rfl⟩
end Go.Proofs.YtpophkigihfjoaaDoor

/- The walk of Read. -/
namespace Go.Proofs.YtpophkigihfjoaaDoor
open Go.RowKit
set_option maxRecDepth 100000

/-- What Read hands back of an encoder's file. -/
def ReadPost (w : World) (W H : Nat) (e : Ending) (w' : World) : Prop :=
  ∃ (TB CB : Nat) (v0 v1 v2 : Value), e = .returned (.tuple #[.pointer (some ⟨TB, 0, none⟩), .bool true]) ∧ FrmW w' TB CB W H v0 v1 v2 ∧ Sl3 v0 v1 v2 ∧ Fr (fun _ => False) w w'

theorem row_block {w : World} {b : Nat} {e : TypeId} {size n : Nat} {sa : Option Addr} {sc : Nat} {xs : List Value} (h : w.ownsRow b e size (.slice sa n sc) n xs) (hn : 0 < n) :
    ∃ SB, sa = some ⟨SB, 0, none⟩ ∧ b ≤ SB ∧ SB < w.heap.size ∧ ∀ j u, xs[j]? = some u → w.cell? ⟨SB, j, none⟩ = some u := by
  obtain ⟨g, hg, hb⟩ : ∃ g, sa = some ⟨g, 0, none⟩ ∧ b ≤ g := by
    rcases h.2 with ⟨_, h0⟩ | ⟨g, cap, _, hv, hb, _⟩
    · omega
    · injection hv with h1 h2 h3
      exact ⟨g, h1, hb⟩
  subst hg
  refine ⟨g, rfl, hb, (World.ownsRow.lt h g rfl).2, fun j u hu => ?_⟩
  have := World.ownsRow.cells h (g := g) rfl j u hu
  rwa [Addr.add_mid, Nat.zero_add] at this

theorem coded_pos {p : Par} {W H : Nat} {D : List Nat} {E pad : List Bool} (hp : ParT p) (hd : (1 ≤ W ∧ W ≤ 40) ∧ 1 ≤ H ∧ H ≤ 40) (hE : bitsOf D = E ++ pad) (hc : CodedN p 0 (6 * ((W + 15) / 16 * ((H + 15) / 16))) E []) : 0 < D.length := by
  have h0 : 0 < (W + 15) / 16 * ((H + 15) / 16) := Nat.mul_pos (by omega) (by omega)
  obtain ⟨n, hn⟩ : ∃ n, 6 * ((W + 15) / 16 * ((H + 15) / 16)) = n + 1 := ⟨6 * ((W + 15) / 16 * ((H + 15) / 16)) - 1, by omega⟩
  rw [hn] at hc
  obtain ⟨s, pd, ts, E', rfl, hs, _⟩ := hc
  have hl := congrArg List.length hE
  rw [bitsOf_length] at hl
  have h1 : (huffBits (ldAt p 0) s).length = (ldAt p 0).getD s 0 / 16777216 := bitsN_length _ _
  have h2 : ldAt p 0 = lutL0 := hp.l0
  have h3 := (tab0.dc s hs).n1
  rw [h2] at h1
  rw [List.length_append, List.length_append, h2, h1] at hl
  omega

theorem file_bodies {w : World} {G : Nat} {dq sf dh ss st : List Int} (hL : FileL dq sf dh ss) (hb : BodyW w G 0 (fileB dq sf dh ss st)) : BodyW w G 6 dq ∧ BodyW w G 140 sf ∧ BodyW w G 159 dh ∧ BodyW w G 579 ss := by
  have hl := file_length (st := st) hL
  have l0 := hL.dq
  have l1 := hL.sf
  have l2 := hL.dh
  have l3 := hL.ss
  have part : ∀ (a b : List Int) (o o2 : Nat), a.length = 4 → o2 = o + 4 → o2 + b.length ≤ 591 → (∀ i, i < (a ++ b).length → (fileB dq sf dh ss st).getD (o + i) 0 = (a ++ b).getD i 0) → BodyW w G o2 b := by
    intro a b o o2 ha ho hle h
    refine ⟨fun j hj => ?_, hb.lt⟩
    have h1 := hb.cell (o + (4 + j)) (by rw [hl]; omega)
    rw [h (4 + j) (by rw [List.length_append, ha]; omega), ← ha, getD_mid, ha] at h1
    rw [show o2 + j = 0 + (o + (4 + j)) by omega]
    exact h1
  exact ⟨part _ _ 2 6 rfl rfl (by omega) (file_dq hL), part _ _ 136 140 rfl rfl (by omega) (file_sf hL), part _ _ 155 159 rfl rfl (by omega) (file_dh hL), part _ _ 575 579 rfl rfl (by omega) (file_ss hL)⟩

theorem mk22 (w : World) : (Instr.makeSlice 22 (.int .i64 3) (.int .i64 3)).run Tryd.prog w = .ok (.slice (some ⟨w.heap.size, 0, none⟩) 3 3) (w.alloc (.cells #[I64 0, I64 0, I64 0] 3)) :=
  made_cells (z := .int .i64 0) (b := 8) w 3 3 rfl (by kernel_rfl) (by kernel_rfl) (by kernel_rfl) (by kernel_rfl) rfl (by omega) (by omega)

theorem StW.still {k : Ctx} {D : List Nat} {w w' : World} (h : StW k D w) (hf : Fr (fun _ => False) w w') : StW k D w' := by
  obtain ⟨bs, hl, hB⟩ := h.bef
  exact ⟨h.src.frame hf (fun e => e) (fun e => e), h.fix.still hf, ⟨bs, hl, hf.blk hB (fun e => e)⟩⟩

set_option maxHeartbeats 4000000 in
theorem read_any {w : World} {G C N W H : Nat} {qs : List Int} {D : List Nat} {p : Par} {E pad : List Bool} (hb : BodyW w G 0 (fileB (dqtBody qs) (sofBody W H) dhtBody scanB (stuff D))) (hql : qs.length = 128) (hN : 591 + (stuff D).length = N) (hn : N ≤ 300000) (hC : N ≤ C)
    (w1 : 1 ≤ W) (w2 : W ≤ 40) (h1 : 1 ≤ H) (h2 : H ≤ 40) (hp : ParT p) (hD : ∀ d ∈ D, d < 256) (hE : bitsOf D = E ++ pad) (hc : CodedN p 0 (6 * ((W + 15) / 16 * ((H + 15) / 16))) E []) (hpl : pad.length ≤ 7) (hpt : ∀ b ∈ pad, b = true) :
    Calls Tryd.prog 8 #[.slice (some ⟨G, 0, none⟩) N C] w (ReadPost w W H) := by
  have hL : FileL (dqtBody qs) (sofBody W H) dhtBody scanB := ⟨dqtBody_length hql, rfl, dhtBody_length, rfl⟩
  have HB := hu hb
  have HL := hu hL
  have HQ := hu hql
  have HN := hu (And.intro hN (And.intro hn hC))
  have HWH := hu (And.intro (And.intro w1 w2) (And.intro h1 h2))
  have HP := hu hp
  have HD := hu hD
  have HE := hu (And.intro hE (And.intro hc (And.intro hpl hpt)))
  clear hb hL hql hN hn hC w1 w2 h1 h2 hp hD hE hc hpl hpt
  go_enter Tryd.func8, Tryd.ntmps8
  go_wp2_with (fail)
  refine (segments_any (HL.out ()) (HB.out ()) (HN.out ()).1 (HN.out ()).2.1 (HN.out ()).2.2).mono ?_
  rintro e ws ⟨sa, da, sc, dc, c0, c1, c2, c3, rfl, k0, k1, k2, k3, hseg, hdat, hfs⟩
  obtain ⟨SB, rfl, hSB, hSBl, hsc⟩ := row_block hseg (by omega)
  obtain ⟨DB, rfl, hDB, hDBl, hdc⟩ := row_block hdat (coded_pos (HP.out ()) (HWH.out ()) (HE.out ()).1 (HE.out ()).2.1)
  have HFS := hu hfs
  have HSC := hu (And.intro hSB (And.intro hSBl hsc))
  have HDC := hu (And.intro hDB (And.intro hDBl hdc))
  have HK := hu (And.intro k0 (And.intro k1 k2))
  clear hseg hdat hfs hSB hSBl hsc hDB hDBl hdc k0 k1 k2 k3
  go_upto_block 0 with (fail)
  have hfw : Fr (fun _ => False) ws (ws.alloc (.cells (tblC 0 0 nilS nilS noMaps nilS).toArray 66)) := (Fr.refl _ ws).alloc _
  have hnb := Blk.new ws (tblC 0 0 nilS nilS noMaps nilS) 66
  obtain ⟨TB, hTB⟩ : ∃ z, ws.heap.size = z := ⟨_, rfl⟩
  have hGl := Nat.lt_of_lt_of_le (HB.out ()).lt (HFS.out ()).size
  have hSBl := (HSC.out ()).2.1
  have hDBl := (HDC.out ()).2.1
  simp only [hTB] at hnb ⊢
  obtain ⟨wt, hwt⟩ : ∃ z, ws.alloc (.cells (tblC 0 0 nilS nilS noMaps nilS).toArray 66) = z := ⟨_, rfl⟩
  have hwt2 : ws.alloc (.cells #[.int .i64 0, .int .i64 0, .slice none 0 0, .slice none 0 0, .map none, .map none, .map none, .map none, .map none, .map none, .map none, .map none, .slice none 0 0] 66) = wt := hwt
  simp only [hwt] at hfw hnb
  simp only [hwt2]
  have hfwt := (HFS.out ()).trans hfw (fun _ _ e => e)
  have hfb := file_bodies (HL.out ()) (HB.out ())
  have hsi : SegIn wt TB SB G c0 c1 c2 c3 W H qs := ⟨hnb, fun j u hu => (World.cell?_of_block (a := ⟨SB, j, none⟩) (hfw.block SB hSBl (fun e => e))).trans ((HSC.out ()).2.2 j u hu), Nat.lt_of_lt_of_le hSBl hfw.size, by omega, by omega, HQ.out (), hfb.1.frame hfwt (fun e => e), hfb.2.1.frame hfwt (fun e => e), hfb.2.2.1.frame hfwt (fun e => e)⟩
  refine wp_mono (c := rd0) (s_loop hsi (HWH.out ()).1.1 (HWH.out ()).1.2 (HWH.out ()).2.1 (HWH.out ()).2.2 (HK.out ()).1 (HK.out ()).2.1 (HK.out ()).2.2) ?_
  rintro e a' wu ⟨rfl, f, rfl, CB, cap, tg, tc, M0, M1, M2, M3, more, hCB, hcb, htb, hm0, hm1, hm2, hm3, hfu⟩
  have hDu : ∀ j, j < D.length → wu.cell? ⟨DB, j, none⟩ = some (.int .u8 (D.getD j 0 : Nat)) := fun j hj => by
    rw [World.cell?_of_block (a := ⟨DB, j, none⟩) (hfu.block DB (Nat.lt_of_lt_of_le hDBl hfw.size) (by omega)), World.cell?_of_block (a := ⟨DB, j, none⟩) (hfw.block DB hDBl (fun e => e))]
    exact (HDC.out ()).2.2 j _ (by rw [List.getElem?_map, List.getD_eq_getElem?_getD, List.getElem?_eq_getElem hj]; rfl)
  have hsbu := (hfb.2.2.2.frame hfwt (fun e => e)).frame hfu (by omega)
  have c0 := htb.cellv 0 rfl
  have c1 := htb.cellv 1 rfl
  have c2 := htb.cellv 2 rfl
  have c12 := htb.cellv 12 rfl
  have s0 : wu.cell? ⟨G, 579, none⟩ = some (.int .u8 3) := hsbu.cell 0 (by decide)
  have mk := mk22
  have hfwu : Fr (fun _ => False) w wu := hfwt.trans hfu (fun g hg e => by
    have e : g = TB := e
    have := (HFS.out ()).size
    omega)
  have hTBl : TB < wu.heap.size := htb.lt
  have hCBT : CB ≠ TB := by have h1 : wt.heap.size ≤ CB := hCB; have h2 := hnb.lt; omega
  have HFU := hu hfwu
  have HSU := hu hsbu
  have HDU := hu hDu
  have HTU := hu htb
  have HCU := hu hcb
  have HMU := hu (And.intro hm0 (And.intro hm1 (And.intro hm2 hm3)))
  have HNE := hu hCBT
  have HDL := hu (Nat.lt_of_lt_of_le (Nat.lt_of_lt_of_le hDBl hfw.size) hfu.size)
  have HTD := hu (show DB ≠ TB by omega)
  have HCG := hu (show w.heap.size ≤ CB from Nat.le_trans hfwt.size hCB)
  have HGC := hu (show G ≠ CB by have h1 : wt.heap.size ≤ CB := hCB; have h2 := hfw.size; omega)
  have HDC2 := hu (show DB ≠ CB by have h1 : wt.heap.size ≤ CB := hCB; have h2 := hfw.size; omega)
  clear hfw hnb hTB hGl hSBl hDBl hwt hwt2 hfwt hfb hsi hCB hcb htb hm0 hm1 hm2 hm3 hfu hDu hsbu hfwu hTBl hCBT HFS HSC HDC HK
  have W1 : ((W : Int) == 0) = false := by have := (HWH.out ()).1.1; simp; omega
  have H1 : ((H : Int) == 0) = false := by have := (HWH.out ()).2.1; simp; omega
  go_upto_region 17 with (fail)
  have hfa : Fr (fun _ => False) wu (wu.alloc (.cells (List.toArray [.slice (some ⟨DB, 0, none⟩) D.length dc, .int .i64 0, .bool false]) 72)) := (Fr.refl _ wu).alloc _
  have hfv := hfa.alloc (.cells (List.toArray ([0, 0, 0].map I64)) 3)
  have hrb := (Blk.new wu [.slice (some ⟨DB, 0, none⟩) D.length dc, .int .i64 0, .bool false] 72).alloc (.cells (List.toArray ([0, 0, 0].map I64)) 3)
  have hpb := Blk.new (wu.alloc (.cells (List.toArray [.slice (some ⟨DB, 0, none⟩) D.length dc, .int .i64 0, .bool false]) 72)) ([0, 0, 0].map I64) 3
  have hsz : (wu.alloc (.cells (List.toArray [.slice (some ⟨DB, 0, none⟩) D.length dc, .int .i64 0, .bool false]) 72)).heap.size = wu.heap.size + 1 := by simp
  rw [hsz] at hpb
  obtain ⟨RB, hRB⟩ : ∃ z, wu.heap.size = z := ⟨_, rfl⟩
  have l1 := (HTU.out ()).lt
  have l2 := (HCU.out ()).lt
  have l3 := (HSU.out ()).lt
  have l4 := HDL.out ()
  have l5 := (HMU.out ()).1.lt
  have l6 := (HMU.out ()).2.1.lt
  have l7 := (HMU.out ()).2.2.1.lt
  have l8 := (HMU.out ()).2.2.2.lt
  simp only [hRB] at hrb hpb l1 l2 l3 l4 l5 l6 l7 l8 ⊢
  obtain ⟨wv, hwv⟩ : ∃ z, (wu.alloc (.cells (List.toArray [.slice (some ⟨DB, 0, none⟩) D.length dc, .int .i64 0, .bool false]) 72)).alloc (.cells (List.toArray ([0, 0, 0].map I64)) 3) = z := ⟨_, rfl⟩
  rw [hwv] at hrb hpb hfv
  simp only [List.map_cons, List.map_nil] at hwv
  rw [hwv]
  have hF := HTU.out ()
  have hCu := HCU.out ()
  have hms := HMU.out ()
  obtain ⟨k, hk⟩ : ∃ k : Ctx, (⟨TB, CB, G, RB, DB, RB + 1, 0, 0, 0, M0, M1, M2, M3, W, H, cap, c3, tg, tc, more⟩ : Ctx) = k := ⟨_, rfl⟩
  have eTB : k.TB = TB := by rw [← hk]
  have eCB : k.CB = CB := by rw [← hk]
  have eRB : k.RB = RB := by rw [← hk]
  have ePB : k.PB = RB + 1 := by rw [← hk]
  have ecap : k.cap = cap := by rw [← hk]
  have eX : k.X = (W + 15) / 16 := by rw [← hk]; rfl
  have eY : k.Y = (H + 15) / 16 := by rw [← hk]; rfl
  have eW : k.W = W := by rw [← hk]
  have eH : k.H = H := by rw [← hk]
  have hok : k.Ok0 := by rw [← hk]; exact ⟨(HWH.out ()).1.1, (HWH.out ()).1.2, (HWH.out ()).2.1, (HWH.out ()).2.2, l1, l2, l3, l4, l5, l6, l7, l8, Nat.lt_succ_self RB⟩
  have hap : k.Ap := by rw [← hk]; exact ⟨Ne.symm (HNE.out ()), HGC.out (), HDC2.out (), map_ne hms.1 hCu, map_ne hms.2.1 hCu, map_ne hms.2.2.1 hCu, map_ne hms.2.2.2 hCu⟩
  have hst : StW k D wv := by
    rw [← hk]
    have hl1 := (HN.out ()).1
    have hl2 := (HN.out ()).2.1
    have hl3 := pos_ge D
    exact ⟨⟨⟨dc, hrb⟩, fun j hj => (World.cell?_of_block (a := ⟨DB, j, none⟩) (hfv.block DB (HDL.out ()) (fun e => e))).trans (HDU.out () j hj), Nat.lt_of_lt_of_le (HDL.out ()) hfv.size, Nat.ne_of_lt l4, by omega, HD.out ()⟩,
      ⟨hfv.blk hF (fun e => e), hfv.blk hCu (fun e => e), hms.1.frame hfv (fun e => e), hms.2.1.frame hfv (fun e => e), hms.2.2.1.frame hfv (fun e => e), hms.2.2.2.frame hfv (fun e => e), (HSU.out ()).frame hfv (fun e => e)⟩, ⟨[0, 0, 0], rfl, hpb⟩⟩
  have hfwv := (HFU.out ()).trans hfv (fun _ _ e => e)
  have hge : w.heap.size ≤ RB := by rw [← hRB]; exact (HFU.out ()).size
  have eP1 : RB + 1 = k.PB := ePB.symm
  clear c0 c1 c2 c12 s0 mk W1 H1 hwv hrb hpb hsz hfa hF hCu hms l1 l2 l3 l4 l5 l6 l7 l8 ePB HFU HSU HDU HTU HCU HMU HNE HDL HTD HGC HDC2 hfv HB HL HQ HD
  rw [eP1]
  clear eP1
  clear hk
  subst eTB eCB eRB ecap
  obtain ⟨X, hX⟩ : ∃ X, (W + 15) / 16 = X := ⟨_, rfl⟩
  obtain ⟨Y, hY⟩ : ∃ Y, (H + 15) / 16 = Y := ⟨_, rfl⟩
  rw [hX] at eX
  rw [hY] at eY
  have HST := hu hst
  have HOK := hu hok
  have HAP := hu hap
  have HXY := hu (And.intro eX (And.intro eY (And.intro hX hY)))
  have HWk := hu (And.intro eW eH)
  have HFW := hu hfwv
  have hX1 : 0 < X := by have := (HWH.out ()).1.1; omega
  have hX3 : X ≤ 3 := by have := (HWH.out ()).1.2; omega
  have hY1 : 0 < Y := by have := (HWH.out ()).2.1; omega
  have hY3 : Y ≤ 3 := by have := (HWH.out ()).2.2; omega
  have HB4 := hu (And.intro (And.intro hX1 hX3) (And.intro hY1 hY3))
  have HGE := hu (show w.heap.size ≤ k.RB from hge)
  clear hst hok hap hX hY eX eY eW eH hfwv hX1 hX3 hY1 hY3 hge hRB
  go_upto_region 18 with (go_at_call 14; refine (units_any (HST.out ()).fix.frm ⟨⟨_, _, _, rfl⟩, ⟨_, _, _, rfl⟩, ⟨_, _, _, rfl⟩⟩ (by rw [(HWk.out ()).1]; exact (HWH.out ()).1.2) (by rw [(HWk.out ()).2]; exact (HWH.out ()).2.2)).mono ?_; rintro e wx ⟨rfl, hfx⟩; rw [(HWk.out ()).1, (HWk.out ()).2, (HXY.out ()).2.2.1, (HXY.out ()).2.2.2]; have HSX := hu ((HST.out ()).still hfx); have HFX := hu ((HFW.out ()).trans hfx (fun _ _ e => e)); clear hfx)
  have s0 : wx.cell? ⟨k.TB, 2, none⟩ = some (.slice (some ⟨k.CB, 0, none⟩) 3 k.cap) := (HSX.out ()).fix.tb.cellv 2 rfl
  go_upto_block 2 with (fail)
  refine wp_mono (c := rd2) (m_loop (HOK.out ()) (HAP.out ()) (HSX.out ())) ?_
  clear s0 HSX HST
  rintro e a' wm ⟨rfl, f2, rfl, b0, b1, b2, hok1, hsm, hfm⟩
  have HOK1 := hu hok1
  have HSM := hu hsm
  have HFM := hu hfm
  obtain ⟨P, hP⟩ : ∃ P, X * Y = P := ⟨_, rfl⟩
  have hP9 : P ≤ 9 := by rw [← hP]; exact Nat.mul_le_mul (HB4.out ()).1.2 (HB4.out ()).2.2
  have ev : Value.int IntKind.i64 (wrap64 ((X : Int) * (Y : Int))) = Value.int IntKind.i64 (P : Int) := by
    rw [show (X : Int) * (Y : Int) = ((P : Nat) : Int) by rw [← hP]; push_cast; rfl, w64 (by omega) (by omega)]
  have HPP := hu hP
  clear hok1 hsm hfm hP hP9
  go_upto_block 4 with (fail)
  rw [ev]
  have hcd : CodedN p 0 (6 * P) ((bitsOf D).drop 0) pad := by
    have h1 := (HE.out ()).2.1
    rw [(HXY.out ()).2.2.1, (HXY.out ()).2.2.2, HPP.out ()] at h1
    have h2 := CodedN.append h1 (show CodedN p (0 + 6 * P) 0 pad pad from rfl)
    rw [List.drop_zero, (HE.out ()).1]
    exact h2
  refine wp_mono (c := rd4) (u_loop (k := k.wB b0 b1 b2) (HOK1.out ()) (HP.out ()) (show (k.wB b0 b1 b2).X = X from (HXY.out ()).1) (show (k.wB b0 b1 b2).Y = Y from (HXY.out ()).2.1) (HPP.out ()) (HSM.out ()) hcd) ?_
  clear hcd ev HSM
  rintro e a' wn ⟨rfl, f3, rfl, a3, hsn, hdr⟩
  have HSN := hu hsn
  have HDR := hu hdr
  clear hsn hdr
  go_upto_block 10 with (fail)
  refine wp_mono (c := rd10) (f_loop (k := k.wB b0 b1 b2) (HOK1.out ()) (HSN.out ()) (HDR.out ()) (HE.out ()).2.2.1 (HSN.out ()).le (HE.out ()).2.2.2) ?_
  clear HSN HDR
  rintro e a' wo ⟨rfl, f4, rfl, hso⟩
  obtain ⟨cp, hh⟩ := hso.src.head
  have q1 : wo.cell? ⟨(k.wB b0 b1 b2).RB, 1, none⟩ = some (.int .i64 ((8 * D.length : Nat) : Int)) := hh.cellv 1 rfl
  have q2 : wo.cell? ⟨(k.wB b0 b1 b2).RB, 2, none⟩ = some (.bool false) := hh.cellv 2 rfl
  obtain ⟨L8, hL8⟩ : ∃ L8, 8 * D.length = L8 := ⟨_, rfl⟩
  rw [hL8] at q1
  have hsm := hso.src.small
  have ev : Value.int IntKind.i64 (IntKind.i64.wrap (8 * (D.length : Int))) = Value.int IntKind.i64 (L8 : Int) := by rw [show 8 * (D.length : Int) = ((L8 : Nat) : Int) by omega, wr64 L8 (by omega)]
  have ev2 : Value.int IntKind.i64 (wrap64 (8 * (D.length : Int))) = Value.int IntKind.i64 (L8 : Int) := by rw [show 8 * (D.length : Int) = ((L8 : Nat) : Int) by omega]; exact congrArg _ (IntWalk.wrap64_in _ ⟨by omega, by omega⟩)
  have HSO := hu hso
  clear hso hh hL8 hsm
  go_upto_region 49 with (fail)
  go_quiet (fail)
  go_wp2
  go_ret2
  have hsf := HSO.out ()
  have hft : Fr (fun _ => False) w (wo.drewN nq) := by
    have hcg := HCG.out ()
    have hge := HGE.out ()
    have h1 := (HFX.out ()).trans (HFM.out ()) (fun g hg e => by have e : g = k.CB := e; omega)
    have h2 := h1.trans hsf.fr (fun g hg e => by have e : k.RB ≤ g := e; omega)
    exact h2.drewN nq
  have hfx := hsf.fix.still ((Fr.refl (fun _ => False) wo).drewN nq)
  have hfr := hfx.frm
  rw [show (k.wB b0 b1 b2).W = W from (HWk.out ()).1, show (k.wB b0 b1 b2).H = H from (HWk.out ()).2] at hfr
  exact ⟨k.TB, k.CB, _, _, _, rfl, hfr, ⟨⟨_, _, _, rfl⟩, ⟨_, _, _, rfl⟩, ⟨_, _, _, rfl⟩⟩, hft⟩
end Go.Proofs.YtpophkigihfjoaaDoor
