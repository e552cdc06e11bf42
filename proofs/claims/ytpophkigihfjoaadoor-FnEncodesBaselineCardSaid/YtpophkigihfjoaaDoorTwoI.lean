/- The walk of Read, innermost loop. -/
import Derived.Test.YtpophkigihfjoaaDoorTwoH
/- The walk of Read's innermost loop: the blocks of one component in one unit. -/
namespace Go.Proofs.YtpophkigihfjoaaDoor
open Go.RowKit
set_option maxRecDepth 100000

noncomputable def rd8 : Code := blkOf 8 Tryd.f8.body

/-- What is said of a component: number i, h blocks in a unit's row and column, tables t, its n blocks in block Bi. -/
structure CompF (k : Ctx) (D : List Nat) (w0 : World) (i h t Bi n md ma : Nat) (ld la : List Nat) (ed ea : List (Nat × Nat × Nat)) : Prop where
  ok : k.Ok
  i3 : i < 3
  h1 : h = 1 ∨ h = 2
  t2 : t < 2
  hn : n = h * h * (k.X * k.Y)
  vs : ∀ w a, ScW k D w0 w a → w.cell? ⟨k.CB, i * 5 + 4, none⟩ = some (blkS Bi n)
  tab : ∀ w a, ScW k D w0 w a → TabW w k.TB t t md ma ed ea
  T : Tab ld la ed ea
  by_ : ∀ w a, ScW k D w0 w a → w.cell? ⟨k.G, 579 + (2 + 2 * i), none⟩ = some (.int .u8 ((17 * t : Nat) : Int))
  bl : ∀ w a, ScW k D w0 w a → ∃ cs : List Value, cs.length = 64 * n ∧ Blk w Bi cs 77
  b3 : Bi = k.B0 ∨ Bi = k.B1 ∨ Bi = k.B2
  md : md < k.RB
  ma : ma < k.RB

def PRel (k : Ctx) (p : Par) (D : List Nat) (w0 : World) (j N m : Nat) (rest : List Bool) (x : Value) (wr : World) : Prop :=
  ∃ q a2 : Nat, x = .int .i64 (q : Int) ∧ q ≤ m ∧ ScW k D w0 wr a2 ∧ CodedN p (j + q) (N - q) ((bitsOf D).drop a2) rest

theorem block_rd_i {w : World} {RB DB BB TB t md ma a s bi : Nat} {D : List Nat} {ld la : List Nat} {ed ea : List (Nat × Nat × Nat)} {pd rest : List Bool} {ts : List Tok} {bs : List Int} {x y : Int}
    (h : SrcR w RB DB D a) (ht : TabW w TB t t md ma ed ea) (hT : Tab ld la ed ea) (hdc : t < 2) (hB : Blk w BB (bs.map I64) 3) (hbl : bs.length = 3) (hbi : bi < 3) (hin : BlkIn D a ld la s pd ts rest)
    (n1 : BB ≠ RB) (n2 : TB ≠ RB) (n3 : TB ≠ BB) (n4 : md ≠ RB) (n5 : ma ≠ RB) (n6 : md ≠ BB) (n7 : ma ≠ BB) (n8 : DB ≠ BB) (hx : x = (t : Int)) (hy : y = (t : Int)) :
    Calls Tryd.prog 17 #[.pointer (some ⟨TB, 0, none⟩), .pointer (some ⟨RB, 0, none⟩), .int .i64 x, .int .i64 y, .pointer (some ⟨BB, bi, none⟩)] w
      (BlkPost w RB DB BB D (a + (ld.getD s 0 / 16777216 + s + (tokBits la ts).length))) := by
  subst hx hy
  exact block_rd h ht hT hdc hdc hB hbl hbi hin n1 n2 n3 n4 n5 n6 n7 n8

theorem p_more {k : Ctx} {p : Par} {D : List Nat} {w0 wr : World} {j N m q a3 : Nat} {rest : List Bool} (hq : q < m) (hm : m ≤ 4) (hs : ScW k D w0 wr a3) (hc : CodedN p (j + q + 1) (N - q - 1) ((bitsOf D).drop a3) rest) :
    PRel k p D w0 j N m rest (Value.int IntKind.i64 (wrap64 ((q : Int) + 1))) wr ∧ m + 1 - (intOf (Value.int IntKind.i64 (wrap64 ((q : Int) + 1)))).toNat < m + 1 - (intOf (Value.int IntKind.i64 (q : Int))).toNat := by
  have e : wrap64 ((q : Int) + 1) = ((q + 1 : Nat) : Int) := by rw [w64 (by omega) (by omega)]; push_cast; rfl
  rw [e]
  refine ⟨⟨q + 1, a3, rfl, hq, hs, hc⟩, ?_⟩
  show _ - ((q + 1 : Nat) : Int).toNat < _ - (q : Int).toNat
  rw [Int.toNat_natCast, Int.toNat_natCast]
  omega

theorem dc_val {t T : Nat} (ht : t < 2) (hT : 17 * t = T) : IntKind.i64.wrap ((T : Int) / 16) = (t : Int) := by
  obtain rfl | rfl : t = 0 ∨ t = 1 := by omega
  all_goals (subst hT; decide)
theorem ac_val {t T : Nat} (ht : t < 2) (hT : 17 * t = T) : IntKind.i64.wrap (bits BinOp.and IntKind.u8 (T : Int) 15) = (t : Int) := by
  obtain rfl | rfl : t = 0 ∨ t = 1 := by omega
  all_goals (subst hT; decide)

set_option maxHeartbeats 2000000 in
theorem p_loop {k : Ctx} {p : Par} {D : List Nat} {w0 w : World} {kk i h t Bi n md ma j a N X Y m A : Nat} {ld la : List Nat} {ed ea : List (Nat × Nat × Nat)} {rest : List Bool} {dl : List Deferred}
    {v0 v1 v2 v3 v4 v5 v6 v8 v9 v16 v17 v18 v19 v22 v24 v27 v28 v29 v30 v31 v32 v33 v34 v35 v36 v37 v38 v39 v40 v41 v42 v43 v44 v45 v46 v47 v48 v49 v50 v51 v52 v53 v54 v55 v56 v57 v58 v59 v60 v61 v62 v63 v64 v65 v66 v67 v68 v69 v70 v71 v72 v73 v74 v75 v76 v77 v78 v79 v80 v81 v82 v83 v84 v85 v86 v87 v88 v89 v90 v91 v92 v93 v94 v95 v96 v97 v98 v99 v100 v101 v102 v103 v104 v105 v106 v107 v108 v109 v110 v111 v112 v113 v114 v115 v116 v117 v118 v119 v120 v121 v122 v123 v124 v125 v126 v127 v128 v129 v130 v131 v132 v133 v134 v135 v136 v137 v138 v139 v140 v141 v142 v143 v144 v145 v146 v147 v148 v149 v150 v151 v152 v153 v154 v155 v156 v157 v158 v159 v160 v161 v162 v163 v164 v165 v166 v167 v168 v169 v170 v171 v172 v173 v174 v175 v176 v177 v178 v179 v180 v181 v182 v183 v184 v185 v186 v187 v188 v189 v190 v191 v192 v193 v194 v195 v196 v197 v198 v199 v200 v201 v202 v203 v204 v205 v206 v207 v208 v209 v210 v211 v212 v213 v214 v215 v216 v217 v218 v219 v222 v223 v224 v225 v226 v227 v228 v229 v230 v231 v232 v233 v234 v235 v236 v237 v238 v239 v240 v241 v242 v243 v244 v245 v246 v247 v248 v249 v250 v251 v252 v253 v254 v255 v256 v257 v258 v259 v260 v261 v262 v263 v264 v265 v266 v267 v268 v269 v270 v271 v272 v273 v274 v275 v276 v277 v278 v279 v280 v281 v282 v283 v284 v285 v286 v287 v288 v289 v290 v291 v292 v293 v294 v295 v296 v297 v298 v299 v300 v301 v302 v303 v304 v305 v306 v307 v308 v309 v310 v311 v312 v313 v314 v315 v316 v317 : Value}
    (c : CompF k D w0 i h t Bi n md ma ld la ed ea) (eX : k.X = X) (eY : k.Y = Y) (em : h * h = m) (eA : X * h = A) (hkk : kk < X * Y) (hs : ScW k D w0 w a) (hc : CodedN p j N ((bitsOf D).drop a) rest) (hN : m ≤ N) (hj : ∀ q, q < m → ldAt p (j + q) = ld ∧ laAt p (j + q) = la) :
    Code.wp Tryd.prog rd8 (fun e a' w' => e = .normal ∧ FrX (fun f => #[v0, v1, v2, v3, v4, v5, v6, .pointer (some ⟨k.TB, 0, none⟩), v8, v9, .pointer (some ⟨k.TB, 0, none⟩), .int .i64 3, .pointer (some ⟨k.RB, 0, none⟩), .slice (some ⟨k.PB, 0, none⟩) 3 3, .int .i64 (X : Int), .int .i64 (Y : Int), v16, v17, v18, v19, .int .i64 (kk : Int), .int .i64 (i : Int), v22, .int .i64 (A : Int), v24, .int .i64 (h : Int), .int .i64 (h : Int), f 27, f 28, v29, v30, v31, v32, v33, v34, v35, v36, v37, v38, v39, v40, v41, v42, v43, v44, v45, v46, v47, v48, v49, v50, v51, v52, v53, v54, v55, v56, v57, v58, v59, v60, v61, v62, v63, v64, v65, v66, v67, v68, v69, v70, v71, v72, v73, v74, v75, v76, v77, v78, v79, v80, v81, v82, v83, v84, v85, v86, v87, v88, v89, v90, v91, v92, v93, v94, v95, v96, v97, v98, v99, v100, v101, v102, v103, v104, v105, v106, v107, v108, v109, v110, v111, v112, v113, v114, v115, v116, v117, v118, v119, v120, v121, v122, v123, v124, v125, v126, v127, v128, v129, v130, v131, v132, v133, v134, v135, v136, v137, v138, v139, v140, v141, v142, v143, v144, v145, v146, v147, v148, v149, v150, v151, v152, v153, v154, v155, v156, v157, v158, v159, v160, v161, v162, v163, v164, v165, v166, v167, v168, v169, v170, v171, v172, v173, v174, v175, v176, v177, v178, v179, v180, v181, v182, v183, v184, v185, v186, v187, v188, v189, v190, v191, v192, v193, v194, v195, v196, v197, v198, v199, v200, v201, v202, v203, v204, v205, v206, v207, v208, v209, v210, v211, v212, v213, v214, v215, v216, v217, v218, v219, .int .i64 (m : Int), f 221, f 222, f 223, f 224, f 225, f 226, f 227, f 228, f 229, f 230, f 231, f 232, f 233, f 234, f 235, f 236, f 237, f 238, f 239, f 240, f 241, f 242, f 243, f 244, f 245, f 246, f 247, f 248, f 249, f 250, f 251, f 252, f 253, f 254, f 255, f 256, f 257, f 258, f 259, f 260, f 261, f 262, f 263, f 264, f 265, f 266, f 267, f 268, f 269, f 270, f 271, f 272, f 273, f 274, f 275, f 276, f 277, f 278, f 279, f 280, f 281, f 282, f 283, v284, v285, v286, v287, v288, v289, v290, v291, v292, v293, v294, v295, v296, v297, v298, v299, v300, v301, v302, v303, v304, v305, v306, v307, v308, v309, v310, v311, v312, v313, v314, v315, v316, v317]) dl (fun w' => ∃ a2, ScW k D w0 w' a2 ∧ CodedN p (j + m) (N - m) ((bitsOf D).drop a2) rest) a' w')
      ⟨#[v0, v1, v2, v3, v4, v5, v6, .pointer (some ⟨k.TB, 0, none⟩), v8, v9, .pointer (some ⟨k.TB, 0, none⟩), .int .i64 3, .pointer (some ⟨k.RB, 0, none⟩), .slice (some ⟨k.PB, 0, none⟩) 3 3, .int .i64 (X : Int), .int .i64 (Y : Int), v16, v17, v18, v19, .int .i64 (kk : Int), .int .i64 (i : Int), v22, .int .i64 (A : Int), v24, .int .i64 (h : Int), .int .i64 (h : Int), v27, v28, v29, v30, v31, v32, v33, v34, v35, v36, v37, v38, v39, v40, v41, v42, v43, v44, v45, v46, v47, v48, v49, v50, v51, v52, v53, v54, v55, v56, v57, v58, v59, v60, v61, v62, v63, v64, v65, v66, v67, v68, v69, v70, v71, v72, v73, v74, v75, v76, v77, v78, v79, v80, v81, v82, v83, v84, v85, v86, v87, v88, v89, v90, v91, v92, v93, v94, v95, v96, v97, v98, v99, v100, v101, v102, v103, v104, v105, v106, v107, v108, v109, v110, v111, v112, v113, v114, v115, v116, v117, v118, v119, v120, v121, v122, v123, v124, v125, v126, v127, v128, v129, v130, v131, v132, v133, v134, v135, v136, v137, v138, v139, v140, v141, v142, v143, v144, v145, v146, v147, v148, v149, v150, v151, v152, v153, v154, v155, v156, v157, v158, v159, v160, v161, v162, v163, v164, v165, v166, v167, v168, v169, v170, v171, v172, v173, v174, v175, v176, v177, v178, v179, v180, v181, v182, v183, v184, v185, v186, v187, v188, v189, v190, v191, v192, v193, v194, v195, v196, v197, v198, v199, v200, v201, v202, v203, v204, v205, v206, v207, v208, v209, v210, v211, v212, v213, v214, v215, v216, v217, v218, v219, .int .i64 (m : Int), .int .i64 0, v222, v223, v224, v225, v226, v227, v228, v229, v230, v231, v232, v233, v234, v235, v236, v237, v238, v239, v240, v241, v242, v243, v244, v245, v246, v247, v248, v249, v250, v251, v252, v253, v254, v255, v256, v257, v258, v259, v260, v261, v262, v263, v264, v265, v266, v267, v268, v269, v270, v271, v272, v273, v274, v275, v276, v277, v278, v279, v280, v281, v282, v283, v284, v285, v286, v287, v288, v289, v290, v291, v292, v293, v294, v295, v296, v297, v298, v299, v300, v301, v302, v303, v304, v305, v306, v307, v308, v309, v310, v311, v312, v313, v314, v315, v316, v317], dl⟩ w := by
  dsimp only [rd8, blkOf, got, blkAt, Tryd.f8, Nat.reduceBEq, cond_true, cond_false]
  have hX : 0 < X := by have := c.ok.w1; have h2 := eX; unfold Ctx.X at h2; omega
  have hX3 : X ≤ 3 := by have := c.ok.w2; have h2 := eX; unfold Ctx.X at h2; omega
  have hY3 : Y ≤ 3 := by have := c.ok.h2; have h2 := eY; unfold Ctx.Y at h2; omega
  have hh0 : 0 < h := by have := c.h1; omega
  have hh2 : h ≤ 2 := by have := c.h1; omega
  have z1 : ((X : Int) == 0) = false := by simp; omega
  have z2 : ((h : Int) == 0) = false := by simp; omega
  have hi3 := c.i3
  have HC := hu c
  have HS := hu hs
  have HCD := hu hc
  have HJ := hu hj
  have HK := hu hkk
  have HM := hu em
  have HA := hu eA
  have HX := hu eX
  have HY := hu eY
  have HN := hu hN
  clear c hs hc hj hkk em eA eX eY hN
  go_wp2_with (fail)
  go_loopw [221] (PRel k p D w0 j N m rest) (fun x _ => m + 1 - (intOf x).toNat)
  case atStart => exact ⟨0, a, rfl, by omega, HS.out (), HCD.out ()⟩
  case round =>
    obtain ⟨q, a2, rfl, hqm, hs, hc⟩ := hrel
    by_cases hq : q < m
    · have d1 : decide ((q : Int) < (m : Int)) = true := by simp; omega
      have HS2 := hu hs
      have HC2 := hu hc
      clear hs hc
      go_upto_region 42 with (go_quiet (fail))
      obtain ⟨z, hz, hzn⟩ := at_val (HA.out ()) (HM.out ()) hX hX3 hY3 (HC.out ()).h1 (HK.out ()) hq
      simp only [hz]
      clear hz
      obtain ⟨I2, hI2⟩ : ∃ I2, 2 * i = I2 := ⟨_, rfl⟩
      obtain ⟨J, hJ⟩ : ∃ J, 2 + I2 = J := ⟨_, rfl⟩
      have ev1 : Value.int IntKind.i64 (IntKind.i64.wrap (2 * (i : Int))) = Value.int IntKind.i64 (I2 : Int) := by rw [show (2 * (i : Int)) = ((I2 : Nat) : Int) by omega, wr64 I2 (by omega)]
      have ev2 : Value.int IntKind.i64 (IntKind.i64.wrap (2 + (I2 : Int))) = Value.int IntKind.i64 (J : Int) := by rw [show (2 + (I2 : Int)) = ((J : Nat) : Int) by omega, wr64 J (by omega)]
      have j1 : (J : Int) < 10 := by omega
      have j2 : (0 : Int) ≤ (J : Int) := by omega
      have j3 : (i : Int) < 3 := by omega
      have j4 : (0 : Int) ≤ (i : Int) := by omega
      have hsw := HS2.out ()
      have s0 : wr.cell? ⟨k.TB, 2, none⟩ = some (.slice (some ⟨k.CB, 0, none⟩) 3 k.cap) := hsw.fix.tb.cellv 2 rfl
      have s1 := (HC.out ()).vs _ _ hsw
      have s2 : wr.cell? ⟨k.TB, 12, none⟩ = some (.slice (some ⟨k.G, 579, none⟩) 10 k.c3) := hsw.fix.tb.cellv 12 rfl
      have s3 := (HC.out ()).by_ _ _ hsw
      rw [hI2, hJ] at s3
      obtain ⟨T, hT⟩ : ∃ T, 17 * t = T := ⟨_, rfl⟩
      rw [hT] at s3
      have HT := hu hT
      clear hT
      have HIJ := hu (And.intro hI2 hJ)
      clear hsw hI2 hJ
      refine wp_region_takes 36 37 (fun w' => w'.cell? ⟨k.TB, 2, none⟩ = some (.slice (some ⟨k.CB, 0, none⟩) 3 k.cap) ∧ w'.cell? ⟨k.CB, i * 5 + 4, none⟩ = some (blkS Bi n) ∧ w'.cell? ⟨k.TB, 12, none⟩ = some (.slice (some ⟨k.G, 579, none⟩) 10 k.c3) ∧ w'.cell? ⟨k.G, 579 + J, none⟩ = some (.int .u8 (T : Int)))
        (by kernel_rfl) (by kernel_rfl) (by kernel_rfl) (by kernel_rfl) (by decide) rfl (fun c a a' w e h => ?_) ⟨s0, s1, s2, s3⟩ ?_
      · exact Exit.noConfusion (show Exit.panic c = Exit.normal ∧ _ from h).1
      simp only [List.take_succ_cons, List.take_zero]
      iterate 36
        refine chainY_cons (v := ?_) rfl (fun w' hS => ?_) ?_
        rotate_left
        · obtain ⟨s0, s1, s2, s3⟩ := hS
          go_simp
          try with_reducible rfl
        simp only [Act.put, List.setIfInBounds_toArray, List.set_cons_zero, List.set_cons_succ]
      refine chainY_nil ?_
      have n1 : (z : Int) < (n : Int) := by have h1 := (HC.out ()).hn; rw [HX.out (), HY.out (), HM.out ()] at h1; omega
      have n2 : (0 : Int) ≤ (z : Int) := by omega
      refine wpAnyH_next 36 rfl (by kernel_rfl) (fun K hK => ?_)
      go_simp
      have hcd := HC2.out ()
      rw [show N - q = (N - q - 1) + 1 by have := HN.out (); omega] at hcd
      obtain ⟨s, pd, ts, rest2, hin, hnext, hle⟩ := coded_step (HS2.out ()).le hcd
      rw [((HJ.out ()) q hq).1, ((HJ.out ()) q hq).2] at hin hnext hle
      have hk := (HC.out ()).ok
      have hs1 := (HS2.out ()).still hk ((Fr.refl (fun _ => False) wr).drewN (nq + 1))
      obtain ⟨bs, hbl, hbB⟩ := hs1.bef
      have hkp := hk.p
      have hktb := hk.tb
      have hkdb := hk.db
      have hmd := (HC.out ()).md
      have hma := (HC.out ()).ma
      have ht01 := (HC.out ()).t2
      refine (block_rd_i (t := t) hs1.src ((HC.out ()).tab _ _ hs1) (HC.out ()).T ht01 hbB hbl hi3 hin (by omega) (by omega) (by omega) (by omega) (by omega) (by omega) (by omega) (by omega) (dc_val ht01 (HT.out ())) (ac_val ht01 (HT.out ()))).mono ?_
      rintro e w1 ⟨zs, bs2, rfl, hzl, hbl2, hB2, hsrc2, hf2⟩
      have hs2 := hs1.go hk hf2 hsrc2 ⟨bs2, hbl2, hB2⟩ hle
      have t0 : w1.cell? ⟨k.TB, 2, none⟩ = some (.slice (some ⟨k.CB, 0, none⟩) 3 k.cap) := hs2.fix.tb.cellv 2 rfl
      have t1 := (HC.out ()).vs _ _ hs2
      have t2 : w1.cell? ⟨k.TB, 12, none⟩ = some (.slice (some ⟨k.G, 579, none⟩) 10 k.c3) := hs2.fix.tb.cellv 12 rfl
      have t3 := (HC.out ()).by_ _ _ hs2
      rw [(HIJ.out ()).1, (HIJ.out ()).2, HT.out ()] at t3
      refine hK _ _ ⟨t0, t1, t2, t3⟩ ?_
      obtain ⟨cs, hcl, hcB⟩ := (HC.out ()).bl _ _ hs2
      have HBB := hu hcB
      have HTH := hu (blk_there (o := z * 64) (n := 64) hcB (by omega))
      have HZL := hu hzl
      have HS3 := hu hs2
      have HNX := hu hnext
      clear hK K hcd hin hnext hle hk hs1 hbl hbB hkp hktb hkdb hmd hma ht01 hzl hbl2 hB2 hsrc2 hf2 hs2 t0 t1 t2 t3 hcl hcB s0 s1 s2 s3
      refine wpAnyH_done (by kernel_rfl) ?_ 0
      simp only [Tail, List.drop_succ_cons, List.drop_zero]
      unfold blkS
      go_wp2_with (refine wpList_store_mid rfl 77 (.tmp 282) (.tmp 281) rfl Bi (z * 64) (zs.map I64).toArray rfl rfl (by simpa [HZL.out ()] using HTH.out ()) (size77 zs (HZL.out ())) (one77 zs) ?_)
      exact p_more hq (by have h1 := (HC.out ()).h1; have h2 := HM.out (); rcases h1 with rfl | rfl <;> omega) ((HS3.out ()).put (HC.out ()).ok Bi (z * 64) _ (HC.out ()).b3) (HNX.out ())
    · have d1 : decide ((q : Int) < (m : Int)) = false := by simp; omega
      obtain rfl : q = m := by omega
      have HS2 := hu hs
      have HC2 := hu hc
      clear hs hc
      go_wp2
      first | exact ex_frame ⟨a2, HS2.out (), HC2.out ()⟩ rfl | exact ⟨rfl, ex_frame ⟨a2, HS2.out (), HC2.out ()⟩ rfl⟩
end Go.Proofs.YtpophkigihfjoaaDoor
