/- The walks of three loops of Read. -/
import Derived.Test.YtpophkigihfjoaaDoorTwoI
import Derived.Deep.CutBlock
/- The walk of Read's loop over the components in one unit. -/
namespace Go.Proofs.YtpophkigihfjoaaDoor
open Go.RowKit
set_option maxRecDepth 100000

noncomputable def rd6 : Code := blkOf 6 Tryd.f8.body

/-- The tables are the encoder's own. -/
structure ParT (p : Par) : Prop where
  l0 : p.l0 = lutL0
  l1 : p.l1 = lutL1
  l2 : p.l2 = lutL2
  l3 : p.l3 = lutL3

def hI (i : Nat) : Nat := if i = 0 then 2 else 1
def tI (i : Nat) : Nat := if i = 0 then 0 else 1
def BI (k : Ctx) (i : Nat) : Nat := if i = 0 then k.B0 else if i = 1 then k.B1 else k.B2
def nI (k : Ctx) (i : Nat) : Nat := if i = 0 then k.n0 else k.n1
def mdI (k : Ctx) (i : Nat) : Nat := if i = 0 then k.M0 else k.M2
def maI (k : Ctx) (i : Nat) : Nat := if i = 0 then k.M1 else k.M3
noncomputable def ldI (i : Nat) : List Nat := if i = 0 then lutL0 else lutL2
noncomputable def laI (i : Nat) : List Nat := if i = 0 then lutL1 else lutL3
def edI (i : Nat) : List (Nat × Nat × Nat) := if i = 0 then es0 else es2
def eaI (i : Nat) : List (Nat × Nat × Nat) := if i = 0 then es1 else es3
/-- The number of a unit's block with which the component i begins. -/
def stI (i : Nat) : Nat := if i = 0 then 0 else 3 + i

theorem compF (k : Ctx) (D : List Nat) (w0 : World) (ok : k.Ok) (i : Nat) (hi : i < 3) : CompF k D w0 i (hI i) (tI i) (BI k i) (nI k i) (mdI k i) (maI k i) (ldI i) (laI i) (edI i) (eaI i) := by
  obtain rfl | rfl | rfl : i = 0 ∨ i = 1 ∨ i = 2 := by omega
  · exact ⟨ok, by omega, .inr rfl, by decide, rfl, fun w a h => h.fix.cb.cellv 4 rfl, fun w a h => h.fix.tab0, tab0, fun w a h => h.fix.sb.cell 2 (by decide), fun w a h => h.b0, .inl rfl, ok.m0, ok.m1⟩
  · exact ⟨ok, by omega, .inl rfl, by decide, (Nat.one_mul _).symm, fun w a h => h.fix.cb.cellv 9 rfl, fun w a h => h.fix.tab1, tab1, fun w a h => h.fix.sb.cell 4 (by decide), fun w a h => h.b1, .inr (.inl rfl), ok.m2, ok.m3⟩
  · exact ⟨ok, by omega, .inl rfl, by decide, (Nat.one_mul _).symm, fun w a h => h.fix.cb.cellv 14 rfl, fun w a h => h.fix.tab1, tab1, fun w a h => h.fix.sb.cell 6 (by decide), fun w a h => h.b2, .inr (.inr rfl), ok.m2, ok.m3⟩

theorem ld_at {p : Par} (hp : ParT p) (kk i q : Nat) (hi : i < 3) (hq : q < hI i * hI i) : ldAt p (6 * kk + stI i + q) = ldI i ∧ laAt p (6 * kk + stI i + q) = laI i := by
  unfold ldAt laAt
  obtain rfl | rfl | rfl : i = 0 ∨ i = 1 ∨ i = 2 := by omega
  · have h : (6 * kk + stI 0 + q) % 6 < 4 := by unfold stI; have : hI 0 * hI 0 = 4 := rfl; rw [if_pos rfl]; omega
    rw [if_pos h, if_pos h]; exact ⟨hp.l0, hp.l1⟩
  · have h : ¬ (6 * kk + stI 1 + q) % 6 < 4 := by unfold stI; have : hI 1 * hI 1 = 1 := rfl; rw [if_neg (by omega)]; omega
    rw [if_neg h, if_neg h]; exact ⟨hp.l2, hp.l3⟩
  · have h : ¬ (6 * kk + stI 2 + q) % 6 < 4 := by unfold stI; have : hI 2 * hI 2 = 1 := rfl; rw [if_neg (by omega)]; omega
    rw [if_neg h, if_neg h]; exact ⟨hp.l2, hp.l3⟩

theorem st_next {i : Nat} (hi : i < 3) : stI i + hI i * hI i ≤ 6 ∧ stI (i + 1) = stI i + hI i * hI i := by
  obtain rfl | rfl | rfl : i = 0 ∨ i = 1 ∨ i = 2 := by omega
  all_goals decide

/-- The cells of a component. -/
def compV (k : Ctx) (i : Nat) : List Value := [.int .i64 ((i + 1 : Nat) : Int), .int .i64 (hI i : Int), .int .i64 (hI i : Int), .int .i64 (tI i : Int), blkS (BI k i) (nI k i)]

theorem comp_range {k : Ctx} {w : World} (h : FixW k k.cbl w) {i : Nat} (hi : i < 3) : w.rangeAt k.CB (i * 5) (compV k i) := by
  intro j v hv
  have hj : j < 5 := (List.getElem?_eq_some_iff.1 hv).1
  rw [h.cb.cell, ← hv]
  obtain rfl | rfl | rfl : i = 0 ∨ i = 1 ∨ i = 2 := by omega
  all_goals (obtain rfl | rfl | rfl | rfl | rfl : j = 0 ∨ j = 1 ∨ j = 2 ∨ j = 3 ∨ j = 4 := by omega) <;> rfl

theorem size_rd {k : Ctx} {w : World} (ok : k.Ok) (h : FixW k k.cbl w) {i : Nat} (hi : i < 3) :
    Calls Tryd.prog 16 #[.pointer (some ⟨k.TB, 0, none⟩), .int .i64 (i : Int)] w fun e w' => e = .returned (.tuple #[.int .i64 ((k.X * hI i : Nat) : Int), .int .i64 ((k.Y * hI i : Nat) : Int)]) ∧ Fr (fun _ => False) w w' := by
  have s3 : Sl3 (blkS k.B0 k.n0) (blkS k.B1 k.n1) (blkS k.B2 k.n1) := ⟨⟨_, _, _, rfl⟩, ⟨_, _, _, rfl⟩, ⟨_, _, _, rfl⟩⟩
  have hf := h.frm
  obtain rfl | rfl | rfl : i = 0 ∨ i = 1 ∨ i = 2 := by omega
  · exact size_rd0 hf s3 ok.w2 ok.h2
  · have := size_rd1 hf s3 ok.w2 ok.h2
    rw [show k.X * hI 1 = (k.W + 15) / 16 from Nat.mul_one _, show k.Y * hI 1 = (k.H + 15) / 16 from Nat.mul_one _]
    exact this
  · have := size_rd2 hf s3 ok.w2 ok.h2
    rw [show k.X * hI 2 = (k.W + 15) / 16 from Nat.mul_one _, show k.Y * hI 2 = (k.H + 15) / 16 from Nat.mul_one _]
    exact this

theorem und38 : ∃ fs, Tryd.prog.underlying 38 = some (.struct fs) := by
  refine ⟨(match Tryd.prog.underlying 38 with | some (.struct fs) => fs | _ => #[]), ?_⟩
  kernel_rfl
theorem size38 : (Tryd.prog.info? 38).map (·.size) = some 5 := by kernel_rfl

def CRel (k : Ctx) (p : Par) (D : List Nat) (w0 : World) (kk N : Nat) (rest : List Bool) (x : Value) (wr : World) : Prop :=
  ∃ i a2 : Nat, x = .int .i64 (i : Int) ∧ i ≤ 3 ∧ ScW k D w0 wr a2 ∧ CodedN p (6 * kk + stI i) (N - stI i) ((bitsOf D).drop a2) rest

theorem c_more {k : Ctx} {p : Par} {D : List Nat} {w0 wr : World} {kk N i a3 : Nat} {rest : List Bool} (hi : i < 3) (hs : ScW k D w0 wr a3) (hc : CodedN p (6 * kk + stI (i + 1)) (N - stI (i + 1)) ((bitsOf D).drop a3) rest) :
    CRel k p D w0 kk N rest (Value.int IntKind.i64 ((i : Int) + 1)) wr ∧ 4 - (intOf (Value.int IntKind.i64 ((i : Int) + 1))).toNat < 4 - (intOf (Value.int IntKind.i64 (i : Int))).toNat := by
  rw [show ((i : Int) + 1) = ((i + 1 : Nat) : Int) by push_cast; rfl]
  refine ⟨⟨i + 1, a3, rfl, hi, hs, hc⟩, ?_⟩
  show _ - ((i + 1 : Nat) : Int).toNat < _ - (i : Int).toNat
  rw [Int.toNat_natCast, Int.toNat_natCast]
  omega

set_option maxHeartbeats 2000000 in
theorem c_loop {k : Ctx} {p : Par} {D : List Nat} {w0 w : World} {kk a N X Y : Nat} {rest : List Bool} {dl : List Deferred}
    {v0 v1 v2 v3 v4 v5 v6 v8 v9 v16 v17 v18 v19 v21 v22 v23 v24 v25 v26 v27 v28 v29 v30 v31 v32 v33 v34 v35 v36 v37 v38 v39 v40 v41 v42 v43 v44 v45 v46 v47 v48 v49 v50 v51 v52 v53 v54 v55 v56 v57 v58 v59 v60 v61 v62 v63 v64 v65 v66 v67 v68 v69 v70 v71 v72 v73 v74 v75 v76 v77 v78 v79 v80 v81 v82 v83 v84 v85 v86 v87 v88 v89 v90 v91 v92 v93 v94 v95 v96 v97 v98 v99 v100 v101 v102 v103 v104 v105 v106 v107 v108 v109 v110 v111 v112 v113 v114 v115 v116 v117 v118 v119 v120 v121 v122 v123 v124 v125 v126 v127 v128 v129 v130 v131 v132 v133 v134 v135 v136 v137 v138 v139 v140 v141 v142 v143 v144 v145 v146 v147 v148 v149 v150 v151 v152 v153 v154 v155 v156 v157 v158 v159 v160 v161 v162 v163 v164 v165 v166 v167 v168 v169 v170 v171 v172 v173 v174 v175 v176 v177 v178 v179 v180 v181 v182 v183 v184 v185 v186 v187 v188 v189 v190 v191 v192 v193 v194 v195 v196 v197 v198 v202 v203 v204 v205 v206 v207 v208 v209 v210 v211 v212 v213 v214 v215 v216 v217 v218 v219 v220 v221 v222 v223 v224 v225 v226 v227 v228 v229 v230 v231 v232 v233 v234 v235 v236 v237 v238 v239 v240 v241 v242 v243 v244 v245 v246 v247 v248 v249 v250 v251 v252 v253 v254 v255 v256 v257 v258 v259 v260 v261 v262 v263 v264 v265 v266 v267 v268 v269 v270 v271 v272 v273 v274 v275 v276 v277 v278 v279 v280 v281 v282 v283 v284 v285 v286 v287 v288 v289 v290 v291 v292 v293 v294 v295 v296 v297 v298 v299 v300 v301 v302 v303 v304 v305 v306 v307 v308 v309 v310 v311 v312 v313 v314 v315 v316 v317 : Value}
    (ok : k.Ok) (hp : ParT p) (eX : k.X = X) (eY : k.Y = Y) (hkk : kk < X * Y) (hs : ScW k D w0 w a) (hc : CodedN p (6 * kk) N ((bitsOf D).drop a) rest) (hN : 6 ≤ N) :
    Code.wp Tryd.prog rd6 (fun e a' w' => e = .normal ∧ FrX (fun f => #[v0, v1, v2, v3, v4, v5, v6, .pointer (some ⟨k.TB, 0, none⟩), v8, v9, .pointer (some ⟨k.TB, 0, none⟩), .int .i64 3, .pointer (some ⟨k.RB, 0, none⟩), .slice (some ⟨k.PB, 0, none⟩) 3 3, .int .i64 (X : Int), .int .i64 (Y : Int), v16, v17, v18, v19, .int .i64 (kk : Int), f 21, f 22, f 23, f 24, f 25, f 26, f 27, f 28, v29, v30, v31, v32, v33, v34, v35, v36, v37, v38, v39, v40, v41, v42, v43, v44, v45, v46, v47, v48, v49, v50, v51, v52, v53, v54, v55, v56, v57, v58, v59, v60, v61, v62, v63, v64, v65, v66, v67, v68, v69, v70, v71, v72, v73, v74, v75, v76, v77, v78, v79, v80, v81, v82, v83, v84, v85, v86, v87, v88, v89, v90, v91, v92, v93, v94, v95, v96, v97, v98, v99, v100, v101, v102, v103, v104, v105, v106, v107, v108, v109, v110, v111, v112, v113, v114, v115, v116, v117, v118, v119, v120, v121, v122, v123, v124, v125, v126, v127, v128, v129, v130, v131, v132, v133, v134, v135, v136, v137, v138, v139, v140, v141, v142, v143, v144, v145, v146, v147, v148, v149, v150, v151, v152, v153, v154, v155, v156, v157, v158, v159, v160, v161, v162, v163, v164, v165, v166, v167, v168, v169, v170, v171, v172, v173, v174, v175, v176, v177, v178, v179, v180, v181, v182, v183, v184, v185, v186, v187, v188, v189, v190, v191, v192, v193, v194, v195, v196, v197, v198, .slice (some ⟨k.CB, 0, none⟩) 3 k.cap, .int .i64 3, f 201, f 202, f 203, f 204, f 205, f 206, f 207, f 208, f 209, f 210, f 211, f 212, f 213, f 214, f 215, f 216, f 217, f 218, f 219, f 220, f 221, f 222, f 223, f 224, f 225, f 226, f 227, f 228, f 229, f 230, f 231, f 232, f 233, f 234, f 235, f 236, f 237, f 238, f 239, f 240, f 241, f 242, f 243, f 244, f 245, f 246, f 247, f 248, f 249, f 250, f 251, f 252, f 253, f 254, f 255, f 256, f 257, f 258, f 259, f 260, f 261, f 262, f 263, f 264, f 265, f 266, f 267, f 268, f 269, f 270, f 271, f 272, f 273, f 274, f 275, f 276, f 277, f 278, f 279, f 280, f 281, f 282, f 283, f 284, v285, v286, v287, v288, v289, v290, v291, v292, v293, v294, v295, v296, v297, v298, v299, v300, v301, v302, v303, v304, v305, v306, v307, v308, v309, v310, v311, v312, v313, v314, v315, v316, v317]) dl (fun w' => ∃ a2, ScW k D w0 w' a2 ∧ CodedN p (6 * kk + 6) (N - 6) ((bitsOf D).drop a2) rest) a' w')
      ⟨#[v0, v1, v2, v3, v4, v5, v6, .pointer (some ⟨k.TB, 0, none⟩), v8, v9, .pointer (some ⟨k.TB, 0, none⟩), .int .i64 3, .pointer (some ⟨k.RB, 0, none⟩), .slice (some ⟨k.PB, 0, none⟩) 3 3, .int .i64 (X : Int), .int .i64 (Y : Int), v16, v17, v18, v19, .int .i64 (kk : Int), v21, v22, v23, v24, v25, v26, v27, v28, v29, v30, v31, v32, v33, v34, v35, v36, v37, v38, v39, v40, v41, v42, v43, v44, v45, v46, v47, v48, v49, v50, v51, v52, v53, v54, v55, v56, v57, v58, v59, v60, v61, v62, v63, v64, v65, v66, v67, v68, v69, v70, v71, v72, v73, v74, v75, v76, v77, v78, v79, v80, v81, v82, v83, v84, v85, v86, v87, v88, v89, v90, v91, v92, v93, v94, v95, v96, v97, v98, v99, v100, v101, v102, v103, v104, v105, v106, v107, v108, v109, v110, v111, v112, v113, v114, v115, v116, v117, v118, v119, v120, v121, v122, v123, v124, v125, v126, v127, v128, v129, v130, v131, v132, v133, v134, v135, v136, v137, v138, v139, v140, v141, v142, v143, v144, v145, v146, v147, v148, v149, v150, v151, v152, v153, v154, v155, v156, v157, v158, v159, v160, v161, v162, v163, v164, v165, v166, v167, v168, v169, v170, v171, v172, v173, v174, v175, v176, v177, v178, v179, v180, v181, v182, v183, v184, v185, v186, v187, v188, v189, v190, v191, v192, v193, v194, v195, v196, v197, v198, .slice (some ⟨k.CB, 0, none⟩) 3 k.cap, .int .i64 3, .int .i64 0, v202, v203, v204, v205, v206, v207, v208, v209, v210, v211, v212, v213, v214, v215, v216, v217, v218, v219, v220, v221, v222, v223, v224, v225, v226, v227, v228, v229, v230, v231, v232, v233, v234, v235, v236, v237, v238, v239, v240, v241, v242, v243, v244, v245, v246, v247, v248, v249, v250, v251, v252, v253, v254, v255, v256, v257, v258, v259, v260, v261, v262, v263, v264, v265, v266, v267, v268, v269, v270, v271, v272, v273, v274, v275, v276, v277, v278, v279, v280, v281, v282, v283, v284, v285, v286, v287, v288, v289, v290, v291, v292, v293, v294, v295, v296, v297, v298, v299, v300, v301, v302, v303, v304, v305, v306, v307, v308, v309, v310, v311, v312, v313, v314, v315, v316, v317], dl⟩ w := by
  dsimp only [rd6, blkOf, got, blkAt, Tryd.f8, Nat.reduceBEq, cond_true, cond_false]
  have OK := hu ok
  have HP := hu hp
  have HS := hu hs
  have HCD := hu hc
  have HK := hu hkk
  have HX := hu eX
  have HY := hu eY
  have HN := hu hN
  clear ok hp hs hc hkk eX eY hN
  go_wp2_with (fail)
  go_loopw [201] (CRel k p D w0 kk N rest) (fun x _ => 4 - (intOf x).toNat)
  case atStart => exact ⟨0, a, rfl, by omega, HS.out (), HCD.out ()⟩
  case round =>
    obtain ⟨i, a2, rfl, hi3, hs, hc⟩ := hrel
    by_cases hi : i < 3
    · have d1 : decide ((i : Int) < 3) = true := by simp; omega
      have j3 : (i : Int) < 3 := by omega
      have j4 : (0 : Int) ≤ (i : Int) := by omega
      have HS2 := hu hs
      have HC2 := hu hc
      clear hs hc
      have hr := comp_range (HS2.out ()).fix hi
      unfold compV blkS at hr
      obtain ⟨C1, hC1⟩ : ∃ C1, i + 1 = C1 := ⟨_, rfl⟩
      obtain ⟨h, hH⟩ : ∃ h, hI i = h := ⟨_, rfl⟩
      obtain ⟨t, hT⟩ : ∃ t, tI i = t := ⟨_, rfl⟩
      obtain ⟨B, hB⟩ : ∃ B, BI k i = B := ⟨_, rfl⟩
      obtain ⟨n, hn⟩ : ∃ n, nI k i = n := ⟨_, rfl⟩
      rw [hC1, hH, hT, hB, hn] at hr
      have HR := hu hr
      have HH := hu (And.intro hH (And.intro hT (And.intro hB hn)))
      clear hr hC1 hH hT hB hn
      obtain ⟨fs, hfs⟩ := und38
      have HU := hu hfs
      clear hfs
      go_upto_region 34 with (refine wpList_load_mid rfl 38 (.tmp 204) rfl k.CB (i * 5) rfl [.int .i64 (C1 : Int), .int .i64 (h : Int), .int .i64 (h : Int), .int .i64 (t : Int), .slice (some ⟨B, 0, none⟩) n n] _ (HR.out ()) (HU.out ()) rfl size38 ?_)
      have hwb := Blk.new wr [.int .i64 (C1 : Int), .int .i64 (h : Int), .int .i64 (h : Int), .int .i64 (t : Int), .slice (some ⟨B, 0, none⟩) n n] 38
      have hsa := (HS2.out ()).still (OK.out ()) ((Fr.refl (fun _ => False) wr).alloc (.cells (List.toArray [.int .i64 (C1 : Int), .int .i64 (h : Int), .int .i64 (h : Int), .int .i64 (t : Int), .slice (some ⟨B, 0, none⟩) n n]) 38))
      obtain ⟨CC, hCC⟩ : ∃ z, wr.heap.size = z := ⟨_, rfl⟩
      simp only [hCC] at hwb ⊢
      clear hCC
      obtain ⟨wa, hwa⟩ : ∃ z, wr.alloc (.cells #[.int .i64 (C1 : Int), .int .i64 (h : Int), .int .i64 (h : Int), .int .i64 (t : Int), .slice (some ⟨B, 0, none⟩) n n] 38) = z := ⟨_, rfl⟩
      simp only [hwa] at hwb hsa ⊢
      have HSA := hu hsa
      have HWB := hu hwb
      have hh : h = 1 ∨ h = 2 := by rw [← (HH.out ()).1]; unfold hI; split <;> omega
      have hX3 : X ≤ 3 := by have := (OK.out ()).w2; have h2 := HX.out (); unfold Ctx.X at h2; omega
      obtain ⟨m, hm⟩ : ∃ m, h * h = m := ⟨_, rfl⟩
      obtain ⟨A, hA⟩ : ∃ A, X * h = A := ⟨_, rfl⟩
      obtain ⟨A2, hA2⟩ : ∃ A2, Y * h = A2 := ⟨_, rfl⟩
      have hm4 : m ≤ 4 := by rcases hh with rfl | rfl <;> omega
      have ev : Value.int IntKind.i64 (wrap64 ((h : Int) * (h : Int))) = Value.int IntKind.i64 (m : Int) := by
        rw [show (h : Int) * (h : Int) = ((m : Nat) : Int) by rw [← hm]; push_cast; rfl, w64 (by omega) (by omega)]
      have HMA := hu (And.intro hm (And.intro hA hA2))
      have H12 := hu hh
      clear hwa hwb hsa HR HU HS2 hm hA hA2 hm4 hX3 hh fs
      go_upto_region 35 with (go_at_call 16; refine (size_rd (OK.out ()) (HSA.out ()).fix hi).mono ?_; rintro e w1 ⟨rfl, hf1⟩; rw [(HH.out ()).1, HX.out (), HY.out (), (HMA.out ()).2.1, (HMA.out ()).2.2]; have HF1 := hu hf1; clear hf1)
      have e1 : w1.cell? ⟨CC, 1, none⟩ = some (.int .i64 (h : Int)) := ((HF1.out ()).blk (HWB.out ()) (fun e => e)).cellv 1 rfl
      have e2 : w1.cell? ⟨CC, 2, none⟩ = some (.int .i64 (h : Int)) := ((HF1.out ()).blk (HWB.out ()) (fun e => e)).cellv 2 rfl
      go_upto_block 8 with (go_quiet (fail))
      rw [ev]
      have hsw := ((HSA.out ()).still (OK.out ()) (HF1.out ())).still (OK.out ()) ((Fr.refl (fun _ => False) w1).drewN nq)
      obtain ⟨wn, hwn⟩ : ∃ z, w1.drewN nq = z := ⟨_, rfl⟩
      rw [hwn] at hsw ⊢
      have hcf := compF k D w0 (OK.out ()) i hi
      rw [(HH.out ()).1, (HH.out ()).2.1, (HH.out ()).2.2.1, (HH.out ()).2.2.2] at hcf
      have hlds : ∀ q, q < m → ldAt p (6 * kk + stI i + q) = ldI i ∧ laAt p (6 * kk + stI i + q) = laI i := fun q hq => ld_at (HP.out ()) kk i q hi (by rw [(HH.out ()).1, (HMA.out ()).1]; exact hq)
      have hstn := st_next hi
      rw [(HH.out ()).1, (HMA.out ()).1] at hstn
      have hst := hstn.1
      have hst2 := hstn.2
      have HST := hu (And.intro hst hst2)
      refine wp_mono (c := rd8) (p_loop hcf (HX.out ()) (HY.out ()) (HMA.out ()).1 (HMA.out ()).2.1 (HK.out ()) hsw (HC2.out ()) (by have := HN.out (); omega) hlds) ?_
      clear hsw hwn hcf hlds hstn hst hst2 e1 e2 ev HC2 HSA HWB HF1 HMA HH H12
      rintro e a' w' ⟨rfl, f, rfl, a3, hs3, hc3⟩
      have HS3 := hu hs3
      have HC3 := hu hc3
      clear hs3 hc3
      go_wp2
      exact c_more hi (HS3.out ()) (by rw [(HST.out ()).2, ← Nat.add_assoc, ← Nat.sub_sub]; exact HC3.out ())
    · have d1 : decide ((i : Int) < 3) = false := by simp; omega
      obtain rfl : i = 3 := by omega
      have HS2 := hu hs
      have HC2 := hu hc
      clear hs hc
      go_wp2
      first | exact ex_frame ⟨a2, HS2.out (), HC2.out ()⟩ rfl | exact ⟨rfl, ex_frame ⟨a2, HS2.out (), HC2.out ()⟩ rfl⟩
end Go.Proofs.YtpophkigihfjoaaDoor

/- The walk of Read's loop over the units. -/
namespace Go.Proofs.YtpophkigihfjoaaDoor
open Go.RowKit
set_option maxRecDepth 100000

noncomputable def rd4 : Code := blkOf 4 Tryd.f8.body

def URel (k : Ctx) (p : Par) (D : List Nat) (w0 : World) (P : Nat) (rest : List Bool) (x : Value) (wr : World) : Prop :=
  ∃ q a2 : Nat, x = .int .i64 (q : Int) ∧ q ≤ P ∧ ScW k D w0 wr a2 ∧ CodedN p (6 * q) (6 * P - 6 * q) ((bitsOf D).drop a2) rest

theorem u_more {k : Ctx} {p : Par} {D : List Nat} {w0 wr : World} {P q a3 : Nat} {rest : List Bool} (hP : P ≤ 9) (hq : q < P) (hs : ScW k D w0 wr a3) (hc : CodedN p (6 * q + 6) (6 * P - 6 * q - 6) ((bitsOf D).drop a3) rest) :
    URel k p D w0 P rest (Value.int IntKind.i64 (wrap64 ((q : Int) + 1))) wr ∧ P + 1 - (intOf (Value.int IntKind.i64 (wrap64 ((q : Int) + 1)))).toNat < P + 1 - (intOf (Value.int IntKind.i64 (q : Int))).toNat := by
  have e : wrap64 ((q : Int) + 1) = ((q + 1 : Nat) : Int) := by rw [w64 (by omega) (by omega)]; push_cast; rfl
  rw [e]
  refine ⟨⟨q + 1, a3, rfl, hq, hs, by rw [show 6 * (q + 1) = 6 * q + 6 by omega, ← Nat.sub_sub]; exact hc⟩, ?_⟩
  show _ - ((q + 1 : Nat) : Int).toNat < _ - (q : Int).toNat
  rw [Int.toNat_natCast, Int.toNat_natCast]
  omega

set_option maxHeartbeats 2000000 in
theorem u_loop {k : Ctx} {p : Par} {D : List Nat} {w0 w : World} {a P X Y : Nat} {rest : List Bool} {dl : List Deferred}
    {v0 v1 v2 v3 v4 v5 v6 v8 v9 v16 v17 v18 v19 v20 v21 v22 v23 v24 v25 v26 v27 v28 v29 v30 v31 v32 v33 v34 v35 v36 v37 v38 v39 v40 v41 v42 v43 v44 v45 v46 v47 v48 v49 v50 v51 v52 v53 v54 v55 v56 v57 v58 v59 v60 v61 v62 v63 v64 v65 v66 v67 v68 v69 v70 v71 v72 v73 v74 v75 v76 v77 v78 v79 v80 v81 v82 v83 v84 v85 v86 v87 v88 v89 v90 v91 v92 v93 v94 v95 v96 v97 v98 v99 v100 v101 v102 v103 v104 v105 v106 v107 v108 v109 v110 v111 v112 v113 v114 v115 v116 v117 v118 v119 v120 v121 v122 v123 v124 v125 v126 v127 v128 v129 v130 v131 v132 v133 v134 v135 v136 v137 v138 v139 v140 v141 v142 v143 v144 v145 v146 v147 v148 v149 v150 v151 v152 v153 v154 v155 v156 v157 v158 v159 v160 v161 v162 v163 v164 v165 v166 v167 v168 v169 v170 v171 v172 v173 v174 v175 v176 v177 v178 v179 v180 v181 v182 v183 v184 v185 v186 v187 v188 v189 v190 v191 v194 v195 v196 v197 v198 v199 v200 v201 v202 v203 v204 v205 v206 v207 v208 v209 v210 v211 v212 v213 v214 v215 v216 v217 v218 v219 v220 v221 v222 v223 v224 v225 v226 v227 v228 v229 v230 v231 v232 v233 v234 v235 v236 v237 v238 v239 v240 v241 v242 v243 v244 v245 v246 v247 v248 v249 v250 v251 v252 v253 v254 v255 v256 v257 v258 v259 v260 v261 v262 v263 v264 v265 v266 v267 v268 v269 v270 v271 v272 v273 v274 v275 v276 v277 v278 v279 v280 v281 v282 v283 v284 v285 v286 v287 v288 v289 v290 v291 v292 v293 v294 v295 v296 v297 v298 v299 v300 v301 v302 v303 v304 v305 v306 v307 v308 v309 v310 v311 v312 v313 v314 v315 v316 v317 : Value}
    (ok : k.Ok) (hp : ParT p) (eX : k.X = X) (eY : k.Y = Y) (eP : X * Y = P) (hs : ScW k D w0 w a) (hc : CodedN p 0 (6 * P) ((bitsOf D).drop a) rest) :
    Code.wp Tryd.prog rd4 (fun e a' w' => e = .normal ∧ FrX (fun f => #[v0, v1, v2, v3, v4, v5, v6, .pointer (some ⟨k.TB, 0, none⟩), v8, v9, .pointer (some ⟨k.TB, 0, none⟩), .int .i64 3, .pointer (some ⟨k.RB, 0, none⟩), .slice (some ⟨k.PB, 0, none⟩) 3 3, .int .i64 (X : Int), .int .i64 (Y : Int), v16, v17, v18, v19, f 20, f 21, f 22, f 23, f 24, f 25, f 26, f 27, f 28, v29, v30, v31, v32, v33, v34, v35, v36, v37, v38, v39, v40, v41, v42, v43, v44, v45, v46, v47, v48, v49, v50, v51, v52, v53, v54, v55, v56, v57, v58, v59, v60, v61, v62, v63, v64, v65, v66, v67, v68, v69, v70, v71, v72, v73, v74, v75, v76, v77, v78, v79, v80, v81, v82, v83, v84, v85, v86, v87, v88, v89, v90, v91, v92, v93, v94, v95, v96, v97, v98, v99, v100, v101, v102, v103, v104, v105, v106, v107, v108, v109, v110, v111, v112, v113, v114, v115, v116, v117, v118, v119, v120, v121, v122, v123, v124, v125, v126, v127, v128, v129, v130, v131, v132, v133, v134, v135, v136, v137, v138, v139, v140, v141, v142, v143, v144, v145, v146, v147, v148, v149, v150, v151, v152, v153, v154, v155, v156, v157, v158, v159, v160, v161, v162, v163, v164, v165, v166, v167, v168, v169, v170, v171, v172, v173, v174, v175, v176, v177, v178, v179, v180, v181, v182, v183, v184, v185, v186, v187, v188, v189, v190, v191, .int .i64 (P : Int), f 193, f 194, f 195, f 196, f 197, f 198, f 199, f 200, f 201, f 202, f 203, f 204, f 205, f 206, f 207, f 208, f 209, f 210, f 211, f 212, f 213, f 214, f 215, f 216, f 217, f 218, f 219, f 220, f 221, f 222, f 223, f 224, f 225, f 226, f 227, f 228, f 229, f 230, f 231, f 232, f 233, f 234, f 235, f 236, f 237, f 238, f 239, f 240, f 241, f 242, f 243, f 244, f 245, f 246, f 247, f 248, f 249, f 250, f 251, f 252, f 253, f 254, f 255, f 256, f 257, f 258, f 259, f 260, f 261, f 262, f 263, f 264, f 265, f 266, f 267, f 268, f 269, f 270, f 271, f 272, f 273, f 274, f 275, f 276, f 277, f 278, f 279, f 280, f 281, f 282, f 283, f 284, f 285, v286, v287, v288, v289, v290, v291, v292, v293, v294, v295, v296, v297, v298, v299, v300, v301, v302, v303, v304, v305, v306, v307, v308, v309, v310, v311, v312, v313, v314, v315, v316, v317]) dl (fun w' => ∃ a2, ScW k D w0 w' a2 ∧ (bitsOf D).drop a2 = rest) a' w')
      ⟨#[v0, v1, v2, v3, v4, v5, v6, .pointer (some ⟨k.TB, 0, none⟩), v8, v9, .pointer (some ⟨k.TB, 0, none⟩), .int .i64 3, .pointer (some ⟨k.RB, 0, none⟩), .slice (some ⟨k.PB, 0, none⟩) 3 3, .int .i64 (X : Int), .int .i64 (Y : Int), v16, v17, v18, v19, v20, v21, v22, v23, v24, v25, v26, v27, v28, v29, v30, v31, v32, v33, v34, v35, v36, v37, v38, v39, v40, v41, v42, v43, v44, v45, v46, v47, v48, v49, v50, v51, v52, v53, v54, v55, v56, v57, v58, v59, v60, v61, v62, v63, v64, v65, v66, v67, v68, v69, v70, v71, v72, v73, v74, v75, v76, v77, v78, v79, v80, v81, v82, v83, v84, v85, v86, v87, v88, v89, v90, v91, v92, v93, v94, v95, v96, v97, v98, v99, v100, v101, v102, v103, v104, v105, v106, v107, v108, v109, v110, v111, v112, v113, v114, v115, v116, v117, v118, v119, v120, v121, v122, v123, v124, v125, v126, v127, v128, v129, v130, v131, v132, v133, v134, v135, v136, v137, v138, v139, v140, v141, v142, v143, v144, v145, v146, v147, v148, v149, v150, v151, v152, v153, v154, v155, v156, v157, v158, v159, v160, v161, v162, v163, v164, v165, v166, v167, v168, v169, v170, v171, v172, v173, v174, v175, v176, v177, v178, v179, v180, v181, v182, v183, v184, v185, v186, v187, v188, v189, v190, v191, .int .i64 (P : Int), .int .i64 0, v194, v195, v196, v197, v198, v199, v200, v201, v202, v203, v204, v205, v206, v207, v208, v209, v210, v211, v212, v213, v214, v215, v216, v217, v218, v219, v220, v221, v222, v223, v224, v225, v226, v227, v228, v229, v230, v231, v232, v233, v234, v235, v236, v237, v238, v239, v240, v241, v242, v243, v244, v245, v246, v247, v248, v249, v250, v251, v252, v253, v254, v255, v256, v257, v258, v259, v260, v261, v262, v263, v264, v265, v266, v267, v268, v269, v270, v271, v272, v273, v274, v275, v276, v277, v278, v279, v280, v281, v282, v283, v284, v285, v286, v287, v288, v289, v290, v291, v292, v293, v294, v295, v296, v297, v298, v299, v300, v301, v302, v303, v304, v305, v306, v307, v308, v309, v310, v311, v312, v313, v314, v315, v316, v317], dl⟩ w := by
  dsimp only [rd4, blkOf, got, blkAt, Tryd.f8, Nat.reduceBEq, cond_true, cond_false]
  have hX3 : X ≤ 3 := by have := ok.w2; have h2 := eX; unfold Ctx.X at h2; omega
  have hY3 : Y ≤ 3 := by have := ok.h2; have h2 := eY; unfold Ctx.Y at h2; omega
  have hP9 : P ≤ 9 := by rw [← eP]; exact Nat.mul_le_mul hX3 hY3
  have OK := hu ok
  have HP := hu hp
  have HS := hu hs
  have HCD := hu hc
  have HX := hu eX
  have HY := hu eY
  have HE := hu eP
  have H9 := hu hP9
  clear ok hp hs hc eX eY eP hX3 hY3 hP9
  go_wp2_with (fail)
  go_loopw [193] (URel k p D w0 P rest) (fun x _ => P + 1 - (intOf x).toNat)
  case atStart => exact ⟨0, a, rfl, by omega, HS.out (), HCD.out ()⟩
  case round =>
    obtain ⟨q, a2, rfl, hqP, hs, hc⟩ := hrel
    by_cases hq : q < P
    · have d1 : decide ((q : Int) < (P : Int)) = true := by simp; omega
      have s0 : wr.cell? ⟨k.TB, 2, none⟩ = some (.slice (some ⟨k.CB, 0, none⟩) 3 k.cap) := hs.fix.tb.cellv 2 rfl
      have HS2 := hu hs
      have HC2 := hu hc
      clear hs hc
      go_upto_block 6 with (fail)
      refine wp_mono (c := rd6) (c_loop (OK.out ()) (HP.out ()) (HX.out ()) (HY.out ()) (by rw [HE.out ()]; exact hq) (HS2.out ()) (HC2.out ()) (by omega)) ?_
      clear s0 HC2 HS2
      rintro e a' w' ⟨rfl, f, rfl, a3, hs3, hc3⟩
      have HS3 := hu hs3
      have HC3 := hu hc3
      clear hs3 hc3
      go_wp2
      exact u_more (H9.out ()) hq (HS3.out ()) (HC3.out ())
    · have d1 : decide ((q : Int) < (P : Int)) = false := by simp; omega
      obtain rfl : q = P := by omega
      have HS2 := hu hs
      have HC2 := hu hc
      clear hs hc
      go_wp2
      have hz := HC2.out ()
      rw [Nat.sub_self] at hz
      first | exact ex_frame ⟨a2, HS2.out (), hz⟩ rfl | exact ⟨rfl, ex_frame ⟨a2, HS2.out (), hz⟩ rfl⟩
end Go.Proofs.YtpophkigihfjoaaDoor

/- The walk of Read's last loop: the bits behind the scan. -/
namespace Go.Proofs.YtpophkigihfjoaaDoor
open Go.RowKit
set_option maxRecDepth 100000

noncomputable def rd10 : Code := blkOf 10 Tryd.f8.body

def FRel (k : Ctx) (D : List Nat) (w0 : World) (g : Nat) (wr : World) : Prop :=
  ∃ a : Nat, a + g = 8 * D.length ∧ g ≤ 7 ∧ ScW k D w0 wr a ∧ ∀ b ∈ (bitsOf D).drop a, b = true

theorem f_more {k : Ctx} {D : List Nat} {w0 w w1 : World} {a g : Nat} (ok : k.Ok) (h : ScW k D w0 w a) (hg : a + (g + 1) = 8 * D.length) (hg7 : g + 1 ≤ 7) (ht : ∀ b ∈ (bitsOf D).drop a, b = true) (hs : SrcR w1 k.RB k.DB D (a + 1)) (hf : Fr (· = k.RB) w w1) : FRel k D w0 g w1 := by
  obtain ⟨bs, hl, hB⟩ := h.bef
  have hp := ok.p
  refine ⟨a + 1, by omega, by omega, h.go ok (hf.mono (fun _ _ e => .inl e)) hs ⟨bs, hl, hf.blk hB (by omega)⟩ (by omega), fun b hb => ht b ?_⟩
  rw [← List.drop_drop] at hb
  exact List.mem_of_mem_drop hb

theorem f_bit {D : List Nat} {a g : Nat} (hg : a + (g + 1) = 8 * D.length) (ht : ∀ b ∈ (bitsOf D).drop a, b = true) : (bitsOf D)[a]? = some true := by
  have hlt : a < (bitsOf D).length := by rw [bitsOf_length]; omega
  rw [List.getElem?_eq_getElem hlt]
  congr 1
  exact ht _ (by rw [List.drop_eq_getElem_cons hlt]; exact List.mem_cons_self)

set_option maxHeartbeats 2000000 in
theorem f_loop {k : Ctx} {D : List Nat} {w0 w : World} {a : Nat} {rest : List Bool} {dl : List Deferred}
    {v0 v1 v2 v3 v4 v5 v6 v7 v8 v9 v10 v11 v13 v14 v15 v16 v17 v18 v19 v20 v21 v22 v23 v24 v25 v26 v27 v28 v29 v30 v31 v32 v33 v34 v35 v36 v37 v38 v39 v40 v41 v42 v43 v44 v45 v46 v47 v48 v49 v50 v51 v52 v53 v54 v55 v56 v57 v58 v59 v60 v61 v62 v63 v64 v65 v66 v67 v68 v69 v70 v71 v72 v73 v74 v75 v76 v77 v78 v79 v80 v81 v82 v83 v84 v85 v86 v87 v88 v89 v90 v91 v92 v93 v94 v95 v96 v97 v98 v99 v100 v101 v102 v103 v104 v105 v106 v107 v108 v109 v110 v111 v112 v113 v114 v115 v116 v117 v118 v119 v120 v121 v122 v123 v124 v125 v126 v127 v128 v129 v130 v131 v132 v133 v134 v135 v136 v137 v138 v139 v140 v141 v142 v143 v144 v145 v146 v147 v148 v149 v150 v151 v152 v153 v154 v155 v156 v157 v158 v159 v160 v161 v162 v163 v164 v165 v166 v167 v168 v169 v170 v171 v172 v173 v174 v175 v176 v177 v178 v179 v180 v181 v182 v183 v184 v185 v186 v187 v188 v189 v190 v191 v192 v193 v194 v195 v196 v197 v198 v199 v200 v201 v202 v203 v204 v205 v206 v207 v208 v209 v210 v211 v212 v213 v214 v215 v216 v217 v218 v219 v220 v221 v222 v223 v224 v225 v226 v227 v228 v229 v230 v231 v232 v233 v234 v235 v236 v237 v238 v239 v240 v241 v242 v243 v244 v245 v246 v247 v248 v249 v250 v251 v252 v253 v254 v255 v256 v257 v258 v259 v260 v261 v262 v263 v264 v265 v266 v267 v268 v269 v270 v271 v272 v273 v274 v275 v276 v277 v278 v279 v280 v281 v282 v283 v284 v285 v286 v287 v288 v289 v290 v291 v292 v293 v294 v295 v296 v297 v298 v299 v300 v301 v302 v303 v304 v305 v306 v307 v308 v309 v310 v311 v312 v313 v314 v315 v316 v317 : Value}
    (ok : k.Ok) (hs : ScW k D w0 w a) (hr : (bitsOf D).drop a = rest) (hl : rest.length ≤ 7) (ha : a ≤ 8 * D.length) (ht : ∀ b ∈ rest, b = true) :
    Code.wp Tryd.prog rd10 (fun e a' w' => e = .normal ∧ FrX (fun f => #[v0, v1, f 2, f 3, v4, v5, v6, v7, v8, v9, v10, v11, .pointer (some ⟨k.RB, 0, none⟩), v13, v14, v15, v16, v17, v18, v19, v20, v21, v22, v23, v24, v25, v26, v27, v28, v29, v30, v31, v32, v33, v34, v35, v36, v37, v38, v39, v40, v41, v42, v43, v44, v45, v46, v47, v48, v49, v50, v51, v52, v53, v54, v55, v56, v57, v58, v59, v60, v61, v62, v63, v64, v65, v66, v67, v68, v69, v70, v71, v72, v73, v74, v75, v76, v77, v78, v79, v80, v81, v82, v83, v84, v85, v86, v87, v88, v89, v90, v91, v92, v93, v94, v95, v96, v97, v98, v99, v100, v101, v102, v103, v104, v105, v106, v107, v108, v109, v110, v111, v112, v113, v114, v115, v116, v117, v118, v119, v120, v121, v122, v123, v124, v125, v126, v127, v128, v129, v130, v131, v132, v133, v134, v135, v136, v137, v138, v139, v140, v141, v142, v143, v144, v145, v146, v147, v148, v149, v150, v151, v152, v153, v154, v155, v156, v157, v158, v159, v160, v161, v162, v163, v164, v165, v166, v167, v168, v169, v170, v171, v172, v173, v174, v175, v176, v177, v178, v179, v180, v181, v182, v183, v184, v185, v186, v187, v188, v189, v190, v191, v192, v193, v194, v195, v196, v197, v198, v199, v200, v201, v202, v203, v204, v205, v206, v207, v208, v209, v210, v211, v212, v213, v214, v215, v216, v217, v218, v219, v220, v221, v222, v223, v224, v225, v226, v227, v228, v229, v230, v231, v232, v233, v234, v235, v236, v237, v238, v239, v240, v241, v242, v243, v244, v245, v246, v247, v248, v249, v250, v251, v252, v253, v254, v255, v256, v257, v258, v259, v260, v261, v262, v263, v264, v265, v266, v267, v268, v269, v270, v271, v272, v273, v274, v275, v276, v277, v278, v279, v280, v281, v282, v283, v284, v285, f 286, f 287, f 288, f 289, f 290, f 291, f 292, f 293, f 294, f 295, f 296, f 297, f 298, f 299, f 300, f 301, v302, v303, v304, v305, v306, v307, v308, v309, v310, v311, v312, v313, v314, v315, v316, v317]) dl (fun w' => ScW k D w0 w' (8 * D.length)) a' w')
      ⟨#[v0, v1, v2, v3, v4, v5, v6, v7, v8, v9, v10, v11, .pointer (some ⟨k.RB, 0, none⟩), v13, v14, v15, v16, v17, v18, v19, v20, v21, v22, v23, v24, v25, v26, v27, v28, v29, v30, v31, v32, v33, v34, v35, v36, v37, v38, v39, v40, v41, v42, v43, v44, v45, v46, v47, v48, v49, v50, v51, v52, v53, v54, v55, v56, v57, v58, v59, v60, v61, v62, v63, v64, v65, v66, v67, v68, v69, v70, v71, v72, v73, v74, v75, v76, v77, v78, v79, v80, v81, v82, v83, v84, v85, v86, v87, v88, v89, v90, v91, v92, v93, v94, v95, v96, v97, v98, v99, v100, v101, v102, v103, v104, v105, v106, v107, v108, v109, v110, v111, v112, v113, v114, v115, v116, v117, v118, v119, v120, v121, v122, v123, v124, v125, v126, v127, v128, v129, v130, v131, v132, v133, v134, v135, v136, v137, v138, v139, v140, v141, v142, v143, v144, v145, v146, v147, v148, v149, v150, v151, v152, v153, v154, v155, v156, v157, v158, v159, v160, v161, v162, v163, v164, v165, v166, v167, v168, v169, v170, v171, v172, v173, v174, v175, v176, v177, v178, v179, v180, v181, v182, v183, v184, v185, v186, v187, v188, v189, v190, v191, v192, v193, v194, v195, v196, v197, v198, v199, v200, v201, v202, v203, v204, v205, v206, v207, v208, v209, v210, v211, v212, v213, v214, v215, v216, v217, v218, v219, v220, v221, v222, v223, v224, v225, v226, v227, v228, v229, v230, v231, v232, v233, v234, v235, v236, v237, v238, v239, v240, v241, v242, v243, v244, v245, v246, v247, v248, v249, v250, v251, v252, v253, v254, v255, v256, v257, v258, v259, v260, v261, v262, v263, v264, v265, v266, v267, v268, v269, v270, v271, v272, v273, v274, v275, v276, v277, v278, v279, v280, v281, v282, v283, v284, v285, v286, v287, v288, v289, v290, v291, v292, v293, v294, v295, v296, v297, v298, v299, v300, v301, v302, v303, v304, v305, v306, v307, v308, v309, v310, v311, v312, v313, v314, v315, v316, v317], dl⟩ w := by
  dsimp only [rd10, blkOf, got, blkAt, Tryd.f8, Nat.reduceBEq, cond_true, cond_false]
  have hlen := congrArg List.length hr
  rw [List.length_drop, bitsOf_length] at hlen
  have HR : FRel k D w0 rest.length w := ⟨a, by omega, hl, hs, by rw [hr]; exact ht⟩
  have OK := hu ok
  clear ok hs hr hl ha ht hlen
  go_wp2_with (fail)
  go_loopg [] rest.length (FRel k D w0)
  case atStart => exact HR
  case round =>
    obtain ⟨a2, hag, hg7, hs, hb⟩ := hrel
    obtain ⟨cap, hh⟩ := hs.src.head
    have c1 := hh.cellv 1 rfl
    have c2 := hh.cellv 2 rfl
    have HS2 := hu hs
    have HB := hu hb
    clear hs hb hh
    by_cases hz : a2 % 8 = 0
    · have d1 : ((a2 : Int) % 8 == 0) = true := by simp; omega
      have d2 : ((a2 : Int) % 8 != 0) = false := by simp; omega
      obtain rfl : gk = 0 := by omega
      obtain rfl : a2 = 8 * D.length := by omega
      clear hz
      go_wp2
      first | exact ex_frame (HS2.out ()) rfl | exact ⟨rfl, ex_frame (HS2.out ()) rfl⟩
    · have d1 : ((a2 : Int) % 8 == 0) = false := by simp; omega
      have d2 : ((a2 : Int) % 8 != 0) = true := by simp; omega
      obtain ⟨g, rfl⟩ : ∃ g, gk = g + 1 := ⟨gk - 1, by omega⟩
      have HA := hu hag
      clear hag hz
      go_wp2_with (go_at_call 18; refine (bit_any (HS2.out ()).src (f_bit (HA.out ()) (HB.out ()))).mono ?_; rintro e w1 ⟨rfl, hs1, hf1⟩; have HN := hu (f_more (OK.out ()) (HS2.out ()) (HA.out ()) hg7 (HB.out ()) hs1 hf1); clear hs1 hf1)
      go_roundg g
      case measure => omega
      case rel => exact HN.out ()
end Go.Proofs.YtpophkigihfjoaaDoor
