/- The walk of Read, its loop that makes room. -/
import Derived.Test.YtpophkigihfjoaaDoorTwoJ
/- The walk of Read's loop that makes room for the blocks. -/
namespace Go.Proofs.YtpophkigihfjoaaDoor
open Go.RowKit
set_option maxRecDepth 100000

noncomputable def rd2 : Code := blkOf 2 Tryd.f8.body

def Ctx.wB (k : Ctx) (b0 b1 b2 : Nat) : Ctx := { k with B0 := b0, B1 := b1, B2 := b2 }

structure Ctx.Ok0 (k : Ctx) : Prop where
  w1 : 1 ≤ k.W
  w2 : k.W ≤ 40
  h1 : 1 ≤ k.H
  h2 : k.H ≤ 40
  tb : k.TB < k.RB
  cb : k.CB < k.RB
  g : k.G < k.RB
  db : k.DB < k.RB
  m0 : k.M0 < k.RB
  m1 : k.M1 < k.RB
  m2 : k.M2 < k.RB
  m3 : k.M3 < k.RB
  p : k.RB < k.PB

/-- The components' block is none of the others. -/
structure Ctx.Ap (k : Ctx) : Prop where
  tb : k.TB ≠ k.CB
  g : k.G ≠ k.CB
  db : k.DB ≠ k.CB
  m0 : k.M0 ≠ k.CB
  m1 : k.M1 ≠ k.CB
  m2 : k.M2 ≠ k.CB
  m3 : k.M3 ≠ k.CB

theorem Ctx.Ok0.ok {k : Ctx} (h : k.Ok0) {b0 b1 b2 : Nat} (h0 : k.PB < b0) (h1 : b0 < b1) (h2 : b1 < b2) : (k.wB b0 b1 b2).Ok :=
  ⟨h.w1, h.w2, h.h1, h.h2, h.tb, h.cb, h.g, h.db, h.m0, h.m1, h.m2, h.m3, h.p, h0, h1, h2⟩

def nilS : Value := .slice none 0 0

/-- The slice of component j when the first i have room. -/
def vI (i j b n : Nat) : Value := if j < i then blkS b n else nilS

def cblI (k : Ctx) (i b0 b1 b2 : Nat) : List Value := cblOf (vI i 0 b0 k.n0) (vI i 1 b1 k.n1) (vI i 2 b2 k.n1) k.more

/-- What there is ahead of the loop. -/
structure StW (k : Ctx) (D : List Nat) (w : World) : Prop where
  src : SrcR w k.RB k.DB D 0
  fix : FixW k (cblI k 0 0 0 0) w
  bef : ∃ bs : List Int, bs.length = 3 ∧ Blk w k.PB (bs.map I64) 3

/-- Room in block b. -/
def RoomW (w : World) (p b n : Nat) : Prop := p < b ∧ ∃ cs : List Value, cs.length = 64 * n ∧ Blk w b cs 77

structure MW (k : Ctx) (D : List Nat) (w wr : World) (i b0 b1 b2 : Nat) : Prop where
  src : SrcR wr k.RB k.DB D 0
  fix : FixW k (cblI k i b0 b1 b2) wr
  bef : ∃ bs : List Int, bs.length = 3 ∧ Blk wr k.PB (bs.map I64) 3
  r0 : 0 < i → RoomW wr k.PB b0 k.n0
  r1 : 1 < i → RoomW wr b0 b1 k.n1
  r2 : 2 < i → RoomW wr b1 b2 k.n1
  fr : Fr (· = k.CB) w wr

def MRel (k : Ctx) (D : List Nat) (w : World) (x : Value) (wr : World) : Prop := ∃ i b0 b1 b2 : Nat, x = .int .i64 (i : Int) ∧ i ≤ 3 ∧ MW k D w wr i b0 b1 b2

theorem RoomW.frame {w w' : World} {S : Nat → Prop} {p b n : Nat} (h : RoomW w p b n) (hf : Fr S w w') (hb : ¬ S b) : RoomW w' p b n := by
  obtain ⟨h1, cs, h2, h3⟩ := h
  exact ⟨h1, cs, h2, hf.blk h3 hb⟩

/-- The number of blocks of a component. -/
def nC (k : Ctx) (i : Nat) : Nat := if i = 0 then k.n0 else k.n1

theorem cblI_set (k : Ctx) {i b0 b1 b2 b : Nat} (hi : i < 3) : ∃ c0 c1 c2, (i = 0 → c0 = b) ∧ (i = 1 → c0 = b0 ∧ c1 = b) ∧ (i = 2 → c0 = b0 ∧ c1 = b1 ∧ c2 = b) ∧ (cblI k i b0 b1 b2).set (i * 5 + 4) (blkS b (nC k i)) = cblI k (i + 1) c0 c1 c2 := by
  obtain rfl | rfl | rfl : i = 0 ∨ i = 1 ∨ i = 2 := by omega
  · exact ⟨b, b1, b2, fun _ => rfl, (by intro h; omega), (by intro h; omega), rfl⟩
  · exact ⟨b0, b, b2, (by intro h; omega), fun _ => ⟨rfl, rfl⟩, (by intro h; omega), rfl⟩
  · exact ⟨b0, b1, b, (by intro h; omega), (by intro h; omega), fun _ => ⟨rfl, rfl, rfl⟩, rfl⟩

/-- One component more has room. -/
theorem MW.more {k : Ctx} {D : List Nat} {w wr w1 w2 : World} {i b0 b1 b2 b : Nat} {cs : List Value} (ok : k.Ok0) (ap : k.Ap) (h : MW k D w wr i b0 b1 b2) (hi : i < 3) (hf : Fr (fun _ => False) wr w1) (hcs : cs.length = 64 * nC k i) (hb : w1.heap.size = b)
    (h2 : Blk w2 b cs 77) (hf2 : Fr (fun _ => False) w1 w2) : ∃ c0 c1 c2, MW k D w (w2.setCell ⟨k.CB, i * 5 + 4, none⟩ (blkS b (nC k i))) (i + 1) c0 c1 c2 := by
  obtain ⟨c0, c1, c2, e0, e1, e2, hset⟩ := cblI_set k (b0 := b0) (b1 := b1) (b2 := b2) (b := b) hi
  have hfa : Fr (fun _ => False) wr w2 := hf.trans hf2 (fun _ _ e => e)
  have hF := h.fix
  have hcbl := hF.cb.lt
  have hsz := hf.size
  have hg : Fr (· = k.CB) w2 (w2.setCell ⟨k.CB, i * 5 + 4, none⟩ (blkS b (nC k i))) := (Fr.refl (· = k.CB) w2).setCell (a := ⟨k.CB, i * 5 + 4, none⟩) (fun _ => rfl) _
  have hcb2 : Blk w2 k.CB (cblI k i b0 b1 b2) 38 := hfa.blk hF.cb (fun e => e)
  have hsb : Blk (w2.setCell ⟨k.CB, i * 5 + 4, none⟩ (blkS b (nC k i))) k.CB (cblI k (i + 1) c0 c1 c2) 38 := by rw [← hset]; exact hcb2.set (i * 5 + 4) _
  have hbc : b ≠ k.CB := by omega
  have hall : Fr (· = k.CB) wr (w2.setCell ⟨k.CB, i * 5 + 4, none⟩ (blkS b (nC k i))) := (hfa.mono (fun _ _ e => e.elim)).trans hg (fun _ _ e => e)
  have hkcb := ok.cb
  have hkp := ok.p
  obtain ⟨bs, hl, hB⟩ := h.bef
  have hpl := hB.lt
  have hnew : ∀ p, p < w1.heap.size → RoomW (w2.setCell ⟨k.CB, i * 5 + 4, none⟩ (blkS b (nC k i))) p b (nC k i) := fun p hp => ⟨by omega, cs, hcs, hg.blk h2 hbc⟩
  have hB0 : 0 < i → b0 < wr.heap.size := fun hi => by obtain ⟨_, _, _, hx⟩ := h.r0 hi; exact hx.lt
  have hB1 : 1 < i → b1 < wr.heap.size := fun hi => by obtain ⟨_, _, _, hx⟩ := h.r1 hi; exact hx.lt
  have nb0 : 0 < i → b0 ≠ k.CB := fun hi => by have := (h.r0 hi).1; omega
  have nb1 : 1 < i → b1 ≠ k.CB := fun hi => by have := (h.r0 (by omega)).1; have := (h.r1 hi).1; omega
  refine ⟨c0, c1, c2, h.src.frame hall (by omega) ap.db, ⟨hall.blk hF.tb ap.tb, hsb, hF.m0.frame hall ap.m0, hF.m1.frame hall ap.m1, hF.m2.frame hall ap.m2, hF.m3.frame hall ap.m3, hF.sb.frame hall ap.g⟩, ⟨bs, hl, hall.blk hB (by omega)⟩, ?_, ?_, ?_, h.fr.trans hall (fun _ _ e => e)⟩
  · intro _
    obtain rfl | rfl | rfl : i = 0 ∨ i = 1 ∨ i = 2 := by omega
    · rw [e0 rfl]; exact hnew _ (by omega)
    · rw [(e1 rfl).1]; exact (h.r0 (by omega)).frame hall (nb0 (by omega))
    · rw [(e2 rfl).1]; exact (h.r0 (by omega)).frame hall (nb0 (by omega))
  · intro h1
    obtain rfl | rfl : i = 1 ∨ i = 2 := by omega
    · rw [(e1 rfl).1, (e1 rfl).2]; exact hnew _ (by have := hB0 (by omega); omega)
    · rw [(e2 rfl).1, (e2 rfl).2.1]; exact (h.r1 (by omega)).frame hall (nb1 (by omega))
  · intro h1
    obtain rfl : i = 2 := by omega
    rw [(e2 rfl).2.1, (e2 rfl).2.2]; exact hnew _ (by have := hB1 (by omega); omega)

theorem MW.fin {k : Ctx} {D : List Nat} {w wr : World} {b0 b1 b2 : Nat} (ok : k.Ok0) (h : MW k D w wr 3 b0 b1 b2) : (k.wB b0 b1 b2).Ok ∧ ScW (k.wB b0 b1 b2) D wr wr 0 ∧ Fr (· = k.CB) w wr := by
  obtain ⟨p0, r0⟩ := h.r0 (by omega)
  obtain ⟨p1, r1⟩ := h.r1 (by omega)
  obtain ⟨p2, r2⟩ := h.r2 (by omega)
  exact ⟨ok.ok p0 p1 p2, ⟨h.src, ⟨h.fix.tb, h.fix.cb, h.fix.m0, h.fix.m1, h.fix.m2, h.fix.m3, h.fix.sb⟩, h.bef, r0, r1, r2, Fr.refl _ _, Nat.zero_le _⟩, h.fr⟩

theorem MW.start {k : Ctx} {D : List Nat} {w : World} (h : StW k D w) : MW k D w w 0 0 0 0 := ⟨h.src, h.fix, h.bef, fun h => by omega, fun h => by omega, fun h => by omega, Fr.refl _ _⟩

/-- The cells of a component ahead of its room. -/
theorem comp_range0 {k : Ctx} {w : World} {i b0 b1 b2 : Nat} (h : FixW k (cblI k i b0 b1 b2) w) (hi : i < 3) : w.rangeAt k.CB (i * 5) [.int .i64 ((i + 1 : Nat) : Int), .int .i64 (hI i : Int), .int .i64 (hI i : Int), .int .i64 (tI i : Int), .slice none 0 0] := by
  intro j v hv
  have hj : j < 5 := (List.getElem?_eq_some_iff.1 hv).1
  rw [h.cb.cell, ← hv]
  obtain rfl | rfl | rfl : i = 0 ∨ i = 1 ∨ i = 2 := by omega
  all_goals (obtain rfl | rfl | rfl | rfl | rfl : j = 0 ∨ j = 1 ∨ j = 2 ∨ j = 3 ∨ j = 4 := by omega) <;> rfl

theorem size_rd_m {k : Ctx} {w : World} (ok : k.Ok0) {i j b0 b1 b2 : Nat} (h : FixW k (cblI k j b0 b1 b2) w) (hi : i < 3) :
    Calls Tryd.prog 16 #[.pointer (some ⟨k.TB, 0, none⟩), .int .i64 (i : Int)] w fun e w' => e = .returned (.tuple #[.int .i64 ((k.X * hI i : Nat) : Int), .int .i64 ((k.Y * hI i : Nat) : Int)]) ∧ Fr (fun _ => False) w w' := by
  have sl : ∀ j b n, ∃ a l c, vI i j b n = .slice a l c := fun j b n => by unfold vI; split <;> exact ⟨_, _, _, rfl⟩
  have sl2 : ∀ i j b n, ∃ a l c, vI i j b n = .slice a l c := fun i j b n => by unfold vI; split <;> exact ⟨_, _, _, rfl⟩
  have s3 : Sl3 (vI j 0 b0 k.n0) (vI j 1 b1 k.n1) (vI j 2 b2 k.n1) := ⟨sl2 _ _ _ _, sl2 _ _ _ _, sl2 _ _ _ _⟩
  have hf := h.frm
  obtain rfl | rfl | rfl : i = 0 ∨ i = 1 ∨ i = 2 := by omega
  · exact size_rd0 hf s3 ok.w2 ok.h2
  · have := size_rd1 hf s3 ok.w2 ok.h2
    rw [show k.X * hI 1 = (k.W + 15) / 16 from Nat.mul_one _, show k.Y * hI 1 = (k.H + 15) / 16 from Nat.mul_one _]
    exact this
  · have := size_rd2 hf s3 ok.w2 ok.h2
    rw [show k.X * hI 2 = (k.W + 15) / 16 from Nat.mul_one _, show k.Y * hI 2 = (k.H + 15) / 16 from Nat.mul_one _]
    exact this

theorem mk34 (w : World) (m : Nat) (hm : m ≤ 1000) : ∃ cs : Array Value, cs.size = 64 * m ∧ (Instr.makeSlice 34 (.int .i64 (m : Int)) (.int .i64 (m : Int))).run Tryd.prog w = .ok (.slice (some ⟨w.heap.size, 0, none⟩) m m) (w.alloc (.cells cs 77)) := by
  have ht : Tryd.prog.underlying 34 = some (.slice 77) := by kernel_rfl
  have hs : (Tryd.prog.info? 77).map (·.size) = some 64 := by kernel_rfl
  have hb : (Tryd.prog.info? 77).map (·.bytes) = some 512 := by kernel_rfl
  have hz : ((Tryd.prog.info? 77).bind (·.zero)).isSome = true := by kernel_rfl
  cases hi : Tryd.prog.info? 77 with
  | none => simp [hi] at hs
  | some i =>
    simp only [hi, Option.map_some, Option.some.injEq, Option.bind_some] at hz hs hb
    obtain ⟨z, hz⟩ := Option.isSome_iff_exists.1 hz
    have := run_make (P := Tryd.prog) w 34 77 i z ht hi hz .i64 .i64 (m : Int) (m : Int) (by omega) (Int.le_refl _) (by rw [hb]; omega) (by omega)
    rw [Int.toNat_natCast] at this
    exact ⟨_, by rw [size_madeCells, hs, Nat.mul_comm], this⟩

theorem scan_id {w : World} {G i : Nat} (hi : i < 3) (h : BodyW w G 579 scanB) : w.cell? ⟨G, 579 + (1 + 2 * i), none⟩ = some (.int .u8 ((i + 1 : Nat) : Int)) := by
  obtain rfl | rfl | rfl : i = 0 ∨ i = 1 ∨ i = 2 := by omega
  · exact h.cell 1 (by decide)
  · exact h.cell 3 (by decide)
  · exact h.cell 5 (by decide)

theorem scan_tab {w : World} {G i : Nat} (hi : i < 3) (h : BodyW w G 579 scanB) : w.cell? ⟨G, 579 + (2 + 2 * i), none⟩ = some (.int .u8 ((17 * tI i : Nat) : Int)) := by
  obtain rfl | rfl | rfl : i = 0 ∨ i = 1 ∨ i = 2 := by omega
  · exact h.cell 2 (by decide)
  · exact h.cell 4 (by decide)
  · exact h.cell 6 (by decide)

theorem and_val {t T : Nat} (ht : t < 2) (hT : 17 * t = T) : bits BinOp.and IntKind.u8 (T : Int) 15 = (t : Int) := by
  obtain rfl | rfl : t = 0 ∨ t = 1 := by omega
  all_goals (subst hT; decide)

theorem m_more {k : Ctx} {D : List Nat} {w wr : World} {i c0 c1 c2 : Nat} (hi : i < 3) (h : MW k D w wr (i + 1) c0 c1 c2) :
    MRel k D w (Value.int IntKind.i64 ((i : Int) + 1)) wr ∧ 4 - (intOf (Value.int IntKind.i64 ((i : Int) + 1))).toNat < 4 - (intOf (Value.int IntKind.i64 (i : Int))).toNat := by
  rw [show ((i : Int) + 1) = ((i + 1 : Nat) : Int) by push_cast; rfl]
  refine ⟨⟨i + 1, c0, c1, c2, rfl, hi, h⟩, ?_⟩
  show _ - ((i + 1 : Nat) : Int).toNat < _ - (i : Int).toNat
  rw [Int.toNat_natCast, Int.toNat_natCast]
  omega

theorem n_of (k : Ctx) {i : Nat} (hi : i < 3) : k.X * hI i * (k.Y * hI i) = nC k i := by
  obtain rfl | rfl | rfl : i = 0 ∨ i = 1 ∨ i = 2 := by omega
  · show k.X * 2 * (k.Y * 2) = 4 * (k.X * k.Y)
    rw [Nat.mul_mul_mul_comm, Nat.mul_comm]
  · show k.X * 1 * (k.Y * 1) = k.X * k.Y
    rw [Nat.mul_one, Nat.mul_one]
  · show k.X * 1 * (k.Y * 1) = k.X * k.Y
    rw [Nat.mul_one, Nat.mul_one]

theorem FixW.still {k : Ctx} {cbl : List Value} {w w' : World} (h : FixW k cbl w) (hf : Fr (fun _ => False) w w') : FixW k cbl w' :=
  ⟨hf.blk h.tb (fun e => e), hf.blk h.cb (fun e => e), h.m0.frame hf (fun e => e), h.m1.frame hf (fun e => e), h.m2.frame hf (fun e => e), h.m3.frame hf (fun e => e), h.sb.frame hf (fun e => e)⟩

set_option maxHeartbeats 2000000 in
theorem m_loop {k : Ctx} {D : List Nat} {w : World} {dl : List Deferred}
    {v0 v1 v2 v3 v4 v5 v6 v8 v9 v11 v12 v13 v14 v15 v16 v17 v18 v19 v20 v21 v22 v23 v24 v25 v26 v27 v28 v29 v30 v31 v32 v33 v34 v35 v36 v37 v38 v39 v40 v41 v42 v43 v44 v45 v46 v47 v48 v49 v50 v51 v52 v53 v54 v55 v56 v57 v58 v59 v60 v61 v62 v63 v64 v65 v66 v67 v68 v69 v70 v71 v72 v73 v74 v75 v76 v77 v78 v79 v80 v81 v82 v83 v84 v85 v86 v87 v88 v89 v90 v91 v92 v93 v94 v95 v96 v97 v98 v99 v100 v101 v102 v103 v104 v105 v106 v107 v108 v109 v110 v111 v112 v113 v114 v115 v119 v120 v121 v122 v123 v124 v125 v126 v127 v128 v129 v130 v131 v132 v133 v134 v135 v136 v137 v138 v139 v140 v141 v142 v143 v144 v145 v146 v147 v148 v149 v150 v151 v152 v153 v154 v155 v156 v157 v158 v159 v160 v161 v162 v163 v164 v165 v166 v167 v168 v169 v170 v171 v172 v173 v174 v175 v176 v177 v178 v179 v180 v181 v182 v183 v184 v185 v186 v187 v188 v189 v190 v191 v192 v193 v194 v195 v196 v197 v198 v199 v200 v201 v202 v203 v204 v205 v206 v207 v208 v209 v210 v211 v212 v213 v214 v215 v216 v217 v218 v219 v220 v221 v222 v223 v224 v225 v226 v227 v228 v229 v230 v231 v232 v233 v234 v235 v236 v237 v238 v239 v240 v241 v242 v243 v244 v245 v246 v247 v248 v249 v250 v251 v252 v253 v254 v255 v256 v257 v258 v259 v260 v261 v262 v263 v264 v265 v266 v267 v268 v269 v270 v271 v272 v273 v274 v275 v276 v277 v278 v279 v280 v281 v282 v283 v284 v285 v286 v287 v288 v289 v290 v291 v292 v293 v294 v295 v296 v297 v298 v299 v300 v301 v302 v303 v304 v305 v306 v307 v308 v309 v310 v311 v312 v313 v314 v315 v316 v317 : Value}
    (ok : k.Ok0) (hap : k.Ap) (hs : StW k D w) :
    Code.wp Tryd.prog rd2 (fun e a' w' => e = .normal ∧ FrX (fun f => #[v0, v1, f 2, f 3, v4, v5, v6, .pointer (some ⟨k.TB, 0, none⟩), v8, v9, .pointer (some ⟨k.TB, 0, none⟩), v11, v12, v13, v14, v15, f 16, f 17, f 18, f 19, v20, v21, v22, v23, v24, v25, v26, v27, v28, v29, v30, v31, v32, v33, v34, v35, v36, v37, v38, v39, v40, v41, v42, v43, v44, v45, v46, v47, v48, v49, v50, v51, v52, v53, v54, v55, v56, v57, v58, v59, v60, v61, v62, v63, v64, v65, v66, v67, v68, v69, v70, v71, v72, v73, v74, v75, v76, v77, v78, v79, v80, v81, v82, v83, v84, v85, v86, v87, v88, v89, v90, v91, v92, v93, v94, v95, v96, v97, v98, v99, v100, v101, v102, v103, v104, v105, v106, v107, v108, v109, v110, v111, v112, v113, v114, v115, .slice (some ⟨k.CB, 0, none⟩) 3 k.cap, .int .i64 3, f 118, f 119, f 120, f 121, f 122, f 123, f 124, f 125, f 126, f 127, f 128, f 129, f 130, f 131, f 132, f 133, f 134, f 135, f 136, f 137, f 138, f 139, f 140, f 141, f 142, f 143, f 144, f 145, f 146, f 147, f 148, f 149, f 150, f 151, f 152, f 153, f 154, f 155, f 156, f 157, f 158, f 159, f 160, f 161, f 162, f 163, f 164, f 165, f 166, f 167, f 168, f 169, f 170, f 171, f 172, f 173, f 174, f 175, f 176, f 177, f 178, f 179, f 180, f 181, f 182, f 183, f 184, f 185, f 186, f 187, f 188, f 189, v190, v191, v192, v193, v194, v195, v196, v197, v198, v199, v200, v201, v202, v203, v204, v205, v206, v207, v208, v209, v210, v211, v212, v213, v214, v215, v216, v217, v218, v219, v220, v221, v222, v223, v224, v225, v226, v227, v228, v229, v230, v231, v232, v233, v234, v235, v236, v237, v238, v239, v240, v241, v242, v243, v244, v245, v246, v247, v248, v249, v250, v251, v252, v253, v254, v255, v256, v257, v258, v259, v260, v261, v262, v263, v264, v265, v266, v267, v268, v269, v270, v271, v272, v273, v274, v275, v276, v277, v278, v279, v280, v281, v282, v283, v284, v285, v286, v287, v288, v289, v290, v291, v292, v293, v294, v295, v296, v297, v298, v299, v300, v301, v302, v303, v304, v305, v306, v307, v308, v309, v310, v311, v312, v313, v314, v315, v316, v317]) dl (fun w' => ∃ b0 b1 b2, (k.wB b0 b1 b2).Ok ∧ ScW (k.wB b0 b1 b2) D w' w' 0 ∧ Fr (· = k.CB) w w') a' w')
      ⟨#[v0, v1, v2, v3, v4, v5, v6, .pointer (some ⟨k.TB, 0, none⟩), v8, v9, .pointer (some ⟨k.TB, 0, none⟩), v11, v12, v13, v14, v15, v16, v17, v18, v19, v20, v21, v22, v23, v24, v25, v26, v27, v28, v29, v30, v31, v32, v33, v34, v35, v36, v37, v38, v39, v40, v41, v42, v43, v44, v45, v46, v47, v48, v49, v50, v51, v52, v53, v54, v55, v56, v57, v58, v59, v60, v61, v62, v63, v64, v65, v66, v67, v68, v69, v70, v71, v72, v73, v74, v75, v76, v77, v78, v79, v80, v81, v82, v83, v84, v85, v86, v87, v88, v89, v90, v91, v92, v93, v94, v95, v96, v97, v98, v99, v100, v101, v102, v103, v104, v105, v106, v107, v108, v109, v110, v111, v112, v113, v114, v115, .slice (some ⟨k.CB, 0, none⟩) 3 k.cap, .int .i64 3, .int .i64 0, v119, v120, v121, v122, v123, v124, v125, v126, v127, v128, v129, v130, v131, v132, v133, v134, v135, v136, v137, v138, v139, v140, v141, v142, v143, v144, v145, v146, v147, v148, v149, v150, v151, v152, v153, v154, v155, v156, v157, v158, v159, v160, v161, v162, v163, v164, v165, v166, v167, v168, v169, v170, v171, v172, v173, v174, v175, v176, v177, v178, v179, v180, v181, v182, v183, v184, v185, v186, v187, v188, v189, v190, v191, v192, v193, v194, v195, v196, v197, v198, v199, v200, v201, v202, v203, v204, v205, v206, v207, v208, v209, v210, v211, v212, v213, v214, v215, v216, v217, v218, v219, v220, v221, v222, v223, v224, v225, v226, v227, v228, v229, v230, v231, v232, v233, v234, v235, v236, v237, v238, v239, v240, v241, v242, v243, v244, v245, v246, v247, v248, v249, v250, v251, v252, v253, v254, v255, v256, v257, v258, v259, v260, v261, v262, v263, v264, v265, v266, v267, v268, v269, v270, v271, v272, v273, v274, v275, v276, v277, v278, v279, v280, v281, v282, v283, v284, v285, v286, v287, v288, v289, v290, v291, v292, v293, v294, v295, v296, v297, v298, v299, v300, v301, v302, v303, v304, v305, v306, v307, v308, v309, v310, v311, v312, v313, v314, v315, v316, v317], dl⟩ w := by
  dsimp only [rd2, blkOf, got, blkAt, Tryd.f8, Nat.reduceBEq, cond_true, cond_false]
  have OK := hu ok
  have AP := hu hap
  have HS := hu (MW.start hs)
  clear ok hap hs
  go_wp2_with (fail)
  go_loopw [118] (MRel k D w) (fun x _ => 4 - (intOf x).toNat)
  case atStart => exact ⟨0, 0, 0, 0, rfl, by omega, HS.out ()⟩
  case round =>
    obtain ⟨i, b0, b1, b2, rfl, hi3, hs⟩ := hrel
    by_cases hi : i < 3
    · have d1 : decide ((i : Int) < 3) = true := by simp; omega
      have j3 : (i : Int) < 3 := by omega
      have j4 : (0 : Int) ≤ (i : Int) := by omega
      have HS2 := hu hs
      have hr := comp_range0 hs.fix hi
      clear hs
      obtain ⟨fs, hfs⟩ := und38
      have HU := hu hfs
      clear hfs
      obtain ⟨C1, hC1⟩ : ∃ C1, i + 1 = C1 := ⟨_, rfl⟩
      obtain ⟨h, hH⟩ : ∃ h, hI i = h := ⟨_, rfl⟩
      obtain ⟨t, hT⟩ : ∃ t, tI i = t := ⟨_, rfl⟩
      rw [hC1, hH, hT] at hr
      have HR := hu hr
      have HH := hu (And.intro hC1 (And.intro hH hT))
      clear hr hC1 hH hT
      go_upto_region 23 with (refine wpList_load_mid rfl 38 (.tmp 121) rfl k.CB (i * 5) rfl [.int .i64 (C1 : Int), .int .i64 (h : Int), .int .i64 (h : Int), .int .i64 (t : Int), .slice none 0 0] _ (HR.out ()) (HU.out ()) rfl size38 ?_)
      have hwb := Blk.new wr [.int .i64 (C1 : Int), .int .i64 (h : Int), .int .i64 (h : Int), .int .i64 (t : Int), .slice none 0 0] 38
      have hfa : Fr (fun _ => False) wr (wr.alloc (.cells (List.toArray [.int .i64 (C1 : Int), .int .i64 (h : Int), .int .i64 (h : Int), .int .i64 (t : Int), .slice none 0 0]) 38)) := (Fr.refl _ wr).alloc _
      obtain ⟨CC, hCC⟩ : ∃ z, wr.heap.size = z := ⟨_, rfl⟩
      simp only [hCC] at hwb ⊢
      clear hCC
      obtain ⟨wa, hwa⟩ : ∃ z, wr.alloc (.cells #[.int .i64 (C1 : Int), .int .i64 (h : Int), .int .i64 (h : Int), .int .i64 (t : Int), .slice none 0 0] 38) = z := ⟨_, rfl⟩
      simp only [hwa] at hwb hfa ⊢
      have hF := (HS2.out ()).fix
      have hsbA := hF.sb.frame hfa (fun e => e)
      have htbA := hfa.blk hF.tb (fun e => e)
      obtain ⟨I2, hI2⟩ : ∃ I2, 2 * i = I2 := ⟨_, rfl⟩
      obtain ⟨J, hJ⟩ : ∃ J, 2 + I2 = J := ⟨_, rfl⟩
      obtain ⟨J1, hJ1⟩ : ∃ J1, 1 + I2 = J1 := ⟨_, rfl⟩
      obtain ⟨T, hT⟩ : ∃ T, 17 * t = T := ⟨_, rfl⟩
      have b1 := scan_id hi hsbA
      have b2 := scan_tab hi hsbA
      rw [hI2, hJ1, (HH.out ()).1] at b1
      rw [hI2, hJ, (HH.out ()).2.2, hT] at b2
      have s0 : wa.cell? ⟨k.TB, 2, none⟩ = some (.slice (some ⟨k.CB, 0, none⟩) 3 k.cap) := htbA.cellv 2 rfl
      have s1 : wa.cell? ⟨k.TB, 3, none⟩ = some (.slice (some ⟨k.tg, 0, none⟩) 2 k.tc) := htbA.cellv 3 rfl
      have s2 : wa.cell? ⟨k.TB, 12, none⟩ = some (.slice (some ⟨k.G, 579, none⟩) 10 k.c3) := htbA.cellv 12 rfl
      have q0 : wa.cell? ⟨CC, 0, none⟩ = some (.int .i64 (C1 : Int)) := hwb.cellv 0 rfl
      have q3 : wa.cell? ⟨CC, 3, none⟩ = some (.int .i64 (t : Int)) := hwb.cellv 3 rfl
      have ht2 : t < 2 := by rw [← (HH.out ()).2.2]; unfold tI; split <;> omega
      have ev1 : Value.int IntKind.i64 (wrap64 (2 * (i : Int))) = Value.int IntKind.i64 (I2 : Int) := by rw [show (2 * (i : Int)) = ((I2 : Nat) : Int) by omega, w64 (by omega) (by omega)]
      have ev2 : Value.int IntKind.i64 (wrap64 (2 + (I2 : Int))) = Value.int IntKind.i64 (J : Int) := by rw [show (2 + (I2 : Int)) = ((J : Nat) : Int) by omega, w64 (by omega) (by omega)]
      have ev3 : Value.int IntKind.i64 (wrap64 (1 + (I2 : Int))) = Value.int IntKind.i64 (J1 : Int) := by rw [show (1 + (I2 : Int)) = ((J1 : Nat) : Int) by omega, w64 (by omega) (by omega)]
      have ew1 : Value.int IntKind.i64 (IntKind.i64.wrap (2 * (i : Int))) = Value.int IntKind.i64 (I2 : Int) := by rw [show (2 * (i : Int)) = ((I2 : Nat) : Int) by omega, wr64 I2 (by omega)]
      have ew2 : Value.int IntKind.i64 (IntKind.i64.wrap (2 + (I2 : Int))) = Value.int IntKind.i64 (J : Int) := by rw [show (2 + (I2 : Int)) = ((J : Nat) : Int) by omega, wr64 J (by omega)]
      have ew3 : Value.int IntKind.i64 (IntKind.i64.wrap (1 + (I2 : Int))) = Value.int IntKind.i64 (J1 : Int) := by rw [show (1 + (I2 : Int)) = ((J1 : Nat) : Int) by omega, wr64 J1 (by omega)]
      have j5 : (J : Int) < 10 := by omega
      have j6 : (J1 : Int) < 10 := by omega
      have j7 : (0 : Int) ≤ (J : Int) := by omega
      have j8 : (0 : Int) ≤ (J1 : Int) := by omega
      have ew4 : Value.int IntKind.i64 (IntKind.i64.wrap (C1 : Int)) = Value.int IntKind.i64 (C1 : Int) := by rw [wr64 C1 (by have := (HH.out ()).1; omega)]
      have k1 : ¬ ((t : Int) ≥ 2) := by omega
      have k1b : decide (2 ≤ (t : Int)) = false := by simp; omega
      have k2b : decide (1 < (T : Int) / 16) = false := by simp; omega
      have k4b : decide (1 < (t : Int)) = false := by simp; omega
      have k2 : ¬ (1 < (T : Int) / 16) := by omega
      have k3 : bits BinOp.and IntKind.u8 (T : Int) 15 = (t : Int) := and_val ht2 hT
      have k4 : ¬ (1 < (t : Int)) := by omega
      have HFA := hu hfa
      have HWB := hu hwb
      have HIJ := hu (And.intro hI2 (And.intro hJ (And.intro hJ1 (And.intro hT ht2))))
      clear hwa hwb hfa hF hsbA htbA hI2 hJ hJ1 hT ht2 HR HU fs
      go_quiet (fail)
      have hX3 : k.X ≤ 3 := by have := (OK.out ()).w2; unfold Ctx.X; omega
      have hY3 : k.Y ≤ 3 := by have := (OK.out ()).h2; unfold Ctx.Y; omega
      have hh2 : h ≤ 2 := by rw [← (HH.out ()).2.1]; unfold hI; split <;> omega
      obtain ⟨A, hA⟩ : ∃ A, k.X * h = A := ⟨_, rfl⟩
      obtain ⟨A2, hA2⟩ : ∃ A2, k.Y * h = A2 := ⟨_, rfl⟩
      obtain ⟨nn, hnn⟩ : ∃ nn, A * A2 = nn := ⟨_, rfl⟩
      have hA6 : A ≤ 6 := by rw [← hA]; exact Nat.mul_le_mul hX3 hh2
      have hA26 : A2 ≤ 6 := by rw [← hA2]; exact Nat.mul_le_mul hY3 hh2
      have hn36 : nn ≤ 36 := by rw [← hnn]; exact Nat.mul_le_mul hA6 hA26
      have hnC : nn = nC k i := by
        rw [← hnn, ← hA, ← hA2, ← (HH.out ()).2.1]
        exact n_of k hi
      have HNN := hu (And.intro hA (And.intro hA2 (And.intro hnn (And.intro hn36 hnC))))
      have hFq := ((HS2.out ()).fix.still (HFA.out ())).still ((Fr.refl (fun _ => False) wa).drewN nq)
      have HFQ := hu hFq
      clear s0 s1 s2 q0 q3 b1 b2 ev1 ev2 ev3 ew1 ew2 ew3 ew4 j5 j6 j7 j8 k1 k1b k2 k2b k3 k4 k4b HIJ hX3 hY3 hh2 hA hA2 hnn hA6 hA26 hn36 hnC hFq
      go_upto_region 26 with (go_at_call 16; refine (size_rd_m (OK.out ()) (HFQ.out ()) hi).mono ?_; rintro e w1 ⟨rfl, hf1⟩; rw [(HH.out ()).2.1, (HNN.out ()).1, (HNN.out ()).2.1]; have HF1 := hu hf1; clear hf1)
      have hFA1 : Fr (fun _ => False) wr w1 := ((HFA.out ()).trans ((Fr.refl (fun _ => False) wa).drewN nq) (fun _ _ e => e)).trans (HF1.out ()) (fun _ _ e => e)
      have hF1 := (HS2.out ()).fix.still hFA1
      have s0 : w1.cell? ⟨k.TB, 2, none⟩ = some (.slice (some ⟨k.CB, 0, none⟩) 3 k.cap) := hF1.tb.cellv 2 rfl
      have ev5 : Value.int IntKind.i64 (IntKind.i64.wrap ((A : Int) * (A2 : Int))) = Value.int IntKind.i64 (nn : Int) := by
        rw [show (A : Int) * (A2 : Int) = ((nn : Nat) : Int) by rw [← (HNN.out ()).2.2.1]; push_cast; rfl, wr64 nn (by have := (HNN.out ()).2.2.2.1; omega)]
      have HW1 := hu hFA1
      have HX1 := hu hF1
      clear hFA1 hF1
      refine wp_region_takes 8 9 (fun w' => w'.cell? ⟨k.TB, 2, none⟩ = some (.slice (some ⟨k.CB, 0, none⟩) 3 k.cap)) (by kernel_rfl) (by kernel_rfl) (by kernel_rfl) (by kernel_rfl) (by decide) rfl (fun c a a' w e h => ?_) s0 ?_
      · exact Exit.noConfusion (show Exit.panic c = Exit.normal ∧ _ from h).1
      simp only [List.take_succ_cons, List.take_zero]
      iterate 8
        refine chainY_cons (v := ?_) rfl (fun w' hS => ?_) ?_
        rotate_left
        · go_simp
          try with_reducible rfl
        simp only [Act.put, List.setIfInBounds_toArray, List.set_cons_zero, List.set_cons_succ]
      refine chainY_nil ?_
      refine wpAnyH_next 8 rfl (by kernel_rfl) (fun K hK => ?_)
      obtain ⟨cs, hcs, hmk⟩ := mk34 w1.drew nn (by have := (HNN.out ()).2.2.2.1; omega)
      go_simp
      refine hK _ _ (alloc_cell _ s0) ?_
      have hn2 : Blk ((w1.alloc (.cells cs 77)).drew) w1.heap.size cs.toList 77 := Blk.newA w1 cs 77
      have hf2 : Fr (fun _ => False) w1 ((w1.alloc (.cells cs 77)).drew) := ((Fr.refl _ w1).alloc _).drew
      have hF2 := (HX1.out ()).still hf2
      have y := comp_range0 hF2 hi 4 _ rfl
      have z := hF2.cb.frozen (i * 5 + 4)
      obtain ⟨w2, hw2⟩ : ∃ z, (w1.alloc (.cells cs 77)).drew = z := ⟨_, rfl⟩
      obtain ⟨b, hb⟩ : ∃ z, w1.heap.size = z := ⟨_, rfl⟩
      have hb2 : w1.drew.heap.size = b := hb
      rw [hw2] at hn2 hf2 y z ⊢
      try rw [hb2]
      try rw [hb]
      rw [hb] at hn2
      have HMM := hu ((HS2.out ()).more (cs := cs.toList) (OK.out ()) (AP.out ()) hi (HW1.out ()) (by rw [Array.length_toList, hcs, (HNN.out ()).2.2.2.2]) hb hn2 hf2)
      have HN2 := hu (HNN.out ()).2.2.2.2
      clear hK K hmk hcs hn2 hf2 hF2 hw2 hb hb2 ev5 s0 HNN HX1 HW1 HF1 HFQ HFA HWB HH HS2
      refine wpAnyH_done (by kernel_rfl) ?_ 0
      simp only [Tail, List.drop_succ_cons, List.drop_zero]
      go_wp2
      obtain ⟨c0, c1, c2, hmw⟩ := HMM.out ()
      rw [← HN2.out ()] at hmw
      exact m_more hi hmw
    · have d1 : decide ((i : Int) < 3) = false := by simp; omega
      obtain rfl : i = 3 := by omega
      have HS2 := hu (hs.fin (OK.out ()))
      clear hs
      go_wp2
      first | exact ex_frame ⟨b0, b1, b2, HS2.out ()⟩ rfl | exact ⟨rfl, ex_frame ⟨b0, b1, b2, HS2.out ()⟩ rfl⟩
end Go.Proofs.YtpophkigihfjoaaDoor
