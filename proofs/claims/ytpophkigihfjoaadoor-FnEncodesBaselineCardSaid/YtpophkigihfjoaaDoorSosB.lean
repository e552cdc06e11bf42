/- The state of a scan stays in order (MS.Ok); what the walk of writeSOS carries in memory (SosW). -/
import Derived.Test.YtpophkigihfjoaaDoorSos
namespace Go.Proofs.YtpophkigihfjoaaDoor
open Go.RowKit
set_option maxRecDepth 100000

theorem getD_fillAt (f : Nat → Int) (N : List Int) (o n i : Nat) (h : o + n ≤ N.length) : (fillAt f N o n).getD i 0 = if o ≤ i ∧ i < o + n then f (i - o) else N.getD i 0 := by
  have h1 : (N.take o).length = o := by simp; omega
  unfold fillAt
  simp only [List.getD_eq_getElem?_getD]
  by_cases hi : i < o
  · rw [List.getElem?_append_left (by omega), if_neg (by omega), List.getElem?_take, if_pos hi]
  · rw [List.getElem?_append_right (by omega), h1]
    by_cases h2 : i < o + n
    · rw [List.getElem?_append_left (by simp; omega), if_pos ⟨by omega, h2⟩]
      simp [show i - o < n from by omega]
    · rw [List.getElem?_append_right (by simp; omega), if_neg (by omega)]
      simp only [List.length_map, List.length_range, List.getElem?_drop]
      rw [show o + n + (i - o - n) = i from by omega]

/-- Every place of the scaled block is set. -/
theorem scale_cover : ∀ i, i < 64 → ∃ n, n < 64 ∧ 8 * (n / 4 % 4) + n % 4 + scaleOff (n / 16) = i := by
  have h : ∀ i, i < 64 → (List.range 64).any (fun n => 8 * (n / 4 % 4) + n % 4 + scaleOff (n / 16) == i) = true := by decide +kernel
  intro i hi
  have := h i hi
  rw [List.any_eq_true] at this
  obtain ⟨n, hn, he⟩ := this
  exact ⟨n, List.mem_range.1 hn, by simpa using he⟩

theorem scaleVal_byte (S : List Int) (hS : ∀ i, 0 ≤ S.getD i 0 ∧ S.getD i 0 ≤ 255) (i y x : Nat) : 0 ≤ scaleVal S i y x ∧ scaleVal S i y x ≤ 255 := by
  unfold scaleVal
  have h0 := hS (i * 64 + (16 * y + 2 * x))
  have h1 := hS (i * 64 + (16 * y + 2 * x + 1))
  have h2 := hS (i * 64 + (16 * y + 2 * x + 8))
  have h3 := hS (i * 64 + (16 * y + 2 * x + 9))
  omega

theorem scaleTo_byte (S M : List Int) (hS : ∀ i, 0 ≤ S.getD i 0 ∧ S.getD i 0 ≤ 255) (hM : M.length = 64) : ∀ i, i < 64 → 0 ≤ (scaleTo S M 64).getD i 0 ∧ (scaleTo S M 64).getD i 0 ≤ 255 := by
  have key : ∀ n, n ≤ 64 → ∀ m, m < n → 0 ≤ (scaleTo S M n).getD (8 * (m / 4 % 4) + m % 4 + scaleOff (m / 16)) 0 ∧ (scaleTo S M n).getD (8 * (m / 4 % 4) + m % 4 + scaleOff (m / 16)) 0 ≤ 255 := by
    intro n
    induction n with
    | zero => intro _ m hm; omega
    | succ n ih =>
      intro hn m hm
      have hd : 8 * (n / 4 % 4) + n % 4 + scaleOff (n / 16) < 64 := by unfold scaleOff; omega
      simp only [scaleTo, List.getD_eq_getElem?_getD, List.getElem?_set]
      split
      · rw [if_pos (by rw [length_scaleTo, hM]; exact hd)]
        exact scaleVal_byte S hS _ _ _
      · rename_i hne
        have hm' : m < n := by
          rcases Nat.lt_or_ge m n with h | h
          · exact h
          · exfalso; apply hne; rw [show m = n from by omega]
        have := ih (by omega) m hm'
        simpa only [List.getD_eq_getElem?_getD] using this
  intro i hi
  obtain ⟨n, hn, rfl⟩ := scale_cover i hi
  exact key 64 (by omega) n hn

attribute [local irreducible] dctP coef BS.block scaleTo divP

section
variable {p : Par} (hp : p.Ok) {st : MS} {c0 n : Nat}
include hp

theorem MS.Ok.fill (h : st.Ok c0 n) (x y t : Nat) (ht : t < 4) : (st.fill p x y t).Ok c0 n ∧ ∀ i, i < 64 → 0 ≤ (st.fill p x y t).M.getD i 0 ∧ (st.fill p x y t).M.getD i 0 ≤ 255 := by
  have hN := h.lN
  have hR := h.lR
  have hM := h.lM
  refine ⟨⟨?_, ?_, ?_, ?_, ?_, h.y1, h.y2, h.b1, h.b2, h.r1, h.r2, h.len⟩, ?_⟩
  · show (fillAt _ _ _ _).length = 64; rw [length_fillAt _ _ _ _ (by omega), hM]
  · show (fillAt _ _ _ _).length = 256; rw [length_fillAt _ _ _ _ (by omega), hN]
  · show (fillAt _ _ _ _).length = 256; rw [length_fillAt _ _ _ _ (by omega), hR]
  · intro i
    show 0 ≤ (fillAt _ _ _ _).getD i 0 ∧ (fillAt _ _ _ _).getD i 0 ≤ 255
    rw [getD_fillAt _ _ _ _ _ (by omega)]
    split
    · exact chroma_byte _
    · exact h.bN i
  · intro i
    show 0 ≤ (fillAt _ _ _ _).getD i 0 ∧ (fillAt _ _ _ _).getD i 0 ≤ 255
    rw [getD_fillAt _ _ _ _ _ (by omega)]
    split
    · exact chroma_byte _
    · exact h.bR i
  · intro i hi
    show 0 ≤ (fillAt _ _ _ _).getD i 0 ∧ (fillAt _ _ _ _).getD i 0 ≤ 255
    rw [getD_fillAt _ _ _ _ _ (by omega), if_pos (by omega)]
    exact yP_byte _ _ _ (hp.byte _).1 (hp.byte _).2 (hp.byte _).1 (hp.byte _).2 (hp.byte _).1 (hp.byte _).2

theorem MS.Ok.wY (hd : DctLaw) (h : st.Ok c0 n) (hb : ∀ i, i < 64 → 0 ≤ st.M.getD i 0 ∧ st.M.getD i 0 ≤ 255) (hA : st.s.A < 2 ^ st.s.nb) (hnb : st.s.nb ≤ 7) : (st.wY p).Ok c0 (n + 1) := by
  obtain ⟨g1, g2, g3⟩ := coef_bound hd st.M p.q 0 (by omega) h.lM hb hp.qb
  have y1 := h.y1
  have y2 := h.y2
  have := block_len st.s p.l0 p.l1 (coef (dctP st.M) p.q 0 0 - st.pY) (coef (dctP st.M) p.q 0) hp.c0 hp.c1 hA hnb (by omega) g2
  have hl := h.len
  exact ⟨by show (dctP st.M).length = 64; rw [length_dctP]; exact h.lM, h.lN, h.lR, h.bN, h.bR, g1.1, g1.2, h.b1, h.b2, h.r1, h.r2, by show (st.s.block _ _ _ _).c.length ≤ _; omega⟩

theorem MS.Ok.wB (hd : DctLaw) (h : st.Ok c0 n) (hb : ∀ i, i < 64 → 0 ≤ st.M.getD i 0 ∧ st.M.getD i 0 ≤ 255) (hA : st.s.A < 2 ^ st.s.nb) (hnb : st.s.nb ≤ 7) : (st.wB p).Ok c0 (n + 1) := by
  obtain ⟨g1, g2, g3⟩ := coef_bound hd st.M p.q 1 (by omega) h.lM hb hp.qb
  have y1 := h.b1
  have y2 := h.b2
  have := block_len st.s p.l2 p.l3 (coef (dctP st.M) p.q 1 0 - st.pB) (coef (dctP st.M) p.q 1) hp.c2 hp.c3 hA hnb (by omega) g2
  have hl := h.len
  exact ⟨by show (dctP st.M).length = 64; rw [length_dctP]; exact h.lM, h.lN, h.lR, h.bN, h.bR, h.y1, h.y2, g1.1, g1.2, h.r1, h.r2, by show (st.s.block _ _ _ _).c.length ≤ _; omega⟩

theorem MS.Ok.wR (hd : DctLaw) (h : st.Ok c0 n) (hb : ∀ i, i < 64 → 0 ≤ st.M.getD i 0 ∧ st.M.getD i 0 ≤ 255) (hA : st.s.A < 2 ^ st.s.nb) (hnb : st.s.nb ≤ 7) : (st.wR p).Ok c0 (n + 1) := by
  obtain ⟨g1, g2, g3⟩ := coef_bound hd st.M p.q 1 (by omega) h.lM hb hp.qb
  have y1 := h.r1
  have y2 := h.r2
  have := block_len st.s p.l2 p.l3 (coef (dctP st.M) p.q 1 0 - st.pR) (coef (dctP st.M) p.q 1) hp.c2 hp.c3 hA hnb (by omega) g2
  have hl := h.len
  exact ⟨by show (dctP st.M).length = 64; rw [length_dctP]; exact h.lM, h.lN, h.lR, h.bN, h.bR, h.y1, h.y2, h.b1, h.b2, g1.1, g1.2, by show (st.s.block _ _ _ _).c.length ≤ _; omega⟩
end

theorem MS.Ok.sclB {st : MS} {c0 n : Nat} (h : st.Ok c0 n) : st.sclB.Ok c0 n ∧ ∀ i, i < 64 → 0 ≤ st.sclB.M.getD i 0 ∧ st.sclB.M.getD i 0 ≤ 255 :=
  ⟨⟨by show (scaleTo _ _ _).length = 64; rw [length_scaleTo]; exact h.lM, h.lN, h.lR, h.bN, h.bR, h.y1, h.y2, h.b1, h.b2, h.r1, h.r2, h.len⟩, scaleTo_byte st.N st.M h.bN h.lM⟩

theorem MS.Ok.sclR {st : MS} {c0 n : Nat} (h : st.Ok c0 n) : st.sclR.Ok c0 n ∧ ∀ i, i < 64 → 0 ≤ st.sclR.M.getD i 0 ∧ st.sclR.M.getD i 0 ≤ 255 :=
  ⟨⟨by show (scaleTo _ _ _).length = 64; rw [length_scaleTo]; exact h.lM, h.lN, h.lR, h.bN, h.bR, h.y1, h.y2, h.b1, h.b2, h.r1, h.r2, h.len⟩, scaleTo_byte st.R st.M h.bR h.lM⟩

/-- The blocks of a scan: the three scratch blocks, the bounds, the image's two. -/
structure Bks where
  B : Nat
  C : Nat
  R : Nat
  T : Nat
  IB : Nat
  PX : Nat

def Bks.mine (k : Bks) (b : Nat) : Prop := b = k.B ∨ b = k.C ∨ b = k.R

/-- The scratch blocks are three, and none of the others. -/
structure Bks.Ok (k : Bks) (I : Ids) : Prop where
  n1 : k.B ≠ k.C
  n2 : k.B ≠ k.R
  n3 : k.C ≠ k.R
  t : ¬ k.mine k.T
  ib : ¬ k.mine k.IB
  px : ¬ k.mine k.PX
  g1 : ¬ k.mine 1
  g2 : ¬ k.mine 2
  l0 : ¬ k.mine I.L0
  l1 : ¬ k.mine I.L1
  l2 : ¬ k.mine I.L2
  l3 : ¬ k.mine I.L3

/-- What writeSOS has in memory between two of its steps. -/
structure SosW (w : World) (I : Ids) (v : Value) (k : Bks) (p : Par) (sc : List Int) (st : MS) : Prop where
  enc : EncS w I v st.s sc p.q
  lut : LutW w I v p.l0 p.l1 p.l2 p.l3
  gl : GlobW w
  a1 : Apart w I v 1
  a2 : Apart w I v 2
  img : ImgW w k.IB k.PX p.wide p.high p.pix
  ai : Apart w I v k.IB
  ap : Apart w I v k.PX
  b : Blk w k.B (st.M.map I32) 135
  c : Blk w k.C (st.N.map I32) 136
  r : Blk w k.R (st.R.map I32) 136
  ab : Apart w I v k.B
  ac : Apart w I v k.C
  ar : Apart w I v k.R
  t : Blk w k.T [.int .i64 0, .int .i64 0, .int .i64 p.wide, .int .i64 p.high] 46
  at_ : Apart w I v k.T

/-- What a scan may change. -/
def SosOut (I : Ids) (v : Value) (k : Bks) (b : Nat) : Prop := OutE I v b ∨ k.mine b

theorem Apart.go {w w' : World} {I : Ids} {v v' : Value} {b : Nat} (h : Apart w I v b) (hs : w.heap.size ≤ w'.heap.size) (hm : Moved w v v') : Apart w' I v' b := by
  refine ⟨Nat.lt_of_lt_of_le h.lt hs, ?_⟩
  rintro (e | e | e | e | e)
  · exact h.out (.inl e)
  · exact h.out (.inr (.inl e))
  · exact h.out (.inr (.inr (.inl e)))
  · exact h.out (.inr (.inr (.inr (.inl e))))
  · exact hm.ne h.lt (fun e' => h.out (.inr (.inr (.inr (.inr e'))))) e

theorem SosW.go {w w' : World} {I : Ids} {v v' : Value} {k : Bks} {p : Par} {sc : List Int} {st st' : MS} (h : SosW w I v k p sc st) (hk : k.Ok I) (hf : Fr (SosOut I v k) w w') (hm : Moved w v v')
    (he : EncS w' I v' st'.s sc p.q) (hb : Blk w' k.B (st'.M.map I32) 135) (hc : Blk w' k.C (st'.N.map I32) 136) (hr : Blk w' k.R (st'.R.map I32) 136) : SosW w' I v' k p sc st' := by
  have keep : ∀ b, Apart w I v b → ¬ k.mine b → w'.heap[b]? = w.heap[b]? := fun b ha hn => hf.block b ha.lt (by rintro (e | e); exact ha.out e; exact hn e)
  have hs := hf.size
  refine ⟨he, ⟨?_, ?_, ?_, ?_, h.lut.a0.go hs hm, h.lut.a1.go hs hm, h.lut.a2.go hs hm, h.lut.a3.go hs hm⟩, ⟨?_, ?_⟩, h.a1.go hs hm, h.a2.go hs hm, ⟨?_, ?_, h.img.len, h.img.byte⟩, h.ai.go hs hm, h.ap.go hs hm, hb, hc, hr, h.ab.go hs hm, h.ac.go hs hm, h.ar.go hs hm, ?_, h.at_.go hs hm⟩
  · exact h.lut.b0.of_heap (keep _ h.lut.a0 hk.l0)
  · exact h.lut.b1.of_heap (keep _ h.lut.a1 hk.l1)
  · exact h.lut.b2.of_heap (keep _ h.lut.a2 hk.l2)
  · exact h.lut.b3.of_heap (keep _ h.lut.a3 hk.l3)
  · intro i hi; rw [World.cell?_of_block (a := ⟨1, i, none⟩) (keep 1 h.a1 hk.g1)]; exact h.gl.uz i hi
  · intro i hi; rw [World.cell?_of_block (a := ⟨2, i, none⟩) (keep 2 h.a2 hk.g2)]; exact h.gl.bc i hi
  · exact h.img.head.of_heap (keep _ h.ai hk.ib)
  · exact h.img.body.of_heap (keep _ h.ap hk.px)
  · exact h.t.of_heap (keep _ h.at_ hk.t)

/-- Where only blocks are made and draws are taken. -/
theorem SosW.still {w w' : World} {I : Ids} {v : Value} {k : Bks} {p : Par} {sc : List Int} {st : MS} (h : SosW w I v k p sc st) (hk : k.Ok I) (hf : Fr (fun _ => False) w w') : SosW w' I v k p sc st :=
  h.go hk (hf.mono (fun _ _ e => e.elim)) (.inl rfl) (h.enc.frame hf (fun _ _ e => e)) (hf.blk h.b (fun e => e)) (hf.blk h.c (fun e => e)) (hf.blk h.r (fun e => e))

theorem SosW.env0 {w : World} {I : Ids} {v : Value} {k : Bks} {p : Par} {sc : List Int} {st : MS} (h : SosW w I v k p sc st) : Env w I v 0 p.l0 p.l1 := ⟨h.lut.b0, h.lut.b1, h.lut.a0, h.lut.a1, h.gl, h.a1, h.a2⟩
theorem SosW.env1 {w : World} {I : Ids} {v : Value} {k : Bks} {p : Par} {sc : List Int} {st : MS} (h : SosW w I v k p sc st) : Env w I v 1 p.l2 p.l3 := ⟨h.lut.b2, h.lut.b3, h.lut.a2, h.lut.a3, h.gl, h.a1, h.a2⟩

end Go.Proofs.YtpophkigihfjoaaDoor
