/- What Encode makes of an image, as a plain function: the quantization tables, the headers, the scan. -/
import Derived.Test.YtpophkigihfjoaaDoorRgba
namespace Go.Proofs.YtpophkigihfjoaaDoor
open Go.RowKit Go.Great
set_option maxRecDepth 100000

/-- The program's own table, unscaled. -/
def uqL : List Int := [16, 11, 12, 14, 12, 10, 16, 14, 13, 14, 18, 17, 16, 19, 24, 40, 26, 24, 22, 22, 24, 49, 35, 37, 29, 40, 58, 51, 61, 60, 57, 51, 56, 55, 64, 72, 92, 78, 64, 68, 87, 69, 55, 56, 80, 109, 81, 87, 95, 98, 103, 104, 103, 62, 77, 113, 121, 112, 100, 120, 92, 101, 103, 99, 17, 18, 18, 24, 21, 24, 47, 26, 26, 47, 99, 66, 56, 66, 99, 99, 99, 99, 99, 99, 99, 99, 99, 99, 99, 99, 99, 99, 99, 99, 99, 99, 99, 99, 99, 99, 99, 99, 99, 99, 99, 99, 99, 99, 99, 99, 99, 99, 99, 99, 99, 99, 99, 99, 99, 99, 99, 99, 99, 99, 99, 99, 99, 99]

/-- The scale that a quality stands for. -/
def scaleQ (Q : Nat) : Int := if Q < 50 then 5000 / (Q : Int) else 200 - (Q : Int) * 2

/-- One number of the tables at a quality. -/
def qAt (Q i : Nat) : Int :=
  let x := (uqL.getD i 0 * scaleQ Q + 50) / 100
  if x < 1 then 1 else if x > 255 then 255 else x

/-- The tables when the first n numbers are in. -/
def qTo (Q : Nat) : Nat → List Int
  | 0 => List.replicate 128 0
  | n + 1 => (qTo Q n).set n (qAt Q n)

theorem qTo_length (Q n : Nat) : (qTo Q n).length = 128 := by
  induction n with
  | zero => simp [qTo]
  | succ n ih => simp [qTo, ih]

theorem qTo_get (Q n i : Nat) (hi : i < n) (hn : n ≤ 128) : (qTo Q n).getD i 0 = qAt Q i := by
  induction n with
  | zero => omega
  | succ n ih =>
    rw [qTo, set_getD _ _ _ _ (by rw [qTo_length]; omega)]
    by_cases h : n = i
    · subst h; simp
    · rw [if_neg h]; exact ih (by omega) (by omega)

theorem qAt_bd (Q i : Nat) : 1 ≤ qAt Q i ∧ qAt Q i ≤ 255 := by
  unfold qAt
  generalize (uqL.getD i 0 * scaleQ Q + 50) / 100 = x
  dsimp only
  split
  · omega
  · split <;> omega

theorem uq_bd : ∀ i, i < 128 → 0 ≤ uqL.getD i 0 ∧ uqL.getD i 0 ≤ 255 := by decide +kernel

theorem scaleQ_bd (Q : Nat) (h1 : 1 ≤ Q) (h2 : Q ≤ 100) : 0 ≤ scaleQ Q ∧ scaleQ Q ≤ 5000 := by
  unfold scaleQ
  split
  · constructor
    · exact Int.ediv_nonneg (by omega) (by omega)
    · exact Int.le_trans (Int.ediv_le_self _ (by omega)) (by omega)
  · omega

attribute [local irreducible] sosP

noncomputable def lutL0 : List Nat := lutOut cnt0 val0 11 16
noncomputable def lutL1 : List Nat := lutOut cnt1 val1 250 16
noncomputable def lutL2 : List Nat := lutOut cnt2 val2 11 16
noncomputable def lutL3 : List Nat := lutOut cnt3 val3 250 16

theorem codes0 : Codes lutL0 12 := ⟨by unfold lutL0; rw [length_lutOut], by decide +kernel⟩
theorem codes1 : Codes lutL1 251 := ⟨by unfold lutL1; rw [length_lutOut], by decide +kernel⟩
theorem codes2 : Codes lutL2 12 := ⟨by unfold lutL2; rw [length_lutOut], by decide +kernel⟩
theorem codes3 : Codes lutL3 251 := ⟨by unfold lutL3; rw [length_lutOut], by decide +kernel⟩

/-- The picture and the tables. -/
noncomputable def parOf (pix : List Int) (W H Q : Nat) : Par := ⟨pix, W, H, qTo Q 128, lutL0, lutL1, lutL2, lutL3⟩

theorem parOf_ok (pix : List Int) (W H Q : Nat) (w1 : 1 ≤ W) (w2 : W ≤ 40) (h1 : 1 ≤ H) (h2 : H ≤ 40) (hb : ∀ i, 0 ≤ pix.getD i 0 ∧ pix.getD i 0 ≤ 255) : (parOf pix W H Q).Ok := by
  have hq : (qTo Q 128).length = 128 := qTo_length Q 128
  have hqb : ∀ i, i < 128 → 1 ≤ (qTo Q 128).getD i 0 ∧ (qTo Q 128).getD i 0 ≤ 255 := fun i hi => by rw [qTo_get Q 128 i hi (by omega)]; exact qAt_bd Q i
  unfold parOf
  generalize qTo Q 128 = q at hq hqb ⊢
  have a0 := codes0
  have a1 := codes1
  have a2 := codes2
  have a3 := codes3
  generalize lutL0 = l0 at a0 ⊢
  generalize lutL1 = l1 at a1 ⊢
  generalize lutL2 = l2 at a2 ⊢
  generalize lutL3 = l3 at a3 ⊢
  exact ⟨w1, w2, h1, h2, hq, hqb, a0, a1, a2, a3, hb⟩

def dqtBytes (q : List Int) : List Int := [255, 219, 0, 132] ++ [0] ++ q.take 64 ++ [1] ++ q.drop 64
def sofBytes (W H : Nat) : List Int := [255, 192, 0, 17] ++ [8, 0, (H : Int), 0, (W : Int), 3, 1, 34, 0, 2, 17, 1, 3, 17, 1]

/-- All ahead of the scan. -/
def headBytes (W H Q : Nat) : List Int := [255, 216] ++ dqtBytes (qTo Q 128) ++ sofBytes W H ++ dhtBytes

/-- The whole file. -/
noncomputable def jpegP (pix : List Int) (W H Q : Nat) : List Int := (sosP (parOf pix W H Q) ⟨headBytes W H Q, 0, 0⟩).c ++ [255, 217]

theorem headBytes_length (W H Q : Nat) : (headBytes W H Q).length = 575 := by
  simp [headBytes, dqtBytes, sofBytes, dhtBytes, qTo_length, lc0, lc1, lc2, lc3, lv0, lv1, lv2, lv3]
end Go.Proofs.YtpophkigihfjoaaDoor
