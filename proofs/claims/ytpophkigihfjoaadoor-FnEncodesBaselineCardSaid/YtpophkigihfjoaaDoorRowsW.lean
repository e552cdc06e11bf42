/- The walk of fdctRows. -/
import Derived.Test.YtpophkigihfjoaaDoorDct
import Derived.Lib.Hide
namespace Go.Proofs.YtpophkigihfjoaaDoor
open Go.RowKit
set_option maxRecDepth 100000

/-- One row of the forward transform, in 32 bits: its eight answers. -/
def row0 (x0 x1 x2 x3 x4 x5 x6 x7 : Int) : Int := wrap32 (wrap32 (wrap32 (wrap32 (x0 + x7) + wrap32 (x3 + x4)) + wrap32 (wrap32 (x1 + x6) + wrap32 (x2 + x5))) + 131072) / 262144
def row1 (x0 x1 x2 x3 x4 x5 x6 x7 : Int) : Int := wrap32 (wrap32 (wrap32 (boxB (wrap32 (x3 - x4) / 16384) (wrap32 (x0 - x7) / 16384) 13623 9102 + boxA (wrap32 (x2 - x5) / 16384) (wrap32 (x1 - x6) / 16384) 16069 3196) + wrap32 (boxA (wrap32 (x3 - x4) / 16384) (wrap32 (x0 - x7) / 16384) 13623 9102 + boxB (wrap32 (x2 - x5) / 16384) (wrap32 (x1 - x6) / 16384) 16069 3196)) + 131072) / 262144
def row2 (x0 x1 x2 x3 x4 x5 x6 x7 : Int) : Int := wrap32 (boxA (wrap32 (wrap32 (x1 + x6) - wrap32 (x2 + x5)) / 16384) (wrap32 (wrap32 (x0 + x7) - wrap32 (x3 + x4)) / 16384) 8867 21407 + 131072) / 262144
def row3 (x0 x1 x2 x3 x4 x5 x6 x7 : Int) : Int := wrap32 (wrap32 (wrap32 (boxB (wrap32 (x3 - x4) / 16384) (wrap32 (x0 - x7) / 16384) 13623 9102 - boxA (wrap32 (x2 - x5) / 16384) (wrap32 (x1 - x6) / 16384) 16069 3196) / 16384 * 23170) + 131072) / 262144
def row4 (x0 x1 x2 x3 x4 x5 x6 x7 : Int) : Int := wrap32 (wrap32 (wrap32 (wrap32 (x0 + x7) + wrap32 (x3 + x4)) - wrap32 (wrap32 (x1 + x6) + wrap32 (x2 + x5))) + 131072) / 262144
def row5 (x0 x1 x2 x3 x4 x5 x6 x7 : Int) : Int := wrap32 (wrap32 (wrap32 (boxA (wrap32 (x3 - x4) / 16384) (wrap32 (x0 - x7) / 16384) 13623 9102 - boxB (wrap32 (x2 - x5) / 16384) (wrap32 (x1 - x6) / 16384) 16069 3196) / 16384 * 23170) + 131072) / 262144
def row6 (x0 x1 x2 x3 x4 x5 x6 x7 : Int) : Int := wrap32 (boxB (wrap32 (wrap32 (x1 + x6) - wrap32 (x2 + x5)) / 16384) (wrap32 (wrap32 (x0 + x7) - wrap32 (x3 + x4)) / 16384) 8867 21407 + 131072) / 262144
def row7 (x0 x1 x2 x3 x4 x5 x6 x7 : Int) : Int := wrap32 (wrap32 (wrap32 (boxB (wrap32 (x3 - x4) / 16384) (wrap32 (x0 - x7) / 16384) 13623 9102 + boxA (wrap32 (x2 - x5) / 16384) (wrap32 (x1 - x6) / 16384) 16069 3196) - wrap32 (boxA (wrap32 (x3 - x4) / 16384) (wrap32 (x0 - x7) / 16384) 13623 9102 + boxB (wrap32 (x2 - x5) / 16384) (wrap32 (x1 - x6) / 16384) 16069 3196)) + 131072) / 262144

def rowSet (M : List Int) (k : Nat) (x0 x1 x2 x3 x4 x5 x6 x7 : Int) : List Int := ((((((((M.set (8 * k) (row0 x0 x1 x2 x3 x4 x5 x6 x7)).set (8 * k + 1) (row1 x0 x1 x2 x3 x4 x5 x6 x7)).set (8 * k + 2) (row2 x0 x1 x2 x3 x4 x5 x6 x7)).set (8 * k + 3) (row3 x0 x1 x2 x3 x4 x5 x6 x7)).set (8 * k + 4) (row4 x0 x1 x2 x3 x4 x5 x6 x7)).set (8 * k + 5) (row5 x0 x1 x2 x3 x4 x5 x6 x7)).set (8 * k + 6) (row6 x0 x1 x2 x3 x4 x5 x6 x7)).set (8 * k + 7) (row7 x0 x1 x2 x3 x4 x5 x6 x7))
def rowStep (M : List Int) (k : Nat) : List Int :=
  rowSet M k (M.getD (8 * k) 0) (M.getD (8 * k + 1) 0) (M.getD (8 * k + 2) 0) (M.getD (8 * k + 3) 0) (M.getD (8 * k + 4) 0) (M.getD (8 * k + 5) 0) (M.getD (8 * k + 6) 0) (M.getD (8 * k + 7) 0)
theorem length_rowStep (M : List Int) (k : Nat) : (rowStep M k).length = M.length := by simp [rowStep, rowSet]

def rowsTo (M : List Int) (k : Nat) : List Int := (List.range k).foldl rowStep M
theorem rowsTo_zero (M : List Int) : rowsTo M 0 = M := rfl
theorem rowsTo_succ (M : List Int) (k : Nat) : rowsTo M (k + 1) = rowStep (rowsTo M k) k := by simp [rowsTo, List.range_succ]
theorem length_rowsTo (M : List Int) (k : Nat) : (rowsTo M k).length = M.length := by
  induction k with
  | zero => rfl
  | succ k ih => rw [rowsTo_succ, length_rowStep, ih]

/-- Between two rows. -/
def RowRel (w : World) (B : Nat) (M : List Int) (i : Value) (wr : World) : Prop := ∃ k : Nat, k ≤ 8 ∧ i = .int .i64 k ∧ Blk wr B ((rowsTo M k).map I32) 135 ∧ Fr (· = B) w wr

theorem row_blk {w : World} {B : Nat} {M : List Int} {k : Nat} (h : Blk w B (M.map I32) 135) (v0 v1 v2 v3 v4 v5 v6 v7 : Int) :
    Blk ((((((((w.setCell ⟨B, 8 * k, none⟩ (I32 v0)).setCell ⟨B, 8 * k + 1, none⟩ (I32 v1)).setCell ⟨B, 8 * k + 2, none⟩ (I32 v2)).setCell ⟨B, 8 * k + 3, none⟩ (I32 v3)).setCell ⟨B, 8 * k + 4, none⟩ (I32 v4)).setCell ⟨B, 8 * k + 5, none⟩ (I32 v5)).setCell ⟨B, 8 * k + 6, none⟩ (I32 v6)).setCell ⟨B, 8 * k + 7, none⟩ (I32 v7)) B (((((((((M.set (8 * k) v0).set (8 * k + 1) v1).set (8 * k + 2) v2).set (8 * k + 3) v3).set (8 * k + 4) v4).set (8 * k + 5) v5).set (8 * k + 6) v6).set (8 * k + 7) v7).map I32) 135 := by
  simp only [List.map_set]
  exact (((((((h.set _ _).set _ _).set _ _).set _ _).set _ _).set _ _).set _ _).set _ _

theorem row_fr {w w0 : World} {B : Nat} {k : Nat} (h : Fr (· = B) w0 w) (v0 v1 v2 v3 v4 v5 v6 v7 : Value) :
    Fr (· = B) w0 ((((((((w.setCell ⟨B, 8 * k, none⟩ v0).setCell ⟨B, 8 * k + 1, none⟩ v1).setCell ⟨B, 8 * k + 2, none⟩ v2).setCell ⟨B, 8 * k + 3, none⟩ v3).setCell ⟨B, 8 * k + 4, none⟩ v4).setCell ⟨B, 8 * k + 5, none⟩ v5).setCell ⟨B, 8 * k + 6, none⟩ v6).setCell ⟨B, 8 * k + 7, none⟩ v7) :=
  ((((((((h.setCell (a := ⟨B, 8 * k, none⟩) (fun _ => rfl) _).setCell (a := ⟨B, 8 * k + 1, none⟩) (fun _ => rfl) _).setCell (a := ⟨B, 8 * k + 2, none⟩) (fun _ => rfl) _).setCell (a := ⟨B, 8 * k + 3, none⟩) (fun _ => rfl) _).setCell (a := ⟨B, 8 * k + 4, none⟩) (fun _ => rfl) _).setCell (a := ⟨B, 8 * k + 5, none⟩) (fun _ => rfl) _).setCell (a := ⟨B, 8 * k + 6, none⟩) (fun _ => rfl) _).setCell (a := ⟨B, 8 * k + 7, none⟩) (fun _ => rfl) _)

theorem und135 : Tryd.prog.underlying 135 = some (.array (Tryd.prog.arrayLen 135) (Tryd.prog.elem 135)) := by kernel_rfl
theorem len135 : Tryd.prog.arrayLen 135 = 64 := by kernel_rfl
theorem siz135 (w : World) : (sizeOf (Tryd.prog.elem 135)).run Tryd.prog w = .ok 1 w := by kernel_rfl

theorem row_slice (B k : Nat) (hk : k < 8) (w : World) :
    (Instr.sliceAt 135 (.pointer (some ⟨B, 0, none⟩)) (some (.int .i64 (8 * (k : Int)))) (some (.int .i64 (8 * (k : Int) + 8))) (some (.int .i64 (8 * (k : Int) + 8)))).run Tryd.prog w =
      .ok (.slice (some ⟨B, 8 * k, none⟩) 8 8) w := by
  rw [run_sliceAt_array_lhm (P := Tryd.prog) w 135 ⟨B, 0, none⟩ und135 .i64 .i64 .i64 _ _ _ (by omega) (by omega) (by omega) (by rw [len135]; omega), siz135]
  simp only [Result.andThen]
  have e1 : (8 * (k : Int)).toNat = 8 * k := by omega
  have e2 : (8 * (k : Int) + 8).toNat = 8 * k + 8 := by omega
  rw [e1, e2]
  unfold slicedAt Addr.add
  rw [if_neg (by omega)]
  by_cases h0 : k = 0
  · subst h0; simp
  · rw [if_neg (by omega)]; simp

set_option maxHeartbeats 2000000 in
theorem rows_any {w : World} {B : Nat} {M : List Int} (h : Blk w B (M.map I32) 135) (hl : M.length = 64) :
    Calls Tryd.prog 68 #[.pointer (some ⟨B, 0, none⟩)] w fun e w' => e = .returned (.tuple #[]) ∧ Blk w' B ((rowsTo M 8).map I32) 135 ∧ Fr (· = B) w w' := by
  have H := Lib.hid h
  have HL := Lib.hid hl
  clear h hl
  go_enter Tryd.func68, Tryd.ntmps68
  go_wp2
  go_loopw [12, 2, 3, 4, 5, 6, 7, 8, 9, 10, 11] (fun i _ _ _ _ _ _ _ _ _ _ wr => RowRel w B M i wr) (fun i _ _ _ _ _ _ _ _ _ _ _ => 8 - (intOf i).toNat)
  case atStart => exact ⟨0, by omega, rfl, H.out, Fr.refl _ _⟩
  case round =>
    obtain ⟨k, hk, rfl, hb', hf'⟩ := hrel
    have hl' : (rowsTo M k).length = 64 := by rw [length_rowsTo, HL.out]
    obtain ⟨M', hM⟩ : ∃ M', rowsTo M k = M' := ⟨_, rfl⟩
    rw [hM] at hb' hl'
    have HM := Lib.hid hM
    clear hM
    have HB := Lib.hid hb'
    have HF := Lib.hid hf'
    have HL' := Lib.hid hl'
    clear hb' hf' hl'
    by_cases hlt : k < 8
    · have cells : ∀ j, j < 64 → wr.cell? ⟨B, j, none⟩ = some (.int .i32 (M'.getD j 0)) := fun j hj => by
        rw [HB.out.cell, List.getElem?_map, List.getD_eq_getElem?_getD, List.getElem?_eq_getElem (by rw [HL'.out]; exact hj)]; rfl
      obtain ⟨x0, e0⟩ : ∃ x, M'.getD (8 * k) 0 = x := ⟨_, rfl⟩
      obtain ⟨x1, e1⟩ : ∃ x, M'.getD (8 * k + 1) 0 = x := ⟨_, rfl⟩
      obtain ⟨x2, e2⟩ : ∃ x, M'.getD (8 * k + 2) 0 = x := ⟨_, rfl⟩
      obtain ⟨x3, e3⟩ : ∃ x, M'.getD (8 * k + 3) 0 = x := ⟨_, rfl⟩
      obtain ⟨x4, e4⟩ : ∃ x, M'.getD (8 * k + 4) 0 = x := ⟨_, rfl⟩
      obtain ⟨x5, e5⟩ : ∃ x, M'.getD (8 * k + 5) 0 = x := ⟨_, rfl⟩
      obtain ⟨x6, e6⟩ : ∃ x, M'.getD (8 * k + 6) 0 = x := ⟨_, rfl⟩
      obtain ⟨x7, e7⟩ : ∃ x, M'.getD (8 * k + 7) 0 = x := ⟨_, rfl⟩
      have c0 := cells (8 * k) (by omega)
      have c1 := cells (8 * k + 1) (by omega)
      have c2 := cells (8 * k + 2) (by omega)
      have c3 := cells (8 * k + 3) (by omega)
      have c4 := cells (8 * k + 4) (by omega)
      have c5 := cells (8 * k + 5) (by omega)
      have c6 := cells (8 * k + 6) (by omega)
      have c7 := cells (8 * k + 7) (by omega)
      rw [e0] at c0; rw [e1] at c1; rw [e2] at c2; rw [e3] at c3; rw [e4] at c4; rw [e5] at c5; rw [e6] at c6; rw [e7] at c7
      have fz : ∀ j, wr.frozen? ⟨B, j, none⟩ = false := fun j => HB.out.frozen j
      have E : Hid (rowStep M' k = rowSet M' k x0 x1 x2 x3 x4 x5 x6 x7) := by unfold Hid rowStep; rw [e0, e1, e2, e3, e4, e5, e6, e7]
      have hsl := row_slice B k hlt wr
      clear cells e0 e1 e2 e3 e4 e5 e6 e7
      go_wp2_with (first | (go_at_call 70; (first | (with_reducible refine (c_cos3_14 _).mono ?_) | (with_reducible refine (c_sin3_14 _).mono ?_) | (with_reducible refine (c_cos1_14 _).mono ?_) | (with_reducible refine (c_sin1_14 _).mono ?_) | (with_reducible refine (c_sqrt2_cos6_14 _).mono ?_) | (with_reducible refine (c_sqrt2_sin6_14 _).mono ?_) | (with_reducible refine (c_sqrt2_14 _).mono ?_)); rintro e w1 ⟨rfl, rfl⟩) | (go_at_call 69; refine (dctBox_any _ _ _ _ _).mono ?_; rintro e w1 ⟨rfl, rfl⟩))
      go_roundw
      case rel =>
        refine ⟨k + 1, by omega, by go_num, ?_, row_fr HF.out _ _ _ _ _ _ _ _⟩
        rw [rowsTo_succ, HM.out, E.out]
        exact row_blk HB.out _ _ _ _ _ _ _ _
      case measure => simp [intOf]; omega
    · obtain rfl : k = 8 := by omega
      go_wp2
      go_end0
      rw [HM.out]
      exact ⟨rfl, HB.out, HF.out⟩

end Go.Proofs.YtpophkigihfjoaaDoor
