/- The walk of fdctCols. -/
import Derived.Test.YtpophkigihfjoaaDoorDct
import Derived.Lib.Hide
namespace Go.Proofs.YtpophkigihfjoaaDoor
open Go.RowKit
set_option maxRecDepth 100000

/-- Between two columns. -/
def ColRel (w : World) (B : Nat) (M : List Int) (i : Value) (wr : World) : Prop := ∃ k : Nat, k ≤ 8 ∧ i = .int .i64 k ∧ Blk wr B ((colsTo M k).map I32) 135 ∧ Fr (· = B) w wr

theorem col_blk {w : World} {B : Nat} {M : List Int} {k : Nat} (h : Blk w B (M.map I32) 135) (v0 v4 v2 v6 v1 v3 v5 v7 : Int) :
    Blk ((((((((w.setCell ⟨B, k, none⟩ (I32 v0)).setCell ⟨B, 32 + k, none⟩ (I32 v4)).setCell ⟨B, 16 + k, none⟩ (I32 v2)).setCell ⟨B, 48 + k, none⟩ (I32 v6)).setCell ⟨B, 8 + k, none⟩ (I32 v1)).setCell ⟨B, 24 + k, none⟩ (I32 v3)).setCell ⟨B, 40 + k, none⟩ (I32 v5)).setCell ⟨B, 56 + k, none⟩ (I32 v7)) B
      (((((((((M.set k v0).set (32 + k) v4).set (16 + k) v2).set (48 + k) v6).set (8 + k) v1).set (24 + k) v3).set (40 + k) v5).set (56 + k) v7).map I32) 135 := by
  simp only [List.map_set]
  exact (((((((h.set _ _).set _ _).set _ _).set _ _).set _ _).set _ _).set _ _).set _ _

theorem col_fr {w w0 : World} {B : Nat} {k : Nat} (h : Fr (· = B) w0 w) (v0 v4 v2 v6 v1 v3 v5 v7 : Value) :
    Fr (· = B) w0 ((((((((w.setCell ⟨B, k, none⟩ v0).setCell ⟨B, 32 + k, none⟩ v4).setCell ⟨B, 16 + k, none⟩ v2).setCell ⟨B, 48 + k, none⟩ v6).setCell ⟨B, 8 + k, none⟩ v1).setCell ⟨B, 24 + k, none⟩ v3).setCell ⟨B, 40 + k, none⟩ v5).setCell ⟨B, 56 + k, none⟩ v7) :=
  (((((((h.setCell (a := ⟨B, k, none⟩) (fun _ => rfl) _).setCell (a := ⟨B, 32 + k, none⟩) (fun _ => rfl) _).setCell (a := ⟨B, 16 + k, none⟩) (fun _ => rfl) _).setCell (a := ⟨B, 48 + k, none⟩) (fun _ => rfl) _).setCell (a := ⟨B, 8 + k, none⟩) (fun _ => rfl) _).setCell (a := ⟨B, 24 + k, none⟩) (fun _ => rfl) _).setCell (a := ⟨B, 40 + k, none⟩) (fun _ => rfl) _).setCell (a := ⟨B, 56 + k, none⟩) (fun _ => rfl) _

set_option maxHeartbeats 2000000 in
theorem cols_any {w : World} {B : Nat} {M : List Int} (h : Blk w B (M.map I32) 135) (hl : M.length = 64) :
    Calls Tryd.prog 67 #[.pointer (some ⟨B, 0, none⟩)] w fun e w' => e = .returned (.tuple #[]) ∧ Blk w' B ((colsTo M 8).map I32) 135 ∧ Fr (· = B) w w' := by
  have H := Lib.hid h
  have HL := Lib.hid hl
  clear h hl
  go_enter Tryd.func67, Tryd.ntmps67
  go_wp2
  go_loopw [11, 2, 3, 4, 5, 6, 7, 8, 9, 10] (fun i _ _ _ _ _ _ _ _ _ wr => ColRel w B M i wr) (fun i _ _ _ _ _ _ _ _ _ _ => 8 - (intOf i).toNat)
  case atStart => exact ⟨0, by omega, rfl, H.out, Fr.refl _ _⟩
  case round =>
    obtain ⟨k, hk, rfl, hb', hf'⟩ := hrel
    have hl' : (colsTo M k).length = 64 := by rw [length_colsTo, HL.out]
    obtain ⟨M', hM⟩ : ∃ M', colsTo M k = M' := ⟨_, rfl⟩
    rw [hM] at hb' hl'
    have HM := Lib.hid hM
    clear hM
    have HB := Lib.hid hb'
    have HF := Lib.hid hf'
    have HL' := Lib.hid hl'
    clear hb' hf' hl'
    by_cases hlt : k < 8
    · have cells : ∀ j, j < 64 → wr.cell? ⟨B, j, none⟩ = some (.int .i32 (M'.getD j 0)) := fun j hj => by
        rw [HB.out.cell, List.getElem?_map, List.getD_eq_getElem?_getD, List.getElem?_eq_getElem (by rw [HL'.out]; exact hj)]; rfl
      obtain ⟨x0, e0⟩ : ∃ x, M'.getD k 0 = x := ⟨_, rfl⟩
      obtain ⟨x1, e1⟩ : ∃ x, M'.getD (8 + k) 0 = x := ⟨_, rfl⟩
      obtain ⟨x2, e2⟩ : ∃ x, M'.getD (16 + k) 0 = x := ⟨_, rfl⟩
      obtain ⟨x3, e3⟩ : ∃ x, M'.getD (24 + k) 0 = x := ⟨_, rfl⟩
      obtain ⟨x4, e4⟩ : ∃ x, M'.getD (32 + k) 0 = x := ⟨_, rfl⟩
      obtain ⟨x5, e5⟩ : ∃ x, M'.getD (40 + k) 0 = x := ⟨_, rfl⟩
      obtain ⟨x6, e6⟩ : ∃ x, M'.getD (48 + k) 0 = x := ⟨_, rfl⟩
      obtain ⟨x7, e7⟩ : ∃ x, M'.getD (56 + k) 0 = x := ⟨_, rfl⟩
      have c0 := cells k (by omega)
      have c1 := cells (8 + k) (by omega)
      have c2 := cells (16 + k) (by omega)
      have c3 := cells (24 + k) (by omega)
      have c4 := cells (32 + k) (by omega)
      have c5 := cells (40 + k) (by omega)
      have c6 := cells (48 + k) (by omega)
      have c7 := cells (56 + k) (by omega)
      rw [e0] at c0; rw [e1] at c1; rw [e2] at c2; rw [e3] at c3; rw [e4] at c4; rw [e5] at c5; rw [e6] at c6; rw [e7] at c7
      have fz : ∀ j, wr.frozen? ⟨B, j, none⟩ = false := fun j => HB.out.frozen j
      have E : Hid (colStep M' k = colSet M' k x0 x1 x2 x3 x4 x5 x6 x7) := by unfold Hid colStep; rw [e0, e1, e2, e3, e4, e5, e6, e7]
      clear cells e0 e1 e2 e3 e4 e5 e6 e7
      go_wp2_with (first | (go_at_call 70; (first | (with_reducible refine (c_cos3_18 _).mono ?_) | (with_reducible refine (c_sin3_18 _).mono ?_) | (with_reducible refine (c_cos1_18 _).mono ?_) | (with_reducible refine (c_sin1_18 _).mono ?_) | (with_reducible refine (c_sqrt2_cos6_18 _).mono ?_) | (with_reducible refine (c_sqrt2_sin6_18 _).mono ?_) | (with_reducible refine (c_sqrt2_12 _).mono ?_)); rintro e w1 ⟨rfl, rfl⟩) | (go_at_call 69; refine (dctBox_any _ _ _ _ _).mono ?_; rintro e w1 ⟨rfl, rfl⟩))
      go_roundw
      case rel =>
        refine ⟨k + 1, by omega, by go_num, ?_, col_fr HF.out _ _ _ _ _ _ _ _⟩
        rw [colsTo_succ, HM.out, E.out]
        exact col_blk HB.out _ _ _ _ _ _ _ _
      case measure => simp [intOf]; omega
    · obtain rfl : k = 8 := by omega
      go_wp2
      go_end0
      rw [HM.out]
      exact ⟨rfl, HB.out, HF.out⟩

end Go.Proofs.YtpophkigihfjoaaDoor
