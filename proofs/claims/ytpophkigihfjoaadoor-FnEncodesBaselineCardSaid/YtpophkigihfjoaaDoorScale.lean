/- The walk of scale. -/
import Derived.Test.YtpophkigihfjoaaDoorPix
namespace Go.Proofs.YtpophkigihfjoaaDoor
open Go.RowKit
set_option maxRecDepth 100000

/-- Step t of the scaling (t = 16 i + 4 y + x): which number is set, and to what. -/
def scaleOff (i : Nat) : Nat := i / 2 * 32 + i % 2 * 4
def scaleVal (S : List Int) (i y x : Nat) : Int :=
  (S.getD (i * 64 + (16 * y + 2 * x)) 0 + S.getD (i * 64 + (16 * y + 2 * x + 1)) 0 + S.getD (i * 64 + (16 * y + 2 * x + 8)) 0 + S.getD (i * 64 + (16 * y + 2 * x + 9)) 0 + 2) / 4
def scaleTo (S : List Int) (M : List Int) : Nat → List Int
  | 0 => M
  | n + 1 => (scaleTo S M n).set (8 * (n / 4 % 4) + n % 4 + scaleOff (n / 16)) (scaleVal S (n / 16) (n / 4 % 4) (n % 4))

theorem length_scaleTo (S M : List Int) (n : Nat) : (scaleTo S M n).length = M.length := by
  induction n with
  | zero => rfl
  | succ n ih => simp [scaleTo, ih]

theorem scaleTo_at (S M : List Int) (n i y x : Nat) (h : n = 16 * i + 4 * y + x) (hy : y < 4) (hx : x < 4) : scaleTo S M (n + 1) = (scaleTo S M n).set (8 * y + x + scaleOff i) (scaleVal S i y x) := by
  have e1 : n / 4 % 4 = y := by omega
  have e2 : n % 4 = x := by omega
  have e3 : n / 16 = i := by omega
  rw [scaleTo, e1, e2, e3]

theorem scale_bits (k : Nat) (hk : k < 4) : bits BinOp.or IntKind.i64 (wrap64 (bits BinOp.and IntKind.i64 (k : Int) 2 * 16)) (wrap64 (bits BinOp.and IntKind.i64 (k : Int) 1 * 4)) = (scaleOff k : Nat) := by
  rcases (by omega : k = 0 ∨ k = 1 ∨ k = 2 ∨ k = 3) with rfl | rfl | rfl | rfl <;> decide +kernel

def SclRel (w : World) (B : Nat) (S M : List Int) (n : Nat) (wr : World) : Prop := Blk wr B ((scaleTo S M n).map I32) 135 ∧ Fr (· = B) w wr
def SclI (w : World) (B : Nat) (S M : List Int) (v : Value) (wr : World) : Prop := ∃ k : Nat, k ≤ 4 ∧ v = .int .i64 k ∧ SclRel w B S M (16 * k) wr
def SclY (w : World) (B : Nat) (S M : List Int) (i : Nat) (v : Value) (wr : World) : Prop := ∃ k : Nat, k ≤ 4 ∧ v = .int .i64 k ∧ SclRel w B S M (16 * i + 4 * k) wr
def SclX (w : World) (B : Nat) (S M : List Int) (i y : Nat) (v : Value) (wr : World) : Prop := ∃ k : Nat, k ≤ 4 ∧ v = .int .i64 k ∧ SclRel w B S M (16 * i + 4 * y + k) wr

set_option maxHeartbeats 1000000 in
theorem scale_any {w : World} {B CB : Nat} {S M : List Int} (hb : Blk w B (M.map I32) 135) (hc : Blk w CB (S.map I32) 136) (hM : M.length = 64) (hS : S.length = 256) (hne : CB ≠ B) (hby : ∀ i, 0 ≤ S.getD i 0 ∧ S.getD i 0 ≤ 255) :
    Calls Tryd.prog 52 #[.pointer (some ⟨B, 0, none⟩), .pointer (some ⟨CB, 0, none⟩)] w fun e w' => e = .returned (.tuple #[]) ∧ Blk w' B ((scaleTo S M 64).map I32) 135 ∧ Fr (· = B) w w' := by
  have HB := hu hb
  have HC := hu hc
  have HM := hu hM
  have HS := hu hS
  have HBY := hu hby
  clear hb hc hM hS hby
  go_enter Tryd.func52, Tryd.ntmps52
  go_wp2
  go_loopw [4, 5, 6, 7, 8, 9] (fun i _ _ _ _ _ wr => SclI w B S M i wr) (fun i _ _ _ _ _ _ => 4 - (intOf i).toNat)
  case atStart => exact ⟨0, by omega, rfl, HB.out (), Fr.refl _ _⟩
  case round =>
    obtain ⟨i, hi, rfl, hR⟩ := hrel
    have HR := hu hR
    clear hR
    by_cases hlt : i < 4
    · have hsb := scale_bits i hlt
      have hso : scaleOff i ≤ 36 := by unfold scaleOff; omega
      have hdi : decide ((i : Int) < 4) = true := by simp; omega
      go_wp2
      clear hsb
      go_loopw [6, 7, 8, 9] (fun y _ _ _ wr => SclY w B S M i y wr) (fun y _ _ _ _ => 4 - (intOf y).toNat)
      case atStart => exact ⟨0, by omega, rfl, HR.out ()⟩
      case round =>
        obtain ⟨y, hy, rfl, hR2⟩ := hrel
        have HR2 := hu hR2
        clear hR2
        by_cases hlt2 : y < 4
        · have hdy : decide ((y : Int) < 4) = true := by simp; omega
          go_wp2
          go_loopw [7, 8, 9] (fun x _ _ wr => SclX w B S M i y x wr) (fun x _ _ _ => 4 - (intOf x).toNat)
          case atStart => exact ⟨0, by omega, rfl, HR2.out ()⟩
          case round =>
            obtain ⟨x, hx, rfl, hR3⟩ := hrel
            have HR3 := hu hR3
            clear hR3
            by_cases hlt3 : x < 4
            · have hC := (HR3.out ()).2.blk (HC.out ()) hne
              have hl := HS.out ()
              have q0 := int_cells hC (i * 64 + (16 * y + 2 * x)) (by omega)
              have q1 := int_cells hC (i * 64 + (16 * y + 2 * x + 1)) (by omega)
              have q2 := int_cells hC (i * 64 + (16 * y + 2 * x + 8)) (by omega)
              have q3 := int_cells hC (i * 64 + (16 * y + 2 * x + 9)) (by omega)
              obtain ⟨a0, a1⟩ := HBY.out () (i * 64 + (16 * y + 2 * x))
              obtain ⟨b0, b1⟩ := HBY.out () (i * 64 + (16 * y + 2 * x + 1))
              obtain ⟨c0, c1⟩ := HBY.out () (i * 64 + (16 * y + 2 * x + 8))
              obtain ⟨d0, d1⟩ := HBY.out () (i * 64 + (16 * y + 2 * x + 9))
              have hv : scaleVal S i y x = (S.getD (i * 64 + (16 * y + 2 * x)) 0 + S.getD (i * 64 + (16 * y + 2 * x + 1)) 0 + S.getD (i * 64 + (16 * y + 2 * x + 8)) 0 + S.getD (i * 64 + (16 * y + 2 * x + 9)) 0 + 2) / 4 := rfl
              obtain ⟨za, hza⟩ : ∃ z, S.getD (i * 64 + (16 * y + 2 * x)) 0 = z := ⟨_, rfl⟩
              obtain ⟨zb, hzb⟩ : ∃ z, S.getD (i * 64 + (16 * y + 2 * x + 1)) 0 = z := ⟨_, rfl⟩
              obtain ⟨zc, hzc⟩ : ∃ z, S.getD (i * 64 + (16 * y + 2 * x + 8)) 0 = z := ⟨_, rfl⟩
              obtain ⟨zd, hzd⟩ : ∃ z, S.getD (i * 64 + (16 * y + 2 * x + 9)) 0 = z := ⟨_, rfl⟩
              rw [hza] at q0 a0 a1 hv
              rw [hzb] at q1 b0 b1 hv
              rw [hzc] at q2 c0 c1 hv
              rw [hzd] at q3 d0 d1 hv
              have HV := hu hv
              clear hC hl hza hzb hzc hzd hv
              go_upto_region 11 with (fail)
              go_cut [9] (fun s wx => s = .int .i32 (za + zb + zc + zd) ∧ ∃ m, wx = wr.drewN m)
              case first =>
                go_quiet (fail)
                go_wp2
                go_meet
                exact ⟨rfl, _, rfl⟩
              case rest =>
                obtain ⟨rfl, m, rfl⟩ := hcut
                have HR4 := hu (show SclRel w B S M (16 * i + 4 * y + x) (wr.drewN m) from ⟨(HR3.out ()).1, (HR3.out ()).2.drewN m⟩)
                have sB := int_cells (HR4.out ()).1 (8 * y + x + scaleOff i) (by rw [length_scaleTo, HM.out ()]; omega)
                have fB := fun j => (HR4.out ()).1.frozen j
                obtain ⟨w3, hw3⟩ : ∃ z : World, wr.drewN m = z := ⟨_, rfl⟩
                have HQ3 := HR4.out ()
                rw [hw3] at HQ3 sB fB ⊢
                have HQ4 := hu HQ3
                clear HQ3 hw3 q0 q1 q2 q3
                go_wp2
                go_roundw
                case rel =>
                  have hrel2 : SclX w B S M i y (.int .i64 ((x : Int) + 1)) (w3.setCell ⟨B, 8 * y + x + scaleOff i, none⟩ (.int .i32 ((za + zb + zc + zd + 2) / 4))) := by
                    refine ⟨x + 1, by omega, by go_num, ?_, (HQ4.out ()).2.setCell (a := ⟨B, 8 * y + x + scaleOff i, none⟩) (fun _ => rfl) _⟩
                    have h1 := (HQ4.out ()).1.set (8 * y + x + scaleOff i) (I32 ((za + zb + zc + zd + 2) / 4))
                    rw [← List.map_set, ← HV.out ()] at h1
                    have e : scaleTo S M (16 * i + 4 * y + (x + 1)) = (scaleTo S M (16 * i + 4 * y + x)).set (8 * y + x + scaleOff i) (scaleVal S i y x) := by
                      exact scaleTo_at S M (16 * i + 4 * y + x) i y x rfl hlt2 hlt3
                    rw [e]
                    rw [HV.out ()] at h1 ⊢
                    exact h1
                  first | exact hrel2 | ((repeat apply Exists.intro); exact ⟨hrel2, rfl⟩)
                case measure => simp [intOf]; omega
            · obtain rfl : x = 4 := by omega
              have HR5 := hu (show SclRel w B S M (16 * i + 4 * (y + 1)) wr from HR3.out ())
              go_wp2
              go_roundw
              case rel =>
                have hrel2 : SclY w B S M i (.int .i64 ((y : Int) + 1)) wr := ⟨y + 1, by omega, by go_num, HR5.out ()⟩
                first | exact hrel2 | ((repeat apply Exists.intro); exact ⟨hrel2, rfl⟩)
              case measure => simp [intOf]; omega
        · obtain rfl : y = 4 := by omega
          have HR5 := hu (show SclRel w B S M (16 * (i + 1)) wr from HR2.out ())
          go_wp2
          go_roundw
          case rel =>
            have hrel2 : SclI w B S M (.int .i64 ((i : Int) + 1)) wr := ⟨i + 1, by omega, by go_num, HR5.out ()⟩
            first | exact hrel2 | ((repeat apply Exists.intro); exact ⟨hrel2, rfl⟩)
          case measure => simp [intOf]; omega
    · obtain rfl : i = 4 := by omega
      go_wp2
      go_end0
      exact ⟨rfl, (HR.out ()).1, (HR.out ()).2⟩

end Go.Proofs.YtpophkigihfjoaaDoor
