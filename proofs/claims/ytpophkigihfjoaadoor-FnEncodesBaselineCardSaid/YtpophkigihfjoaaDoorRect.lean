/- The walks of Dx, Dy, Size and Rect. -/
import Derived.Test.YtpophkigihfjoaaDoorWr
namespace Go.Proofs.YtpophkigihfjoaaDoor
open Go.RowKit Go.Great
set_option maxRecDepth 100000

theorem dx_any (w : World) (W H : Nat) (hW : W ≤ 1000) (hH : H ≤ 1000) : Calls Tryd.prog 20 #[.agg #[.int .i64 0, .int .i64 0, .int .i64 W, .int .i64 H]] w fun e w' => e = .returned (.int .i64 W) ∧
    w' = w.alloc (.cells #[.int .i64 0, .int .i64 0, .int .i64 W, .int .i64 H] 46) := by
  go_enter Tryd.func20, Tryd.ntmps20
  go_wp2
  go_ret
  exact ⟨rfl, rfl⟩

theorem dy_any (w : World) (W H : Nat) (hW : W ≤ 1000) (hH : H ≤ 1000) : Calls Tryd.prog 21 #[.agg #[.int .i64 0, .int .i64 0, .int .i64 W, .int .i64 H]] w fun e w' => e = .returned (.int .i64 H) ∧
    w' = w.alloc (.cells #[.int .i64 0, .int .i64 0, .int .i64 W, .int .i64 H] 46) := by
  go_enter Tryd.func21, Tryd.ntmps21
  go_wp2
  go_ret
  exact ⟨rfl, rfl⟩

theorem size_any (w : World) (W H : Nat) (hW : W ≤ 1000) (hH : H ≤ 1000) : Calls Tryd.prog 28 #[.agg #[.int .i64 0, .int .i64 0, .int .i64 W, .int .i64 H]] w fun e w' => e = .returned (.agg #[.int .i64 W, .int .i64 H]) ∧
    Fr (fun _ => False) w w' := by
  go_enter Tryd.func28, Tryd.ntmps28
  go_wp2
  refine bodyPost_ret (v := .agg #[.int .i64 W, .int .i64 H]) (by simp [results, Tryd.results28, go_sem]) rfl ⟨rfl, ?_⟩
  exact ((Fr.refl _ w).alloc _).alloc _

theorem rect_any (w : World) (W H : Nat) (hW : W ≤ 1000) (hH : H ≤ 1000) : Calls Tryd.prog 10 #[.int .i64 0, .int .i64 0, .int .i64 W, .int .i64 H] w fun e w' => e = .returned (.agg #[.int .i64 0, .int .i64 0, .int .i64 W, .int .i64 H]) ∧
    Fr (fun _ => False) w w' := by
  have d1 : decide ((0 : Int) > (W : Int)) = false := by simp
  have d2 : decide ((0 : Int) > (H : Int)) = false := by simp
  go_enter Tryd.func10, Tryd.ntmps10
  go_wp2
  refine bodyPost_ret (v := .agg #[.int .i64 0, .int .i64 0, .int .i64 W, .int .i64 H]) (by simp [results, Tryd.results10, go_sem]) rfl ⟨rfl, ?_⟩
  exact (Fr.refl _ w).alloc _

theorem and32 (n : Nat) (h : n < 4294967296) : bits BinOp.and IntKind.u64 (n : Int) 4294967295 = n := by
  show IntKind.u64.wrap ((BitVec.ofInt 64 (n : Int) &&& BitVec.ofInt 64 (4294967295 : Int)).toNat : Int) = _
  have e1 : (BitVec.ofInt 64 (n : Int)).toNat = n := by
    rw [BitVec.toNat_ofInt]; omega
  have e2 : (BitVec.ofInt 64 (4294967295 : Int)).toNat = 2 ^ 32 - 1 := by decide
  rw [BitVec.toNat_and, e1, e2, Nat.and_two_pow_sub_one_eq_mod, Nat.mod_eq_of_lt (by omega)]
  simp only [IntKind.wrap, IntKind.bits, IntKind.signed] at *
  simp
  omega

/-- The full product of two small numbers. -/
theorem mul_any (w : World) (x y : Nat) (hx : x ≤ 10000) (hy : y ≤ 10000) : Calls Tryd.prog 55 #[.int .u64 x, .int .u64 y] w fun e w' => e = .returned (.tuple #[.int .u64 0, .int .u64 ((x : Int) * y)]) ∧ w' = w := by
  have ax := and32 x (by omega)
  have ay := and32 y (by omega)
  have hb : x * y ≤ 10000 * 10000 := Nat.mul_le_mul hx hy
  obtain ⟨z, hz⟩ : ∃ z, x * y = z := ⟨_, rfl⟩
  have hz2 : (x : Int) * (y : Int) = (z : Int) := by rw [← hz, Int.natCast_mul]
  rw [hz] at hb
  have az := and32 z (by omega)
  rw [hz2]
  have dx : (x : Int) / 4294967296 = 0 := by omega
  have dy : (y : Int) / 4294967296 = 0 := by omega
  have dz : (z : Int) / 4294967296 = 0 := by omega
  have a0 : bits BinOp.and IntKind.u64 0 4294967295 = 0 := by decide +kernel
  go_enter Tryd.func55, Tryd.ntmps55
  go_wp2
  refine bodyPost_ret (results_tmp2 rfl _ _ _) rfl ⟨?_, rfl⟩
  simp [dx, dy, dz, a0, IntKind.wrap, IntKind.bits, IntKind.signed]

/-- The product of three small numbers, none below zero. -/
theorem mul3_any (w : World) (x y z : Nat) (hx : x ≤ 40) (hy : y ≤ 40) (hz : z ≤ 40) : Calls Tryd.prog 38 #[.int .i64 x, .int .i64 y, .int .i64 z] w fun e w' => e = .returned (.int .i64 ((x * y * z : Nat) : Int)) ∧ w' = w := by
  have hb : x * y ≤ 40 * 40 := Nat.mul_le_mul hx hy
  have hb2 : x * y * z ≤ 40 * 40 * 40 := Nat.mul_le_mul hb hz
  have m1 := mul_any w x y (by omega) (by omega)
  have m2 := mul_any w (x * y) z (by omega) (by omega)
  obtain ⟨p, hp⟩ : ∃ p, x * y = p := ⟨_, rfl⟩
  obtain ⟨r, hr⟩ : ∃ r, x * y * z = r := ⟨_, rfl⟩
  rw [← Int.natCast_mul, hp] at m1
  rw [← Int.natCast_mul, hr, hp] at m2
  rw [hr]
  rw [hr] at hb2
  rw [hp] at hb
  have e0 : decide ((0 : Int) = 0) = true := by decide
  have c1 : decide ((x : Int) < 0) = false := by simp
  have c2 : decide ((y : Int) < 0) = false := by simp
  have c3 : decide ((z : Int) < 0) = false := by simp
  have c4 : decide ((r : Int) < 0) = false := by simp
  go_enter Tryd.func38, Tryd.ntmps38
  go_wp2_with fail
  refine m1.mono ?_
  rintro e w1 ⟨rfl, rfl⟩
  go_wp2_with fail
  refine m2.mono ?_
  rintro e w1 ⟨rfl, rfl⟩
  go_wp2
  go_ret
  exact ⟨rfl, rfl⟩

theorem pixlen_any (w : World) (W H : Nat) (s : ByteArray) (hW : W ≤ 40) (hH : H ≤ 40) : Calls Tryd.prog 19 #[.int .i64 4, .agg #[.int .i64 0, .int .i64 0, .int .i64 W, .int .i64 H], .string s] w fun e w' => e = .returned (.int .i64 ((4 * W * H : Nat) : Int)) ∧
    Fr (fun _ => False) w w' := by
  have hb2 : 4 * W ≤ 160 := by omega
  have hb : 4 * W * H ≤ 160 * 40 := Nat.mul_le_mul hb2 hH
  have m3 := fun w => mul3_any w 4 W H (by omega) hW hH
  obtain ⟨n, hn⟩ : ∃ n, 4 * W * H = n := ⟨_, rfl⟩
  rw [hn] at hb ⊢
  simp only [hn] at m3
  have c4 : decide ((n : Int) < 0) = false := by simp
  clear hn hb2
  go_enter Tryd.func19, Tryd.ntmps19
  go_upto_region 1 with (fail)
  have hB := Blk.newA w #[.int .i64 0, .int .i64 0, .int .i64 W, .int .i64 H] 46
  have hF := (Fr.refl (fun _ => False) w).alloc (.cells #[.int .i64 0, .int .i64 0, .int .i64 W, .int .i64 H] 46)
  obtain ⟨B, hBe⟩ : ∃ z, w.heap.size = z := ⟨_, rfl⟩
  obtain ⟨wb, hwb⟩ : ∃ z, w.alloc (.cells #[.int .i64 0, .int .i64 0, .int .i64 W, .int .i64 H] 46) = z := ⟨_, rfl⟩
  rw [hwb] at hB hF
  rw [hBe] at hB
  simp only [hwb, hBe]
  have c0 := hB.cellv 0 rfl
  have c1 := hB.cellv 1 rfl
  have c2 := hB.cellv 2 rfl
  have c3 := hB.cellv 3 rfl
  have lB := hB.lt
  have HF := hu hF
  clear hB hF hwb hBe
  go_region_held3 (fun w' => w'.cell? ⟨B, 0, none⟩ = some (.int .i64 0) ∧ w'.cell? ⟨B, 1, none⟩ = some (.int .i64 0) ∧ w'.cell? ⟨B, 2, none⟩ = some (.int .i64 W) ∧ w'.cell? ⟨B, 3, none⟩ = some (.int .i64 H)) (first | exact ⟨c0, c1, c2, c3⟩ | go_keep)
    (first
      | (go_at_call 20; refine (dx_any _ W H (by omega) (by omega)).mono ?_; rintro e w1 ⟨rfl, rfl⟩)
      | (go_at_call 21; refine (dy_any _ W H (by omega) (by omega)).mono ?_; rintro e w1 ⟨rfl, rfl⟩)
      | (go_at_call 38; refine (m3 _).mono ?_; rintro e w1 ⟨rfl, rfl⟩))
  go_wp2
  go_ret
  exact ⟨rfl, (((HF.out ()).alloc _).alloc _).drew⟩
end Go.Proofs.YtpophkigihfjoaaDoor
