/- The law of the transform: of bytes it makes numbers that fit the codes (plain). -/
import Derived.Test.YtpophkigihfjoaaDoorSos
namespace Go.Proofs.YtpophkigihfjoaaDoor
open Go.RowKit
set_option maxRecDepth 100000

theorem w32 (n : Int) (h1 : -2147483648 ≤ n) (h2 : n ≤ 2147483647) : wrap32 n = n := IntWalk.wrap32_in n ⟨h1, h2⟩

theorem cx3A (x0 x1 : Int) (h0 : -255 ≤ x0) (h1 : x0 ≤ 255) (h2 : -255 ≤ x1) (h3 : x1 ≤ 255) : boxA x0 x1 217965 145639 = 217965 * x0 + 145639 * x1 := by
  unfold boxA
  rw [w32 (x0 + x1) (by omega) (by omega), w32 (217965 * (x0 + x1)) (by omega) (by omega), w32 (145639 - 217965) (by omega) (by omega), w32 ((145639 - 217965) * x1) (by omega) (by omega), w32 _ (by omega) (by omega)]
  omega
theorem cx3B (x0 x1 : Int) (h0 : -255 ≤ x0) (h1 : x0 ≤ 255) (h2 : -255 ≤ x1) (h3 : x1 ≤ 255) : boxB x0 x1 217965 145639 = 217965 * x1 - 145639 * x0 := by
  unfold boxB
  rw [w32 (x0 + x1) (by omega) (by omega), w32 (217965 * (x0 + x1)) (by omega) (by omega), w32 (217965 + 145639) (by omega) (by omega), w32 ((217965 + 145639) * x0) (by omega) (by omega), w32 _ (by omega) (by omega)]
  omega

theorem cx1A (x0 x1 : Int) (h0 : -255 ≤ x0) (h1 : x0 ≤ 255) (h2 : -255 ≤ x1) (h3 : x1 ≤ 255) : boxA x0 x1 257107 51142 = 257107 * x0 + 51142 * x1 := by
  unfold boxA
  rw [w32 (x0 + x1) (by omega) (by omega), w32 (257107 * (x0 + x1)) (by omega) (by omega), w32 (51142 - 257107) (by omega) (by omega), w32 ((51142 - 257107) * x1) (by omega) (by omega), w32 _ (by omega) (by omega)]
  omega
theorem cx1B (x0 x1 : Int) (h0 : -255 ≤ x0) (h1 : x0 ≤ 255) (h2 : -255 ≤ x1) (h3 : x1 ≤ 255) : boxB x0 x1 257107 51142 = 257107 * x1 - 51142 * x0 := by
  unfold boxB
  rw [w32 (x0 + x1) (by omega) (by omega), w32 (257107 * (x0 + x1)) (by omega) (by omega), w32 (257107 + 51142) (by omega) (by omega), w32 ((257107 + 51142) * x0) (by omega) (by omega), w32 _ (by omega) (by omega)]
  omega

theorem cx6A (x0 x1 : Int) (h0 : -510 ≤ x0) (h1 : x0 ≤ 510) (h2 : -510 ≤ x1) (h3 : x1 ≤ 510) : boxA x0 x1 141871 342508 = 141871 * x0 + 342508 * x1 := by
  unfold boxA
  rw [w32 (x0 + x1) (by omega) (by omega), w32 (141871 * (x0 + x1)) (by omega) (by omega), w32 (342508 - 141871) (by omega) (by omega), w32 ((342508 - 141871) * x1) (by omega) (by omega), w32 _ (by omega) (by omega)]
  omega
theorem cx6B (x0 x1 : Int) (h0 : -510 ≤ x0) (h1 : x0 ≤ 510) (h2 : -510 ≤ x1) (h3 : x1 ≤ 510) : boxB x0 x1 141871 342508 = 141871 * x1 - 342508 * x0 := by
  unfold boxB
  rw [w32 (x0 + x1) (by omega) (by omega), w32 (141871 * (x0 + x1)) (by omega) (by omega), w32 (141871 + 342508) (by omega) (by omega), w32 ((141871 + 342508) * x0) (by omega) (by omega), w32 _ (by omega) (by omega)]
  omega

theorem rx3A (x0 x1 : Int) (h0 : -32740 ≤ x0) (h1 : x0 ≤ 32740) (h2 : -32740 ≤ x1) (h3 : x1 ≤ 32740) : boxA x0 x1 13623 9102 = 13623 * x0 + 9102 * x1 := by
  unfold boxA
  rw [w32 (x0 + x1) (by omega) (by omega), w32 (13623 * (x0 + x1)) (by omega) (by omega), w32 (9102 - 13623) (by omega) (by omega), w32 ((9102 - 13623) * x1) (by omega) (by omega), w32 _ (by omega) (by omega)]
  omega
theorem rx3B (x0 x1 : Int) (h0 : -32740 ≤ x0) (h1 : x0 ≤ 32740) (h2 : -32740 ≤ x1) (h3 : x1 ≤ 32740) : boxB x0 x1 13623 9102 = 13623 * x1 - 9102 * x0 := by
  unfold boxB
  rw [w32 (x0 + x1) (by omega) (by omega), w32 (13623 * (x0 + x1)) (by omega) (by omega), w32 (13623 + 9102) (by omega) (by omega), w32 ((13623 + 9102) * x0) (by omega) (by omega), w32 _ (by omega) (by omega)]
  omega

theorem rx1A (x0 x1 : Int) (h0 : -32740 ≤ x0) (h1 : x0 ≤ 32740) (h2 : -32740 ≤ x1) (h3 : x1 ≤ 32740) : boxA x0 x1 16069 3196 = 16069 * x0 + 3196 * x1 := by
  unfold boxA
  rw [w32 (x0 + x1) (by omega) (by omega), w32 (16069 * (x0 + x1)) (by omega) (by omega), w32 (3196 - 16069) (by omega) (by omega), w32 ((3196 - 16069) * x1) (by omega) (by omega), w32 _ (by omega) (by omega)]
  omega
theorem rx1B (x0 x1 : Int) (h0 : -32740 ≤ x0) (h1 : x0 ≤ 32740) (h2 : -32740 ≤ x1) (h3 : x1 ≤ 32740) : boxB x0 x1 16069 3196 = 16069 * x1 - 3196 * x0 := by
  unfold boxB
  rw [w32 (x0 + x1) (by omega) (by omega), w32 (16069 * (x0 + x1)) (by omega) (by omega), w32 (16069 + 3196) (by omega) (by omega), w32 ((16069 + 3196) * x0) (by omega) (by omega), w32 _ (by omega) (by omega)]
  omega

theorem rx6A (x0 x1 : Int) (h0 : -65480 ≤ x0) (h1 : x0 ≤ 65480) (h2 : -65480 ≤ x1) (h3 : x1 ≤ 65480) : boxA x0 x1 8867 21407 = 8867 * x0 + 21407 * x1 := by
  unfold boxA
  rw [w32 (x0 + x1) (by omega) (by omega), w32 (8867 * (x0 + x1)) (by omega) (by omega), w32 (21407 - 8867) (by omega) (by omega), w32 ((21407 - 8867) * x1) (by omega) (by omega), w32 _ (by omega) (by omega)]
  omega
theorem rx6B (x0 x1 : Int) (h0 : -65480 ≤ x0) (h1 : x0 ≤ 65480) (h2 : -65480 ≤ x1) (h3 : x1 ≤ 65480) : boxB x0 x1 8867 21407 = 8867 * x1 - 21407 * x0 := by
  unfold boxB
  rw [w32 (x0 + x1) (by omega) (by omega), w32 (8867 * (x0 + x1)) (by omega) (by omega), w32 (8867 + 21407) (by omega) (by omega), w32 ((8867 + 21407) * x0) (by omega) (by omega), w32 _ (by omega) (by omega)]
  omega

theorem col0_bd (x0 x1 x2 x3 x4 x5 x6 x7 : Int) (l0 : 0 ≤ x0) (u0 : x0 ≤ 255) (l1 : 0 ≤ x1) (u1 : x1 ≤ 255) (l2 : 0 ≤ x2) (u2 : x2 ≤ 255) (l3 : 0 ≤ x3) (u3 : x3 ≤ 255) (l4 : 0 ≤ x4) (u4 : x4 ≤ 255) (l5 : 0 ≤ x5) (u5 : x5 ≤ 255) (l6 : 0 ≤ x6) (u6 : x6 ≤ 255) (l7 : 0 ≤ x7) (u7 : x7 ≤ 255) : -268435456 ≤ col0 x0 x1 x2 x3 x4 x5 x6 x7 ∧ col0 x0 x1 x2 x3 x4 x5 x6 x7 ≤ 266338304 := by
  have p07 : wrap32 (x0 + x7) = x0 + x7 := w32 _ (by omega) (by omega)
  have p34 : wrap32 (x3 + x4) = x3 + x4 := w32 _ (by omega) (by omega)
  have p16 : wrap32 (x1 + x6) = x1 + x6 := w32 _ (by omega) (by omega)
  have p25 : wrap32 (x2 + x5) = x2 + x5 := w32 _ (by omega) (by omega)
  unfold col0
  rw [p07, p34, p16, p25]
  rw [w32 (x0 + x7 + (x3 + x4)) (by omega) (by omega), w32 (x1 + x6 + (x2 + x5)) (by omega) (by omega), w32 (x0 + x7 + (x3 + x4) + (x1 + x6 + (x2 + x5))) (by omega) (by omega), w32 (x0 + x7 + (x3 + x4) + (x1 + x6 + (x2 + x5)) - 1024) (by omega) (by omega), w32 _ (by omega) (by omega)]
  omega
theorem col4_bd (x0 x1 x2 x3 x4 x5 x6 x7 : Int) (l0 : 0 ≤ x0) (u0 : x0 ≤ 255) (l1 : 0 ≤ x1) (u1 : x1 ≤ 255) (l2 : 0 ≤ x2) (u2 : x2 ≤ 255) (l3 : 0 ≤ x3) (u3 : x3 ≤ 255) (l4 : 0 ≤ x4) (u4 : x4 ≤ 255) (l5 : 0 ≤ x5) (u5 : x5 ≤ 255) (l6 : 0 ≤ x6) (u6 : x6 ≤ 255) (l7 : 0 ≤ x7) (u7 : x7 ≤ 255) : -267649024 ≤ col4 x0 x1 x2 x3 x4 x5 x6 x7 ∧ col4 x0 x1 x2 x3 x4 x5 x6 x7 ≤ 267649024 := by
  have p07 : wrap32 (x0 + x7) = x0 + x7 := w32 _ (by omega) (by omega)
  have p34 : wrap32 (x3 + x4) = x3 + x4 := w32 _ (by omega) (by omega)
  have p16 : wrap32 (x1 + x6) = x1 + x6 := w32 _ (by omega) (by omega)
  have p25 : wrap32 (x2 + x5) = x2 + x5 := w32 _ (by omega) (by omega)
  unfold col4
  rw [p07, p34, p16, p25]
  rw [w32 (x0 + x7 + (x3 + x4)) (by omega) (by omega), w32 (x1 + x6 + (x2 + x5)) (by omega) (by omega), w32 (x0 + x7 + (x3 + x4) - (x1 + x6 + (x2 + x5))) (by omega) (by omega), w32 _ (by omega) (by omega)]
  omega

theorem col2_bd (x0 x1 x2 x3 x4 x5 x6 x7 : Int) (l0 : 0 ≤ x0) (u0 : x0 ≤ 255) (l1 : 0 ≤ x1) (u1 : x1 ≤ 255) (l2 : 0 ≤ x2) (u2 : x2 ≤ 255) (l3 : 0 ≤ x3) (u3 : x3 ≤ 255) (l4 : 0 ≤ x4) (u4 : x4 ≤ 255) (l5 : 0 ≤ x5) (u5 : x5 ≤ 255) (l6 : 0 ≤ x6) (u6 : x6 ≤ 255) (l7 : 0 ≤ x7) (u7 : x7 ≤ 255) : -267649024 ≤ col2 x0 x1 x2 x3 x4 x5 x6 x7 ∧ col2 x0 x1 x2 x3 x4 x5 x6 x7 ≤ 267649024 := by
  have p07 : wrap32 (x0 + x7) = x0 + x7 := w32 _ (by omega) (by omega)
  have p34 : wrap32 (x3 + x4) = x3 + x4 := w32 _ (by omega) (by omega)
  have p16 : wrap32 (x1 + x6) = x1 + x6 := w32 _ (by omega) (by omega)
  have p25 : wrap32 (x2 + x5) = x2 + x5 := w32 _ (by omega) (by omega)
  unfold col2
  rw [p07, p34, p16, p25]
  rw [w32 (x1 + x6 - (x2 + x5)) (by omega) (by omega), w32 (x0 + x7 - (x3 + x4)) (by omega) (by omega), cx6A _ _ (by omega) (by omega) (by omega) (by omega)]
  omega

theorem col6_bd (x0 x1 x2 x3 x4 x5 x6 x7 : Int) (l0 : 0 ≤ x0) (u0 : x0 ≤ 255) (l1 : 0 ≤ x1) (u1 : x1 ≤ 255) (l2 : 0 ≤ x2) (u2 : x2 ≤ 255) (l3 : 0 ≤ x3) (u3 : x3 ≤ 255) (l4 : 0 ≤ x4) (u4 : x4 ≤ 255) (l5 : 0 ≤ x5) (u5 : x5 ≤ 255) (l6 : 0 ≤ x6) (u6 : x6 ≤ 255) (l7 : 0 ≤ x7) (u7 : x7 ≤ 255) : -267649024 ≤ col6 x0 x1 x2 x3 x4 x5 x6 x7 ∧ col6 x0 x1 x2 x3 x4 x5 x6 x7 ≤ 267649024 := by
  have p07 : wrap32 (x0 + x7) = x0 + x7 := w32 _ (by omega) (by omega)
  have p34 : wrap32 (x3 + x4) = x3 + x4 := w32 _ (by omega) (by omega)
  have p16 : wrap32 (x1 + x6) = x1 + x6 := w32 _ (by omega) (by omega)
  have p25 : wrap32 (x2 + x5) = x2 + x5 := w32 _ (by omega) (by omega)
  unfold col6
  rw [p07, p34, p16, p25]
  rw [w32 (x1 + x6 - (x2 + x5)) (by omega) (by omega), w32 (x0 + x7 - (x3 + x4)) (by omega) (by omega), cx6B _ _ (by omega) (by omega) (by omega) (by omega)]
  omega

theorem col1_bd (x0 x1 x2 x3 x4 x5 x6 x7 : Int) (l0 : 0 ≤ x0) (u0 : x0 ≤ 255) (l1 : 0 ≤ x1) (u1 : x1 ≤ 255) (l2 : 0 ≤ x2) (u2 : x2 ≤ 255) (l3 : 0 ≤ x3) (u3 : x3 ≤ 255) (l4 : 0 ≤ x4) (u4 : x4 ≤ 255) (l5 : 0 ≤ x5) (u5 : x5 ≤ 255) (l6 : 0 ≤ x6) (u6 : x6 ≤ 255) (l7 : 0 ≤ x7) (u7 : x7 ≤ 255) : -267649024 ≤ col1 x0 x1 x2 x3 x4 x5 x6 x7 ∧ col1 x0 x1 x2 x3 x4 x5 x6 x7 ≤ 267649024 := by
  have m07 : wrap32 (x0 - x7) = x0 - x7 := w32 _ (by omega) (by omega)
  have m34 : wrap32 (x3 - x4) = x3 - x4 := w32 _ (by omega) (by omega)
  have m16 : wrap32 (x1 - x6) = x1 - x6 := w32 _ (by omega) (by omega)
  have m25 : wrap32 (x2 - x5) = x2 - x5 := w32 _ (by omega) (by omega)
  have b3A := cx3A (x3 - x4) (x0 - x7) (by omega) (by omega) (by omega) (by omega)
  have b3B := cx3B (x3 - x4) (x0 - x7) (by omega) (by omega) (by omega) (by omega)
  have b1A := cx1A (x2 - x5) (x1 - x6) (by omega) (by omega) (by omega) (by omega)
  have b1B := cx1B (x2 - x5) (x1 - x6) (by omega) (by omega) (by omega) (by omega)
  unfold col1
  rw [m07, m34, m16, m25, b3A, b3B, b1A, b1B]
  rw [w32 ((217965 * (x0 - x7) - 145639 * (x3 - x4)) + (257107 * (x2 - x5) + 51142 * (x1 - x6))) (by omega) (by omega), w32 ((217965 * (x3 - x4) + 145639 * (x0 - x7)) + (257107 * (x1 - x6) - 51142 * (x2 - x5))) (by omega) (by omega), w32 _ (by omega) (by omega)]
  omega

theorem col7_bd (x0 x1 x2 x3 x4 x5 x6 x7 : Int) (l0 : 0 ≤ x0) (u0 : x0 ≤ 255) (l1 : 0 ≤ x1) (u1 : x1 ≤ 255) (l2 : 0 ≤ x2) (u2 : x2 ≤ 255) (l3 : 0 ≤ x3) (u3 : x3 ≤ 255) (l4 : 0 ≤ x4) (u4 : x4 ≤ 255) (l5 : 0 ≤ x5) (u5 : x5 ≤ 255) (l6 : 0 ≤ x6) (u6 : x6 ≤ 255) (l7 : 0 ≤ x7) (u7 : x7 ≤ 255) : -267649024 ≤ col7 x0 x1 x2 x3 x4 x5 x6 x7 ∧ col7 x0 x1 x2 x3 x4 x5 x6 x7 ≤ 267649024 := by
  have m07 : wrap32 (x0 - x7) = x0 - x7 := w32 _ (by omega) (by omega)
  have m34 : wrap32 (x3 - x4) = x3 - x4 := w32 _ (by omega) (by omega)
  have m16 : wrap32 (x1 - x6) = x1 - x6 := w32 _ (by omega) (by omega)
  have m25 : wrap32 (x2 - x5) = x2 - x5 := w32 _ (by omega) (by omega)
  have b3A := cx3A (x3 - x4) (x0 - x7) (by omega) (by omega) (by omega) (by omega)
  have b3B := cx3B (x3 - x4) (x0 - x7) (by omega) (by omega) (by omega) (by omega)
  have b1A := cx1A (x2 - x5) (x1 - x6) (by omega) (by omega) (by omega) (by omega)
  have b1B := cx1B (x2 - x5) (x1 - x6) (by omega) (by omega) (by omega) (by omega)
  unfold col7
  rw [m07, m34, m16, m25, b3A, b3B, b1A, b1B]
  rw [w32 ((217965 * (x0 - x7) - 145639 * (x3 - x4)) + (257107 * (x2 - x5) + 51142 * (x1 - x6))) (by omega) (by omega), w32 ((217965 * (x3 - x4) + 145639 * (x0 - x7)) + (257107 * (x1 - x6) - 51142 * (x2 - x5))) (by omega) (by omega), w32 _ (by omega) (by omega)]
  omega

theorem col3_bd (x0 x1 x2 x3 x4 x5 x6 x7 : Int) (l0 : 0 ≤ x0) (u0 : x0 ≤ 255) (l1 : 0 ≤ x1) (u1 : x1 ≤ 255) (l2 : 0 ≤ x2) (u2 : x2 ≤ 255) (l3 : 0 ≤ x3) (u3 : x3 ≤ 255) (l4 : 0 ≤ x4) (u4 : x4 ≤ 255) (l5 : 0 ≤ x5) (u5 : x5 ≤ 255) (l6 : 0 ≤ x6) (u6 : x6 ≤ 255) (l7 : 0 ≤ x7) (u7 : x7 ≤ 255) : -267649024 ≤ col3 x0 x1 x2 x3 x4 x5 x6 x7 ∧ col3 x0 x1 x2 x3 x4 x5 x6 x7 ≤ 267649024 := by
  have m07 : wrap32 (x0 - x7) = x0 - x7 := w32 _ (by omega) (by omega)
  have m34 : wrap32 (x3 - x4) = x3 - x4 := w32 _ (by omega) (by omega)
  have m16 : wrap32 (x1 - x6) = x1 - x6 := w32 _ (by omega) (by omega)
  have m25 : wrap32 (x2 - x5) = x2 - x5 := w32 _ (by omega) (by omega)
  have b3A := cx3A (x3 - x4) (x0 - x7) (by omega) (by omega) (by omega) (by omega)
  have b3B := cx3B (x3 - x4) (x0 - x7) (by omega) (by omega) (by omega) (by omega)
  have b1A := cx1A (x2 - x5) (x1 - x6) (by omega) (by omega) (by omega) (by omega)
  have b1B := cx1B (x2 - x5) (x1 - x6) (by omega) (by omega) (by omega) (by omega)
  unfold col3
  rw [m07, m34, m16, m25, b3B, b1A]
  have hz1 : (217965 * (x0 - x7) - 145639 * (x3 - x4)) - (257107 * (x2 - x5) + 51142 * (x1 - x6)) ≤ 171322515 := by omega
  have hz2 : -171322515 ≤ (217965 * (x0 - x7) - 145639 * (x3 - x4)) - (257107 * (x2 - x5) + 51142 * (x1 - x6)) := by omega
  generalize (217965 * (x0 - x7) - 145639 * (x3 - x4)) - (257107 * (x2 - x5) + 51142 * (x1 - x6)) = z at hz1 hz2 ⊢
  rw [w32 z (by omega) (by omega), w32 _ (by omega) (by omega)]
  omega

theorem col5_bd (x0 x1 x2 x3 x4 x5 x6 x7 : Int) (l0 : 0 ≤ x0) (u0 : x0 ≤ 255) (l1 : 0 ≤ x1) (u1 : x1 ≤ 255) (l2 : 0 ≤ x2) (u2 : x2 ≤ 255) (l3 : 0 ≤ x3) (u3 : x3 ≤ 255) (l4 : 0 ≤ x4) (u4 : x4 ≤ 255) (l5 : 0 ≤ x5) (u5 : x5 ≤ 255) (l6 : 0 ≤ x6) (u6 : x6 ≤ 255) (l7 : 0 ≤ x7) (u7 : x7 ≤ 255) : -267649024 ≤ col5 x0 x1 x2 x3 x4 x5 x6 x7 ∧ col5 x0 x1 x2 x3 x4 x5 x6 x7 ≤ 267649024 := by
  have m07 : wrap32 (x0 - x7) = x0 - x7 := w32 _ (by omega) (by omega)
  have m34 : wrap32 (x3 - x4) = x3 - x4 := w32 _ (by omega) (by omega)
  have m16 : wrap32 (x1 - x6) = x1 - x6 := w32 _ (by omega) (by omega)
  have m25 : wrap32 (x2 - x5) = x2 - x5 := w32 _ (by omega) (by omega)
  have b3A := cx3A (x3 - x4) (x0 - x7) (by omega) (by omega) (by omega) (by omega)
  have b3B := cx3B (x3 - x4) (x0 - x7) (by omega) (by omega) (by omega) (by omega)
  have b1A := cx1A (x2 - x5) (x1 - x6) (by omega) (by omega) (by omega) (by omega)
  have b1B := cx1B (x2 - x5) (x1 - x6) (by omega) (by omega) (by omega) (by omega)
  unfold col5
  rw [m07, m34, m16, m25, b3A, b1B]
  have hz1 : (217965 * (x3 - x4) + 145639 * (x0 - x7)) - (257107 * (x1 - x6) - 51142 * (x2 - x5)) ≤ 171322515 := by omega
  have hz2 : -171322515 ≤ (217965 * (x3 - x4) + 145639 * (x0 - x7)) - (257107 * (x1 - x6) - 51142 * (x2 - x5)) := by omega
  generalize (217965 * (x3 - x4) + 145639 * (x0 - x7)) - (257107 * (x1 - x6) - 51142 * (x2 - x5)) = z at hz1 hz2 ⊢
  rw [w32 z (by omega) (by omega), w32 _ (by omega) (by omega)]
  omega

theorem row0_bdZ (x0 x1 x2 x3 x4 x5 x6 x7 : Int) (l0 : -268435456 ≤ x0) (u0 : x0 ≤ 266338304) (l1 : -268435456 ≤ x1) (u1 : x1 ≤ 266338304) (l2 : -268435456 ≤ x2) (u2 : x2 ≤ 266338304) (l3 : -268435456 ≤ x3) (u3 : x3 ≤ 266338304) (l4 : -268435456 ≤ x4) (u4 : x4 ≤ 266338304) (l5 : -268435456 ≤ x5) (u5 : x5 ≤ 266338304) (l6 : -268435456 ≤ x6) (u6 : x6 ≤ 266338304) (l7 : -268435456 ≤ x7) (u7 : x7 ≤ 266338304) : -8192 ≤ row0 x0 x1 x2 x3 x4 x5 x6 x7 ∧ row0 x0 x1 x2 x3 x4 x5 x6 x7 ≤ 8128 := by
  have p07 : wrap32 (x0 + x7) = x0 + x7 := w32 _ (by omega) (by omega)
  have p34 : wrap32 (x3 + x4) = x3 + x4 := w32 _ (by omega) (by omega)
  have p16 : wrap32 (x1 + x6) = x1 + x6 := w32 _ (by omega) (by omega)
  have p25 : wrap32 (x2 + x5) = x2 + x5 := w32 _ (by omega) (by omega)
  unfold row0
  rw [p07, p34, p16, p25]
  rw [w32 (x0 + x7 + (x3 + x4)) (by omega) (by omega), w32 (x1 + x6 + (x2 + x5)) (by omega) (by omega), w32 (x0 + x7 + (x3 + x4) + (x1 + x6 + (x2 + x5))) (by omega) (by omega), w32 _ (by omega) (by omega)]
  omega
theorem row0_bd (x0 x1 x2 x3 x4 x5 x6 x7 : Int) (l0 : -267649024 ≤ x0) (u0 : x0 ≤ 267649024) (l1 : -267649024 ≤ x1) (u1 : x1 ≤ 267649024) (l2 : -267649024 ≤ x2) (u2 : x2 ≤ 267649024) (l3 : -267649024 ≤ x3) (u3 : x3 ≤ 267649024) (l4 : -267649024 ≤ x4) (u4 : x4 ≤ 267649024) (l5 : -267649024 ≤ x5) (u5 : x5 ≤ 267649024) (l6 : -267649024 ≤ x6) (u6 : x6 ≤ 267649024) (l7 : -267649024 ≤ x7) (u7 : x7 ≤ 267649024) : -8187 ≤ row0 x0 x1 x2 x3 x4 x5 x6 x7 ∧ row0 x0 x1 x2 x3 x4 x5 x6 x7 ≤ 8187 := by
  have p07 : wrap32 (x0 + x7) = x0 + x7 := w32 _ (by omega) (by omega)
  have p34 : wrap32 (x3 + x4) = x3 + x4 := w32 _ (by omega) (by omega)
  have p16 : wrap32 (x1 + x6) = x1 + x6 := w32 _ (by omega) (by omega)
  have p25 : wrap32 (x2 + x5) = x2 + x5 := w32 _ (by omega) (by omega)
  unfold row0
  rw [p07, p34, p16, p25]
  rw [w32 (x0 + x7 + (x3 + x4)) (by omega) (by omega), w32 (x1 + x6 + (x2 + x5)) (by omega) (by omega), w32 (x0 + x7 + (x3 + x4) + (x1 + x6 + (x2 + x5))) (by omega) (by omega), w32 _ (by omega) (by omega)]
  omega
theorem row4_bd (x0 x1 x2 x3 x4 x5 x6 x7 : Int) (l0 : -268435456 ≤ x0) (u0 : x0 ≤ 267649024) (l1 : -268435456 ≤ x1) (u1 : x1 ≤ 267649024) (l2 : -268435456 ≤ x2) (u2 : x2 ≤ 267649024) (l3 : -268435456 ≤ x3) (u3 : x3 ≤ 267649024) (l4 : -268435456 ≤ x4) (u4 : x4 ≤ 267649024) (l5 : -268435456 ≤ x5) (u5 : x5 ≤ 267649024) (l6 : -268435456 ≤ x6) (u6 : x6 ≤ 267649024) (l7 : -268435456 ≤ x7) (u7 : x7 ≤ 267649024) : -8187 ≤ row4 x0 x1 x2 x3 x4 x5 x6 x7 ∧ row4 x0 x1 x2 x3 x4 x5 x6 x7 ≤ 8187 := by
  have p07 : wrap32 (x0 + x7) = x0 + x7 := w32 _ (by omega) (by omega)
  have p34 : wrap32 (x3 + x4) = x3 + x4 := w32 _ (by omega) (by omega)
  have p16 : wrap32 (x1 + x6) = x1 + x6 := w32 _ (by omega) (by omega)
  have p25 : wrap32 (x2 + x5) = x2 + x5 := w32 _ (by omega) (by omega)
  unfold row4
  rw [p07, p34, p16, p25]
  rw [w32 (x0 + x7 + (x3 + x4)) (by omega) (by omega), w32 (x1 + x6 + (x2 + x5)) (by omega) (by omega), w32 (x0 + x7 + (x3 + x4) - (x1 + x6 + (x2 + x5))) (by omega) (by omega), w32 _ (by omega) (by omega)]
  omega

theorem row2_bd (x0 x1 x2 x3 x4 x5 x6 x7 : Int) (l0 : -268435456 ≤ x0) (u0 : x0 ≤ 267649024) (l1 : -268435456 ≤ x1) (u1 : x1 ≤ 267649024) (l2 : -268435456 ≤ x2) (u2 : x2 ≤ 267649024) (l3 : -268435456 ≤ x3) (u3 : x3 ≤ 267649024) (l4 : -268435456 ≤ x4) (u4 : x4 ≤ 267649024) (l5 : -268435456 ≤ x5) (u5 : x5 ≤ 267649024) (l6 : -268435456 ≤ x6) (u6 : x6 ≤ 267649024) (l7 : -268435456 ≤ x7) (u7 : x7 ≤ 267649024) : -8187 ≤ row2 x0 x1 x2 x3 x4 x5 x6 x7 ∧ row2 x0 x1 x2 x3 x4 x5 x6 x7 ≤ 8187 := by
  have p07 : wrap32 (x0 + x7) = x0 + x7 := w32 _ (by omega) (by omega)
  have p34 : wrap32 (x3 + x4) = x3 + x4 := w32 _ (by omega) (by omega)
  have p16 : wrap32 (x1 + x6) = x1 + x6 := w32 _ (by omega) (by omega)
  have p25 : wrap32 (x2 + x5) = x2 + x5 := w32 _ (by omega) (by omega)
  unfold row2
  rw [p07, p34, p16, p25]
  rw [w32 (x1 + x6 - (x2 + x5)) (by omega) (by omega), w32 (x0 + x7 - (x3 + x4)) (by omega) (by omega)]
  have d1 : -65480 ≤ (x1 + x6 - (x2 + x5)) / 16384 := by omega
  have d2 : (x1 + x6 - (x2 + x5)) / 16384 ≤ 65480 := by omega
  have d3 : -65480 ≤ (x0 + x7 - (x3 + x4)) / 16384 := by omega
  have d4 : (x0 + x7 - (x3 + x4)) / 16384 ≤ 65480 := by omega
  generalize (x1 + x6 - (x2 + x5)) / 16384 = y at d1 d2 ⊢
  generalize (x0 + x7 - (x3 + x4)) / 16384 = z at d3 d4 ⊢
  rw [rx6A _ _ d1 d2 d3 d4, w32 _ (by omega) (by omega)]
  omega

theorem row6_bd (x0 x1 x2 x3 x4 x5 x6 x7 : Int) (l0 : -268435456 ≤ x0) (u0 : x0 ≤ 267649024) (l1 : -268435456 ≤ x1) (u1 : x1 ≤ 267649024) (l2 : -268435456 ≤ x2) (u2 : x2 ≤ 267649024) (l3 : -268435456 ≤ x3) (u3 : x3 ≤ 267649024) (l4 : -268435456 ≤ x4) (u4 : x4 ≤ 267649024) (l5 : -268435456 ≤ x5) (u5 : x5 ≤ 267649024) (l6 : -268435456 ≤ x6) (u6 : x6 ≤ 267649024) (l7 : -268435456 ≤ x7) (u7 : x7 ≤ 267649024) : -8187 ≤ row6 x0 x1 x2 x3 x4 x5 x6 x7 ∧ row6 x0 x1 x2 x3 x4 x5 x6 x7 ≤ 8187 := by
  have p07 : wrap32 (x0 + x7) = x0 + x7 := w32 _ (by omega) (by omega)
  have p34 : wrap32 (x3 + x4) = x3 + x4 := w32 _ (by omega) (by omega)
  have p16 : wrap32 (x1 + x6) = x1 + x6 := w32 _ (by omega) (by omega)
  have p25 : wrap32 (x2 + x5) = x2 + x5 := w32 _ (by omega) (by omega)
  unfold row6
  rw [p07, p34, p16, p25]
  rw [w32 (x1 + x6 - (x2 + x5)) (by omega) (by omega), w32 (x0 + x7 - (x3 + x4)) (by omega) (by omega)]
  have d1 : -65480 ≤ (x1 + x6 - (x2 + x5)) / 16384 := by omega
  have d2 : (x1 + x6 - (x2 + x5)) / 16384 ≤ 65480 := by omega
  have d3 : -65480 ≤ (x0 + x7 - (x3 + x4)) / 16384 := by omega
  have d4 : (x0 + x7 - (x3 + x4)) / 16384 ≤ 65480 := by omega
  generalize (x1 + x6 - (x2 + x5)) / 16384 = y at d1 d2 ⊢
  generalize (x0 + x7 - (x3 + x4)) / 16384 = z at d3 d4 ⊢
  rw [rx6B _ _ d1 d2 d3 d4, w32 _ (by omega) (by omega)]
  omega

theorem row1_bd (x0 x1 x2 x3 x4 x5 x6 x7 : Int) (l0 : -268435456 ≤ x0) (u0 : x0 ≤ 267649024) (l1 : -268435456 ≤ x1) (u1 : x1 ≤ 267649024) (l2 : -268435456 ≤ x2) (u2 : x2 ≤ 267649024) (l3 : -268435456 ≤ x3) (u3 : x3 ≤ 267649024) (l4 : -268435456 ≤ x4) (u4 : x4 ≤ 267649024) (l5 : -268435456 ≤ x5) (u5 : x5 ≤ 267649024) (l6 : -268435456 ≤ x6) (u6 : x6 ≤ 267649024) (l7 : -268435456 ≤ x7) (u7 : x7 ≤ 267649024) : -8187 ≤ row1 x0 x1 x2 x3 x4 x5 x6 x7 ∧ row1 x0 x1 x2 x3 x4 x5 x6 x7 ≤ 8187 := by
  have m07 : wrap32 (x0 - x7) = x0 - x7 := w32 _ (by omega) (by omega)
  have m34 : wrap32 (x3 - x4) = x3 - x4 := w32 _ (by omega) (by omega)
  have m16 : wrap32 (x1 - x6) = x1 - x6 := w32 _ (by omega) (by omega)
  have m25 : wrap32 (x2 - x5) = x2 - x5 := w32 _ (by omega) (by omega)
  unfold row1
  rw [m07, m34, m16, m25]
  have d1 : -32740 ≤ (x0 - x7) / 16384 := by omega
  have d2 : (x0 - x7) / 16384 ≤ 32740 := by omega
  have d3 : -32740 ≤ (x1 - x6) / 16384 := by omega
  have d4 : (x1 - x6) / 16384 ≤ 32740 := by omega
  have d5 : -32740 ≤ (x2 - x5) / 16384 := by omega
  have d6 : (x2 - x5) / 16384 ≤ 32740 := by omega
  have d7 : -32740 ≤ (x3 - x4) / 16384 := by omega
  have d8 : (x3 - x4) / 16384 ≤ 32740 := by omega
  generalize (x0 - x7) / 16384 = a at d1 d2 ⊢
  generalize (x1 - x6) / 16384 = b at d3 d4 ⊢
  generalize (x2 - x5) / 16384 = c at d5 d6 ⊢
  generalize (x3 - x4) / 16384 = d at d7 d8 ⊢
  rw [rx3A d a d7 d8 d1 d2, rx3B d a d7 d8 d1 d2, rx1A c b d5 d6 d3 d4, rx1B c b d5 d6 d3 d4]
  rw [w32 ((13623 * a - 9102 * d) + (16069 * c + 3196 * b)) (by omega) (by omega), w32 ((13623 * d + 9102 * a) + (16069 * b - 3196 * c)) (by omega) (by omega), w32 ((13623 * a - 9102 * d) + (16069 * c + 3196 * b) + ((13623 * d + 9102 * a) + (16069 * b - 3196 * c))) (by omega) (by omega), w32 _ (by omega) (by omega)]
  omega

theorem row7_bd (x0 x1 x2 x3 x4 x5 x6 x7 : Int) (l0 : -268435456 ≤ x0) (u0 : x0 ≤ 267649024) (l1 : -268435456 ≤ x1) (u1 : x1 ≤ 267649024) (l2 : -268435456 ≤ x2) (u2 : x2 ≤ 267649024) (l3 : -268435456 ≤ x3) (u3 : x3 ≤ 267649024) (l4 : -268435456 ≤ x4) (u4 : x4 ≤ 267649024) (l5 : -268435456 ≤ x5) (u5 : x5 ≤ 267649024) (l6 : -268435456 ≤ x6) (u6 : x6 ≤ 267649024) (l7 : -268435456 ≤ x7) (u7 : x7 ≤ 267649024) : -8187 ≤ row7 x0 x1 x2 x3 x4 x5 x6 x7 ∧ row7 x0 x1 x2 x3 x4 x5 x6 x7 ≤ 8187 := by
  have m07 : wrap32 (x0 - x7) = x0 - x7 := w32 _ (by omega) (by omega)
  have m34 : wrap32 (x3 - x4) = x3 - x4 := w32 _ (by omega) (by omega)
  have m16 : wrap32 (x1 - x6) = x1 - x6 := w32 _ (by omega) (by omega)
  have m25 : wrap32 (x2 - x5) = x2 - x5 := w32 _ (by omega) (by omega)
  unfold row7
  rw [m07, m34, m16, m25]
  have d1 : -32740 ≤ (x0 - x7) / 16384 := by omega
  have d2 : (x0 - x7) / 16384 ≤ 32740 := by omega
  have d3 : -32740 ≤ (x1 - x6) / 16384 := by omega
  have d4 : (x1 - x6) / 16384 ≤ 32740 := by omega
  have d5 : -32740 ≤ (x2 - x5) / 16384 := by omega
  have d6 : (x2 - x5) / 16384 ≤ 32740 := by omega
  have d7 : -32740 ≤ (x3 - x4) / 16384 := by omega
  have d8 : (x3 - x4) / 16384 ≤ 32740 := by omega
  generalize (x0 - x7) / 16384 = a at d1 d2 ⊢
  generalize (x1 - x6) / 16384 = b at d3 d4 ⊢
  generalize (x2 - x5) / 16384 = c at d5 d6 ⊢
  generalize (x3 - x4) / 16384 = d at d7 d8 ⊢
  rw [rx3A d a d7 d8 d1 d2, rx3B d a d7 d8 d1 d2, rx1A c b d5 d6 d3 d4, rx1B c b d5 d6 d3 d4]
  rw [w32 ((13623 * a - 9102 * d) + (16069 * c + 3196 * b)) (by omega) (by omega), w32 ((13623 * d + 9102 * a) + (16069 * b - 3196 * c)) (by omega) (by omega), w32 ((13623 * a - 9102 * d) + (16069 * c + 3196 * b) - ((13623 * d + 9102 * a) + (16069 * b - 3196 * c))) (by omega) (by omega), w32 _ (by omega) (by omega)]
  omega

theorem row3_bd (x0 x1 x2 x3 x4 x5 x6 x7 : Int) (l0 : -268435456 ≤ x0) (u0 : x0 ≤ 267649024) (l1 : -268435456 ≤ x1) (u1 : x1 ≤ 267649024) (l2 : -268435456 ≤ x2) (u2 : x2 ≤ 267649024) (l3 : -268435456 ≤ x3) (u3 : x3 ≤ 267649024) (l4 : -268435456 ≤ x4) (u4 : x4 ≤ 267649024) (l5 : -268435456 ≤ x5) (u5 : x5 ≤ 267649024) (l6 : -268435456 ≤ x6) (u6 : x6 ≤ 267649024) (l7 : -268435456 ≤ x7) (u7 : x7 ≤ 267649024) : -8187 ≤ row3 x0 x1 x2 x3 x4 x5 x6 x7 ∧ row3 x0 x1 x2 x3 x4 x5 x6 x7 ≤ 8187 := by
  have m07 : wrap32 (x0 - x7) = x0 - x7 := w32 _ (by omega) (by omega)
  have m34 : wrap32 (x3 - x4) = x3 - x4 := w32 _ (by omega) (by omega)
  have m16 : wrap32 (x1 - x6) = x1 - x6 := w32 _ (by omega) (by omega)
  have m25 : wrap32 (x2 - x5) = x2 - x5 := w32 _ (by omega) (by omega)
  unfold row3
  rw [m07, m34, m16, m25]
  have d1 : -32740 ≤ (x0 - x7) / 16384 := by omega
  have d2 : (x0 - x7) / 16384 ≤ 32740 := by omega
  have d3 : -32740 ≤ (x1 - x6) / 16384 := by omega
  have d4 : (x1 - x6) / 16384 ≤ 32740 := by omega
  have d5 : -32740 ≤ (x2 - x5) / 16384 := by omega
  have d6 : (x2 - x5) / 16384 ≤ 32740 := by omega
  have d7 : -32740 ≤ (x3 - x4) / 16384 := by omega
  have d8 : (x3 - x4) / 16384 ≤ 32740 := by omega
  generalize (x0 - x7) / 16384 = a at d1 d2 ⊢
  generalize (x1 - x6) / 16384 = b at d3 d4 ⊢
  generalize (x2 - x5) / 16384 = c at d5 d6 ⊢
  generalize (x3 - x4) / 16384 = d at d7 d8 ⊢
  rw [rx3B d a d7 d8 d1 d2, rx1A c b d5 d6 d3 d4]
  have hz1 : (13623 * a - 9102 * d) - (16069 * c + 3196 * b) ≤ 1374752600 := by omega
  have hz2 : -1374752600 ≤ (13623 * a - 9102 * d) - (16069 * c + 3196 * b) := by omega
  generalize (13623 * a - 9102 * d) - (16069 * c + 3196 * b) = z at hz1 hz2 ⊢
  rw [w32 z (by omega) (by omega)]
  have hy1 : z / 16384 ≤ 83909 := by omega
  have hy2 : -83909 ≤ z / 16384 := by omega
  generalize z / 16384 = y at hy1 hy2 ⊢
  rw [w32 (y * 23170) (by omega) (by omega), w32 _ (by omega) (by omega)]
  omega

theorem row5_bd (x0 x1 x2 x3 x4 x5 x6 x7 : Int) (l0 : -268435456 ≤ x0) (u0 : x0 ≤ 267649024) (l1 : -268435456 ≤ x1) (u1 : x1 ≤ 267649024) (l2 : -268435456 ≤ x2) (u2 : x2 ≤ 267649024) (l3 : -268435456 ≤ x3) (u3 : x3 ≤ 267649024) (l4 : -268435456 ≤ x4) (u4 : x4 ≤ 267649024) (l5 : -268435456 ≤ x5) (u5 : x5 ≤ 267649024) (l6 : -268435456 ≤ x6) (u6 : x6 ≤ 267649024) (l7 : -268435456 ≤ x7) (u7 : x7 ≤ 267649024) : -8187 ≤ row5 x0 x1 x2 x3 x4 x5 x6 x7 ∧ row5 x0 x1 x2 x3 x4 x5 x6 x7 ≤ 8187 := by
  have m07 : wrap32 (x0 - x7) = x0 - x7 := w32 _ (by omega) (by omega)
  have m34 : wrap32 (x3 - x4) = x3 - x4 := w32 _ (by omega) (by omega)
  have m16 : wrap32 (x1 - x6) = x1 - x6 := w32 _ (by omega) (by omega)
  have m25 : wrap32 (x2 - x5) = x2 - x5 := w32 _ (by omega) (by omega)
  unfold row5
  rw [m07, m34, m16, m25]
  have d1 : -32740 ≤ (x0 - x7) / 16384 := by omega
  have d2 : (x0 - x7) / 16384 ≤ 32740 := by omega
  have d3 : -32740 ≤ (x1 - x6) / 16384 := by omega
  have d4 : (x1 - x6) / 16384 ≤ 32740 := by omega
  have d5 : -32740 ≤ (x2 - x5) / 16384 := by omega
  have d6 : (x2 - x5) / 16384 ≤ 32740 := by omega
  have d7 : -32740 ≤ (x3 - x4) / 16384 := by omega
  have d8 : (x3 - x4) / 16384 ≤ 32740 := by omega
  generalize (x0 - x7) / 16384 = a at d1 d2 ⊢
  generalize (x1 - x6) / 16384 = b at d3 d4 ⊢
  generalize (x2 - x5) / 16384 = c at d5 d6 ⊢
  generalize (x3 - x4) / 16384 = d at d7 d8 ⊢
  rw [rx3A d a d7 d8 d1 d2, rx1B c b d5 d6 d3 d4]
  have hz1 : (13623 * d + 9102 * a) - (16069 * b - 3196 * c) ≤ 1374752600 := by omega
  have hz2 : -1374752600 ≤ (13623 * d + 9102 * a) - (16069 * b - 3196 * c) := by omega
  generalize (13623 * d + 9102 * a) - (16069 * b - 3196 * c) = z at hz1 hz2 ⊢
  rw [w32 z (by omega) (by omega)]
  have hy1 : z / 16384 ≤ 83909 := by omega
  have hy2 : -83909 ≤ z / 16384 := by omega
  generalize z / 16384 = y at hy1 hy2 ⊢
  rw [w32 (y * 23170) (by omega) (by omega), w32 _ (by omega) (by omega)]
  omega


/-- The answer number j of a column. -/
def colF (j : Nat) (x0 x1 x2 x3 x4 x5 x6 x7 : Int) : Int :=
  if j = 0 then col0 x0 x1 x2 x3 x4 x5 x6 x7 else if j = 1 then col1 x0 x1 x2 x3 x4 x5 x6 x7 else if j = 2 then col2 x0 x1 x2 x3 x4 x5 x6 x7 else if j = 3 then col3 x0 x1 x2 x3 x4 x5 x6 x7 else if j = 4 then col4 x0 x1 x2 x3 x4 x5 x6 x7 else if j = 5 then col5 x0 x1 x2 x3 x4 x5 x6 x7 else if j = 6 then col6 x0 x1 x2 x3 x4 x5 x6 x7 else col7 x0 x1 x2 x3 x4 x5 x6 x7
def rowF (j : Nat) (x0 x1 x2 x3 x4 x5 x6 x7 : Int) : Int :=
  if j = 0 then row0 x0 x1 x2 x3 x4 x5 x6 x7 else if j = 1 then row1 x0 x1 x2 x3 x4 x5 x6 x7 else if j = 2 then row2 x0 x1 x2 x3 x4 x5 x6 x7 else if j = 3 then row3 x0 x1 x2 x3 x4 x5 x6 x7 else if j = 4 then row4 x0 x1 x2 x3 x4 x5 x6 x7 else if j = 5 then row5 x0 x1 x2 x3 x4 x5 x6 x7 else if j = 6 then row6 x0 x1 x2 x3 x4 x5 x6 x7 else row7 x0 x1 x2 x3 x4 x5 x6 x7

theorem sgetD (l : List Int) (i j : Nat) (b : Int) (hi : i < l.length) : (l.set i b).getD j 0 = if i = j then b else l.getD j 0 := by
  simp only [List.getD_eq_getElem?_getD, List.getElem?_set]
  by_cases h : i = j
  · subst h; simp [hi]
  · simp [h]

theorem colSet_get (N : List Int) (hN : N.length = 64) (k i : Nat) (hk : k < 8) (hi : i < 64) (x0 x1 x2 x3 x4 x5 x6 x7 : Int) :
    (colSet N k x0 x1 x2 x3 x4 x5 x6 x7).getD i 0 = if i % 8 = k then colF (i / 8) x0 x1 x2 x3 x4 x5 x6 x7 else N.getD i 0 := by
  unfold colSet
  rw [sgetD _ _ _ _ (by simp [hN]; omega), sgetD _ _ _ _ (by simp [hN]; omega), sgetD _ _ _ _ (by simp [hN]; omega), sgetD _ _ _ _ (by simp [hN]; omega), sgetD _ _ _ _ (by simp [hN]; omega), sgetD _ _ _ _ (by simp [hN]; omega), sgetD _ _ _ _ (by simp [hN]; omega), sgetD _ _ _ _ (by simp [hN]; omega)]
  by_cases h : i % 8 = k
  · rw [if_pos h]
    rcases (by omega : i = k ∨ i = 8 + k ∨ i = 16 + k ∨ i = 24 + k ∨ i = 32 + k ∨ i = 40 + k ∨ i = 48 + k ∨ i = 56 + k) with e | e | e | e | e | e | e | e <;> subst e
    · rw [if_neg (by omega), if_neg (by omega), if_neg (by omega), if_neg (by omega), if_neg (by omega), if_neg (by omega), if_neg (by omega), if_pos rfl, show i / 8 = 0 by omega]; rfl
    · rw [if_neg (by omega), if_neg (by omega), if_neg (by omega), if_pos rfl, show (8 + k) / 8 = 1 by omega]; rfl
    · rw [if_neg (by omega), if_neg (by omega), if_neg (by omega), if_neg (by omega), if_neg (by omega), if_pos rfl, show (16 + k) / 8 = 2 by omega]; rfl
    · rw [if_neg (by omega), if_neg (by omega), if_pos rfl, show (24 + k) / 8 = 3 by omega]; rfl
    · rw [if_neg (by omega), if_neg (by omega), if_neg (by omega), if_neg (by omega), if_neg (by omega), if_neg (by omega), if_pos rfl, show (32 + k) / 8 = 4 by omega]; rfl
    · rw [if_neg (by omega), if_pos rfl, show (40 + k) / 8 = 5 by omega]; rfl
    · rw [if_neg (by omega), if_neg (by omega), if_neg (by omega), if_neg (by omega), if_pos rfl, show (48 + k) / 8 = 6 by omega]; rfl
    · rw [if_pos rfl, show (56 + k) / 8 = 7 by omega]; rfl
  · rw [if_neg h, if_neg (by omega), if_neg (by omega), if_neg (by omega), if_neg (by omega), if_neg (by omega), if_neg (by omega), if_neg (by omega), if_neg (by omega)]

theorem rowSet_get (N : List Int) (hN : N.length = 64) (k i : Nat) (hk : k < 8) (hi : i < 64) (x0 x1 x2 x3 x4 x5 x6 x7 : Int) :
    (rowSet N k x0 x1 x2 x3 x4 x5 x6 x7).getD i 0 = if i / 8 = k then rowF (i % 8) x0 x1 x2 x3 x4 x5 x6 x7 else N.getD i 0 := by
  unfold rowSet
  rw [sgetD _ _ _ _ (by simp [hN]; omega), sgetD _ _ _ _ (by simp [hN]; omega), sgetD _ _ _ _ (by simp [hN]; omega), sgetD _ _ _ _ (by simp [hN]; omega), sgetD _ _ _ _ (by simp [hN]; omega), sgetD _ _ _ _ (by simp [hN]; omega), sgetD _ _ _ _ (by simp [hN]; omega), sgetD _ _ _ _ (by simp [hN]; omega)]
  by_cases h : i / 8 = k
  · rw [if_pos h]
    obtain ⟨j, hj⟩ : ∃ j, i % 8 = j := ⟨_, rfl⟩
    have e : i = 8 * k + j := by omega
    have hj8 : j < 8 := by omega
    rw [hj]
    clear h hj
    subst e
    rcases (by omega : j = 0 ∨ j = 1 ∨ j = 2 ∨ j = 3 ∨ j = 4 ∨ j = 5 ∨ j = 6 ∨ j = 7) with e | e | e | e | e | e | e | e <;> subst e
    · rw [if_neg (by omega), if_neg (by omega), if_neg (by omega), if_neg (by omega), if_neg (by omega), if_neg (by omega), if_neg (by omega), if_pos (by omega)]; rfl
    · rw [if_neg (by omega), if_neg (by omega), if_neg (by omega), if_neg (by omega), if_neg (by omega), if_neg (by omega), if_pos rfl]; rfl
    · rw [if_neg (by omega), if_neg (by omega), if_neg (by omega), if_neg (by omega), if_neg (by omega), if_pos rfl]; rfl
    · rw [if_neg (by omega), if_neg (by omega), if_neg (by omega), if_neg (by omega), if_pos rfl]; rfl
    · rw [if_neg (by omega), if_neg (by omega), if_neg (by omega), if_pos rfl]; rfl
    · rw [if_neg (by omega), if_neg (by omega), if_pos rfl]; rfl
    · rw [if_neg (by omega), if_pos rfl]; rfl
    · rw [if_pos rfl]; rfl
  · rw [if_neg h, if_neg (by omega), if_neg (by omega), if_neg (by omega), if_neg (by omega), if_neg (by omega), if_neg (by omega), if_neg (by omega), if_neg (by omega)]

theorem colsTo_get (M : List Int) (hM : M.length = 64) (n : Nat) (hn : n ≤ 8) : ∀ i, i < 64 → (colsTo M n).getD i 0 = if i % 8 < n then
    colF (i / 8) (M.getD (i % 8) 0) (M.getD (8 + i % 8) 0) (M.getD (16 + i % 8) 0) (M.getD (24 + i % 8) 0) (M.getD (32 + i % 8) 0) (M.getD (40 + i % 8) 0) (M.getD (48 + i % 8) 0) (M.getD (56 + i % 8) 0) else M.getD i 0 := by
  induction n with
  | zero => intro i _; rw [if_neg (by omega)]; rfl
  | succ n ih =>
    intro i hi
    have ih' := ih (by omega)
    rw [colsTo_succ]
    unfold colStep
    rw [colSet_get _ (by rw [length_colsTo, hM]) n i (by omega) hi]
    by_cases h : i % 8 = n
    · rw [if_pos h, if_pos (by omega)]
      rw [ih' n (by omega), ih' (8 + n) (by omega), ih' (16 + n) (by omega), ih' (24 + n) (by omega), ih' (32 + n) (by omega), ih' (40 + n) (by omega), ih' (48 + n) (by omega), ih' (56 + n) (by omega)]
      rw [if_neg (by omega), if_neg (by omega), if_neg (by omega), if_neg (by omega), if_neg (by omega), if_neg (by omega), if_neg (by omega), if_neg (by omega), h]
    · rw [if_neg h, ih' i hi]
      by_cases h2 : i % 8 < n
      · rw [if_pos h2, if_pos (by omega)]
      · rw [if_neg h2, if_neg (by omega)]

theorem rowsTo_get (M : List Int) (hM : M.length = 64) (n : Nat) (hn : n ≤ 8) : ∀ i, i < 64 → (rowsTo M n).getD i 0 = if i / 8 < n then
    rowF (i % 8) (M.getD (8 * (i / 8)) 0) (M.getD (8 * (i / 8) + 1) 0) (M.getD (8 * (i / 8) + 2) 0) (M.getD (8 * (i / 8) + 3) 0) (M.getD (8 * (i / 8) + 4) 0) (M.getD (8 * (i / 8) + 5) 0) (M.getD (8 * (i / 8) + 6) 0) (M.getD (8 * (i / 8) + 7) 0) else M.getD i 0 := by
  induction n with
  | zero => intro i _; rw [if_neg (by omega)]; rfl
  | succ n ih =>
    intro i hi
    have ih' := ih (by omega)
    rw [rowsTo_succ]
    unfold rowStep
    rw [rowSet_get _ (by rw [length_rowsTo, hM]) n i (by omega) hi]
    by_cases h : i / 8 = n
    · rw [if_pos h, if_pos (by omega)]
      rw [ih' (8 * n) (by omega), ih' (8 * n + 1) (by omega), ih' (8 * n + 2) (by omega), ih' (8 * n + 3) (by omega), ih' (8 * n + 4) (by omega), ih' (8 * n + 5) (by omega), ih' (8 * n + 6) (by omega), ih' (8 * n + 7) (by omega)]
      rw [if_neg (by omega), if_neg (by omega), if_neg (by omega), if_neg (by omega), if_neg (by omega), if_neg (by omega), if_neg (by omega), if_neg (by omega), h]
    · rw [if_neg h, ih' i hi]
      by_cases h2 : i / 8 < n
      · rw [if_pos h2, if_pos (by omega)]
      · rw [if_neg h2, if_neg (by omega)]

theorem colF_zero (x0 x1 x2 x3 x4 x5 x6 x7 : Int) (l0 : 0 ≤ x0) (u0 : x0 ≤ 255) (l1 : 0 ≤ x1) (u1 : x1 ≤ 255) (l2 : 0 ≤ x2) (u2 : x2 ≤ 255) (l3 : 0 ≤ x3) (u3 : x3 ≤ 255) (l4 : 0 ≤ x4) (u4 : x4 ≤ 255) (l5 : 0 ≤ x5) (u5 : x5 ≤ 255) (l6 : 0 ≤ x6) (u6 : x6 ≤ 255) (l7 : 0 ≤ x7) (u7 : x7 ≤ 255) : -268435456 ≤ colF 0 x0 x1 x2 x3 x4 x5 x6 x7 ∧ colF 0 x0 x1 x2 x3 x4 x5 x6 x7 ≤ 266338304 := by
  unfold colF
  rw [if_pos rfl]
  exact col0_bd x0 x1 x2 x3 x4 x5 x6 x7 l0 u0 l1 u1 l2 u2 l3 u3 l4 u4 l5 u5 l6 u6 l7 u7

theorem colF_bd (j : Nat) (hj : 1 ≤ j) (x0 x1 x2 x3 x4 x5 x6 x7 : Int) (l0 : 0 ≤ x0) (u0 : x0 ≤ 255) (l1 : 0 ≤ x1) (u1 : x1 ≤ 255) (l2 : 0 ≤ x2) (u2 : x2 ≤ 255) (l3 : 0 ≤ x3) (u3 : x3 ≤ 255) (l4 : 0 ≤ x4) (u4 : x4 ≤ 255) (l5 : 0 ≤ x5) (u5 : x5 ≤ 255) (l6 : 0 ≤ x6) (u6 : x6 ≤ 255) (l7 : 0 ≤ x7) (u7 : x7 ≤ 255) : -267649024 ≤ colF j x0 x1 x2 x3 x4 x5 x6 x7 ∧ colF j x0 x1 x2 x3 x4 x5 x6 x7 ≤ 267649024 := by
  unfold colF
  rw [if_neg (by omega)]
  repeat' split
  · exact col1_bd x0 x1 x2 x3 x4 x5 x6 x7 l0 u0 l1 u1 l2 u2 l3 u3 l4 u4 l5 u5 l6 u6 l7 u7
  · exact col2_bd x0 x1 x2 x3 x4 x5 x6 x7 l0 u0 l1 u1 l2 u2 l3 u3 l4 u4 l5 u5 l6 u6 l7 u7
  · exact col3_bd x0 x1 x2 x3 x4 x5 x6 x7 l0 u0 l1 u1 l2 u2 l3 u3 l4 u4 l5 u5 l6 u6 l7 u7
  · exact col4_bd x0 x1 x2 x3 x4 x5 x6 x7 l0 u0 l1 u1 l2 u2 l3 u3 l4 u4 l5 u5 l6 u6 l7 u7
  · exact col5_bd x0 x1 x2 x3 x4 x5 x6 x7 l0 u0 l1 u1 l2 u2 l3 u3 l4 u4 l5 u5 l6 u6 l7 u7
  · exact col6_bd x0 x1 x2 x3 x4 x5 x6 x7 l0 u0 l1 u1 l2 u2 l3 u3 l4 u4 l5 u5 l6 u6 l7 u7
  · exact col7_bd x0 x1 x2 x3 x4 x5 x6 x7 l0 u0 l1 u1 l2 u2 l3 u3 l4 u4 l5 u5 l6 u6 l7 u7

theorem rowF_bd (j : Nat) (hj : 1 ≤ j) (x0 x1 x2 x3 x4 x5 x6 x7 : Int) (l0 : -268435456 ≤ x0) (u0 : x0 ≤ 267649024) (l1 : -268435456 ≤ x1) (u1 : x1 ≤ 267649024) (l2 : -268435456 ≤ x2) (u2 : x2 ≤ 267649024) (l3 : -268435456 ≤ x3) (u3 : x3 ≤ 267649024) (l4 : -268435456 ≤ x4) (u4 : x4 ≤ 267649024) (l5 : -268435456 ≤ x5) (u5 : x5 ≤ 267649024) (l6 : -268435456 ≤ x6) (u6 : x6 ≤ 267649024) (l7 : -268435456 ≤ x7) (u7 : x7 ≤ 267649024) : -8187 ≤ rowF j x0 x1 x2 x3 x4 x5 x6 x7 ∧ rowF j x0 x1 x2 x3 x4 x5 x6 x7 ≤ 8187 := by
  unfold rowF
  rw [if_neg (by omega)]
  repeat' split
  · exact row1_bd x0 x1 x2 x3 x4 x5 x6 x7 l0 u0 l1 u1 l2 u2 l3 u3 l4 u4 l5 u5 l6 u6 l7 u7
  · exact row2_bd x0 x1 x2 x3 x4 x5 x6 x7 l0 u0 l1 u1 l2 u2 l3 u3 l4 u4 l5 u5 l6 u6 l7 u7
  · exact row3_bd x0 x1 x2 x3 x4 x5 x6 x7 l0 u0 l1 u1 l2 u2 l3 u3 l4 u4 l5 u5 l6 u6 l7 u7
  · exact row4_bd x0 x1 x2 x3 x4 x5 x6 x7 l0 u0 l1 u1 l2 u2 l3 u3 l4 u4 l5 u5 l6 u6 l7 u7
  · exact row5_bd x0 x1 x2 x3 x4 x5 x6 x7 l0 u0 l1 u1 l2 u2 l3 u3 l4 u4 l5 u5 l6 u6 l7 u7
  · exact row6_bd x0 x1 x2 x3 x4 x5 x6 x7 l0 u0 l1 u1 l2 u2 l3 u3 l4 u4 l5 u5 l6 u6 l7 u7
  · exact row7_bd x0 x1 x2 x3 x4 x5 x6 x7 l0 u0 l1 u1 l2 u2 l3 u3 l4 u4 l5 u5 l6 u6 l7 u7

/-- THE LAW OF THE TRANSFORM. -/
theorem dctLaw : DctLaw := by
  intro M hM hb
  have hlC : (colsTo M 8).length = 64 := by rw [length_colsTo, hM]
  have cz : ∀ i, i < 8 → -268435456 ≤ (colsTo M 8).getD i 0 ∧ (colsTo M 8).getD i 0 ≤ 266338304 := by
    intro i hi
    rw [colsTo_get M hM 8 (by omega) i (by omega), if_pos (by omega), show i / 8 = 0 by omega]
    exact colF_zero _ _ _ _ _ _ _ _ (hb _ (by omega)).1 (hb _ (by omega)).2 (hb _ (by omega)).1 (hb _ (by omega)).2 (hb _ (by omega)).1 (hb _ (by omega)).2 (hb _ (by omega)).1 (hb _ (by omega)).2 (hb _ (by omega)).1 (hb _ (by omega)).2 (hb _ (by omega)).1 (hb _ (by omega)).2 (hb _ (by omega)).1 (hb _ (by omega)).2 (hb _ (by omega)).1 (hb _ (by omega)).2
  have cb : ∀ i, 8 ≤ i → i < 64 → -267649024 ≤ (colsTo M 8).getD i 0 ∧ (colsTo M 8).getD i 0 ≤ 267649024 := by
    intro i h1 hi
    rw [colsTo_get M hM 8 (by omega) i (by omega), if_pos (by omega)]
    exact colF_bd _ (by omega) _ _ _ _ _ _ _ _ (hb _ (by omega)).1 (hb _ (by omega)).2 (hb _ (by omega)).1 (hb _ (by omega)).2 (hb _ (by omega)).1 (hb _ (by omega)).2 (hb _ (by omega)).1 (hb _ (by omega)).2 (hb _ (by omega)).1 (hb _ (by omega)).2 (hb _ (by omega)).1 (hb _ (by omega)).2 (hb _ (by omega)).1 (hb _ (by omega)).2 (hb _ (by omega)).1 (hb _ (by omega)).2
  have ca : ∀ i, i < 64 → -268435456 ≤ (colsTo M 8).getD i 0 ∧ (colsTo M 8).getD i 0 ≤ 267649024 := by
    intro i hi
    by_cases h : i < 8
    · have := cz i h; omega
    · have := cb i (by omega) hi; omega
  unfold dctP
  generalize colsTo M 8 = N at *
  refine ⟨?_, ?_⟩
  · rw [rowsTo_get N hlC 8 (by omega) 0 (by omega), if_pos (by omega)]
    have e : ∀ a b c d e f g h, rowF (0 % 8) a b c d e f g h = row0 a b c d e f g h := fun _ _ _ _ _ _ _ _ => rfl
    rw [e]
    exact row0_bdZ _ _ _ _ _ _ _ _ (cz _ (by omega)).1 (cz _ (by omega)).2 (cz _ (by omega)).1 (cz _ (by omega)).2 (cz _ (by omega)).1 (cz _ (by omega)).2 (cz _ (by omega)).1 (cz _ (by omega)).2 (cz _ (by omega)).1 (cz _ (by omega)).2 (cz _ (by omega)).1 (cz _ (by omega)).2 (cz _ (by omega)).1 (cz _ (by omega)).2 (cz _ (by omega)).1 (cz _ (by omega)).2
  · intro i h1 hi
    rw [rowsTo_get N hlC 8 (by omega) i hi, if_pos (by omega)]
    by_cases h : i % 8 = 0
    · have e : ∀ a b c d e f g h, rowF (i % 8) a b c d e f g h = row0 a b c d e f g h := fun _ _ _ _ _ _ _ _ => by rw [h]; rfl
      rw [e]
      exact row0_bd _ _ _ _ _ _ _ _ (cb _ (by omega) (by omega)).1 (cb _ (by omega) (by omega)).2 (cb _ (by omega) (by omega)).1 (cb _ (by omega) (by omega)).2 (cb _ (by omega) (by omega)).1 (cb _ (by omega) (by omega)).2 (cb _ (by omega) (by omega)).1 (cb _ (by omega) (by omega)).2 (cb _ (by omega) (by omega)).1 (cb _ (by omega) (by omega)).2 (cb _ (by omega) (by omega)).1 (cb _ (by omega) (by omega)).2 (cb _ (by omega) (by omega)).1 (cb _ (by omega) (by omega)).2 (cb _ (by omega) (by omega)).1 (cb _ (by omega) (by omega)).2
    · exact rowF_bd _ (by omega) _ _ _ _ _ _ _ _ (ca _ (by omega)).1 (ca _ (by omega)).2 (ca _ (by omega)).1 (ca _ (by omega)).2 (ca _ (by omega)).1 (ca _ (by omega)).2 (ca _ (by omega)).1 (ca _ (by omega)).2 (ca _ (by omega)).1 (ca _ (by omega)).2 (ca _ (by omega)).1 (ca _ (by omega)).2 (ca _ (by omega)).1 (ca _ (by omega)).2 (ca _ (by omega)).1 (ca _ (by omega)).2
end Go.Proofs.YtpophkigihfjoaaDoor
