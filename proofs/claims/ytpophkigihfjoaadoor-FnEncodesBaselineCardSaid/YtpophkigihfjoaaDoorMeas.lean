/- The walk of measured. -/
import Derived.Test.YtpophkigihfjoaaDoorJenc
namespace Go.Proofs.YtpophkigihfjoaaDoor
open Go.RowKit Go.Great
set_option maxRecDepth 100000

/-- What measured makes: three small numbers. -/
def MeasPost (w : World) (e : Ending) (w' : World) : Prop := ∃ W H Q : Nat, e = .returned (.tuple #[.int .i64 W, .int .i64 H, .int .i64 Q]) ∧ w' = w ∧ 1 ≤ W ∧ W ≤ 40 ∧ 1 ≤ H ∧ H ≤ 40 ∧ 1 ≤ Q ∧ Q ≤ 100

theorem tm (x n : Int) (hn : 0 < n) : -n < x.tmod n ∧ x.tmod n < n := by
  refine ⟨?_, Int.tmod_lt_of_pos x hn⟩
  have h := Int.tmod_lt_of_pos (-x) hn
  rw [Int.neg_tmod] at h
  omega

theorem nat_of (a : Int) (n : Int) (hn : 0 < n) : ∃ k : Nat, (1 + a % n) = (k : Int) ∧ 1 ≤ (k : Int) ∧ (k : Int) ≤ n := by
  have h1 := Int.emod_nonneg a (show n ≠ 0 by omega)
  have h2 := Int.emod_lt_of_pos a hn
  exact ⟨(1 + a % n).toNat, by omega, by omega, by omega⟩

set_option maxHeartbeats 400000 in
theorem meas_any (w : World) (x y z : Int) : Calls Tryd.prog 5 #[.int .i64 x, .int .i64 y, .int .i64 z] w (MeasPost w) := by
  have tx := tm x 40 (by omega)
  have ty := tm y 40 (by omega)
  have tz := tm z 100 (by omega)
  go_enter Tryd.func5, Tryd.ntmps5
  go_wp2
  refine bodyPost_ret (v := .tuple #[.int .i64 (1 + x.tmod 40 % 40), .int .i64 (1 + y.tmod 40 % 40), .int .i64 (1 + z.tmod 100 % 100)]) (by simp [results, Tryd.results5, go_sem]) rfl ?_
  obtain ⟨W, e1, a1, a2⟩ := nat_of (x.tmod 40) 40 (by omega)
  obtain ⟨H, e2, b1, b2⟩ := nat_of (y.tmod 40) 40 (by omega)
  obtain ⟨Q, e3, c1, c2⟩ := nat_of (z.tmod 100) 100 (by omega)
  rw [e1, e2, e3]
  exact ⟨W, H, Q, rfl, rfl, by omega, by omega, by omega, by omega, by omega, by omega⟩
end Go.Proofs.YtpophkigihfjoaaDoor
