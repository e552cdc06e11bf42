/- The walks of the transform's constants and of its box. -/
import Derived.Test.YtpophkigihfjoaaDoorMem
import Derived.Test.YtpophkigihfjoaaDoorProg
namespace Go.Proofs.YtpophkigihfjoaaDoor
open Go.RowKit
set_option maxRecDepth 100000

theorem c_cos3_18 (w : World) : Calls Tryd.prog 70 #[.int .u64 958619196450722178, .int .i64 18] w fun e w' => e = .returned (.int .i32 217965) ∧ w = w' := by
  go_enter Tryd.func70, Tryd.ntmps70
  go_wp2
  go_ret
  exact ⟨rfl, rfl⟩

theorem c_sin3_18 (w : World) : Calls Tryd.prog 70 #[.int .u64 640528868967736374, .int .i64 18] w fun e w' => e = .returned (.int .i32 145639) ∧ w = w' := by
  go_enter Tryd.func70, Tryd.ntmps70
  go_wp2
  go_ret
  exact ⟨rfl, rfl⟩

theorem c_cos1_18 (w : World) : Calls Tryd.prog 70 #[.int .u64 1130768441178740757, .int .i64 18] w fun e w' => e = .returned (.int .i32 257107) ∧ w = w' := by
  go_enter Tryd.func70, Tryd.ntmps70
  go_wp2
  go_ret
  exact ⟨rfl, rfl⟩

theorem c_sin1_18 (w : World) : Calls Tryd.prog 70 #[.int .u64 224923827593068887, .int .i64 18] w fun e w' => e = .returned (.int .i32 51142) ∧ w = w' := by
  go_enter Tryd.func70, Tryd.ntmps70
  go_wp2
  go_ret
  exact ⟨rfl, rfl⟩

theorem c_sqrt2_cos6_18 (w : World) : Calls Tryd.prog 70 #[.int .u64 623956622067911264, .int .i64 18] w fun e w' => e = .returned (.int .i32 141871) ∧ w = w' := by
  go_enter Tryd.func70, Tryd.ntmps70
  go_wp2
  go_ret
  exact ⟨rfl, rfl⟩

theorem c_sqrt2_sin6_18 (w : World) : Calls Tryd.prog 70 #[.int .u64 1506364539328854985, .int .i64 18] w fun e w' => e = .returned (.int .i32 342508) ∧ w = w' := by
  go_enter Tryd.func70, Tryd.ntmps70
  go_wp2
  go_ret
  exact ⟨rfl, rfl⟩

theorem c_sqrt2_12 (w : World) : Calls Tryd.prog 70 #[.int .u64 1630477228166597777, .int .i64 12] w fun e w' => e = .returned (.int .i32 5793) ∧ w = w' := by
  go_enter Tryd.func70, Tryd.ntmps70
  go_wp2
  go_ret
  exact ⟨rfl, rfl⟩

theorem c_cos3_14 (w : World) : Calls Tryd.prog 70 #[.int .u64 958619196450722178, .int .i64 14] w fun e w' => e = .returned (.int .i32 13623) ∧ w = w' := by
  go_enter Tryd.func70, Tryd.ntmps70
  go_wp2
  go_ret
  exact ⟨rfl, rfl⟩

theorem c_sin3_14 (w : World) : Calls Tryd.prog 70 #[.int .u64 640528868967736374, .int .i64 14] w fun e w' => e = .returned (.int .i32 9102) ∧ w = w' := by
  go_enter Tryd.func70, Tryd.ntmps70
  go_wp2
  go_ret
  exact ⟨rfl, rfl⟩

theorem c_cos1_14 (w : World) : Calls Tryd.prog 70 #[.int .u64 1130768441178740757, .int .i64 14] w fun e w' => e = .returned (.int .i32 16069) ∧ w = w' := by
  go_enter Tryd.func70, Tryd.ntmps70
  go_wp2
  go_ret
  exact ⟨rfl, rfl⟩

theorem c_sin1_14 (w : World) : Calls Tryd.prog 70 #[.int .u64 224923827593068887, .int .i64 14] w fun e w' => e = .returned (.int .i32 3196) ∧ w = w' := by
  go_enter Tryd.func70, Tryd.ntmps70
  go_wp2
  go_ret
  exact ⟨rfl, rfl⟩

theorem c_sqrt2_cos6_14 (w : World) : Calls Tryd.prog 70 #[.int .u64 623956622067911264, .int .i64 14] w fun e w' => e = .returned (.int .i32 8867) ∧ w = w' := by
  go_enter Tryd.func70, Tryd.ntmps70
  go_wp2
  go_ret
  exact ⟨rfl, rfl⟩

theorem c_sqrt2_sin6_14 (w : World) : Calls Tryd.prog 70 #[.int .u64 1506364539328854985, .int .i64 14] w fun e w' => e = .returned (.int .i32 21407) ∧ w = w' := by
  go_enter Tryd.func70, Tryd.ntmps70
  go_wp2
  go_ret
  exact ⟨rfl, rfl⟩

theorem c_sqrt2_14 (w : World) : Calls Tryd.prog 70 #[.int .u64 1630477228166597777, .int .i64 14] w fun e w' => e = .returned (.int .i32 23170) ∧ w = w' := by
  go_enter Tryd.func70, Tryd.ntmps70
  go_wp2
  go_ret
  exact ⟨rfl, rfl⟩

/-- The box of the transform: its two answers, in 32 bits. -/
def boxA (x0 x1 kc ks : Int) : Int := wrap32 (wrap32 (kc * wrap32 (x0 + x1)) + wrap32 (wrap32 (ks - kc) * x1))
def boxB (x0 x1 kc ks : Int) : Int := wrap32 (wrap32 (kc * wrap32 (x0 + x1)) - wrap32 (wrap32 (kc + ks) * x0))

abbrev I32 (n : Int) : Value := .int .i32 n

/-- One column of the forward transform, in 32 bits: its eight answers, by row. -/
def col0 (x0 x1 x2 x3 x4 x5 x6 x7 : Int) : Int := wrap32 (wrap32 (wrap32 (wrap32 (wrap32 (x0 + x7) + wrap32 (x3 + x4)) + wrap32 (wrap32 (x1 + x6) + wrap32 (x2 + x5))) - 1024) * 262144)
def col4 (x0 x1 x2 x3 x4 x5 x6 x7 : Int) : Int := wrap32 (wrap32 (wrap32 (wrap32 (x0 + x7) + wrap32 (x3 + x4)) - wrap32 (wrap32 (x1 + x6) + wrap32 (x2 + x5))) * 262144)
def col2 (x0 x1 x2 x3 x4 x5 x6 x7 : Int) : Int := boxA (wrap32 (wrap32 (x1 + x6) - wrap32 (x2 + x5))) (wrap32 (wrap32 (x0 + x7) - wrap32 (x3 + x4))) 141871 342508
def col6 (x0 x1 x2 x3 x4 x5 x6 x7 : Int) : Int := boxB (wrap32 (wrap32 (x1 + x6) - wrap32 (x2 + x5))) (wrap32 (wrap32 (x0 + x7) - wrap32 (x3 + x4))) 141871 342508
def col1 (x0 x1 x2 x3 x4 x5 x6 x7 : Int) : Int := wrap32 (wrap32 (boxB (wrap32 (x3 - x4)) (wrap32 (x0 - x7)) 217965 145639 + boxA (wrap32 (x2 - x5)) (wrap32 (x1 - x6)) 257107 51142) + wrap32 (boxA (wrap32 (x3 - x4)) (wrap32 (x0 - x7)) 217965 145639 + boxB (wrap32 (x2 - x5)) (wrap32 (x1 - x6)) 257107 51142))
def col3 (x0 x1 x2 x3 x4 x5 x6 x7 : Int) : Int := wrap32 (wrap32 (boxB (wrap32 (x3 - x4)) (wrap32 (x0 - x7)) 217965 145639 - boxA (wrap32 (x2 - x5)) (wrap32 (x1 - x6)) 257107 51142) / 4096 * 5793)
def col5 (x0 x1 x2 x3 x4 x5 x6 x7 : Int) : Int := wrap32 (wrap32 (boxA (wrap32 (x3 - x4)) (wrap32 (x0 - x7)) 217965 145639 - boxB (wrap32 (x2 - x5)) (wrap32 (x1 - x6)) 257107 51142) / 4096 * 5793)
def col7 (x0 x1 x2 x3 x4 x5 x6 x7 : Int) : Int := wrap32 (wrap32 (boxB (wrap32 (x3 - x4)) (wrap32 (x0 - x7)) 217965 145639 + boxA (wrap32 (x2 - x5)) (wrap32 (x1 - x6)) 257107 51142) - wrap32 (boxA (wrap32 (x3 - x4)) (wrap32 (x0 - x7)) 217965 145639 + boxB (wrap32 (x2 - x5)) (wrap32 (x1 - x6)) 257107 51142))

/-- Column k is transformed, the eight numbers of it given. -/
def colSet (M : List Int) (k : Nat) (x0 x1 x2 x3 x4 x5 x6 x7 : Int) : List Int :=
  (((((((M.set k (col0 x0 x1 x2 x3 x4 x5 x6 x7)).set (32 + k) (col4 x0 x1 x2 x3 x4 x5 x6 x7)).set (16 + k) (col2 x0 x1 x2 x3 x4 x5 x6 x7)).set (48 + k) (col6 x0 x1 x2 x3 x4 x5 x6 x7)).set (8 + k) (col1 x0 x1 x2 x3 x4 x5 x6 x7)).set (24 + k) (col3 x0 x1 x2 x3 x4 x5 x6 x7)).set (40 + k) (col5 x0 x1 x2 x3 x4 x5 x6 x7)).set (56 + k) (col7 x0 x1 x2 x3 x4 x5 x6 x7)

def colStep (M : List Int) (k : Nat) : List Int :=
  colSet M k (M.getD k 0) (M.getD (8 + k) 0) (M.getD (16 + k) 0) (M.getD (24 + k) 0) (M.getD (32 + k) 0) (M.getD (40 + k) 0) (M.getD (48 + k) 0) (M.getD (56 + k) 0)

theorem length_colStep (M : List Int) (k : Nat) : (colStep M k).length = M.length := by simp [colStep, colSet]

def colsTo (M : List Int) (k : Nat) : List Int := (List.range k).foldl colStep M
theorem colsTo_zero (M : List Int) : colsTo M 0 = M := rfl
theorem colsTo_succ (M : List Int) (k : Nat) : colsTo M (k + 1) = colStep (colsTo M k) k := by simp [colsTo, List.range_succ]
theorem length_colsTo (M : List Int) (k : Nat) : (colsTo M k).length = M.length := by
  induction k with
  | zero => rfl
  | succ k ih => rw [colsTo_succ, length_colStep, ih]

set_option maxHeartbeats 400000 in
theorem dctBox_any (x0 x1 kc ks : Int) (w : World) :
    Calls Tryd.prog 69 #[.int .i32 x0, .int .i32 x1, .int .i32 kc, .int .i32 ks] w fun e w' => e = .returned (.tuple #[.int .i32 (boxA x0 x1 kc ks), .int .i32 (boxB x0 x1 kc ks)]) ∧ w = w' := by
  go_enter Tryd.func69, Tryd.ntmps69
  go_wp2
  go_ret2
  exact ⟨rfl, rfl⟩

end Go.Proofs.YtpophkigihfjoaaDoor
