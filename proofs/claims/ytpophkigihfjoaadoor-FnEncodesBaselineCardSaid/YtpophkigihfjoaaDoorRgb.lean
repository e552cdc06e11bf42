/- The walk of color.RGBToYCbCr. -/
import Derived.Test.YtpophkigihfjoaaDoorMem
import Derived.Test.YtpophkigihfjoaaDoorProg
import Derived.Lib.Hide
namespace Go.Proofs.YtpophkigihfjoaaDoor
open Go.RowKit
set_option maxRecDepth 100000

/-- A colour difference, cut to a byte. -/
def chroma (c : Int) : Int := if (bits BinOp.and IntKind.u32 c 4278190080 == 0) = true then c / 65536 % 256 else bits BinOp.xor IntKind.i32 (-1) (c / 2147483648) % 256

def yP (r g b : Int) : Int := (19595 * r + 38470 * g + 7471 * b + 32768) / 65536
def cbP (r g b : Int) : Int := chroma (-11056 * r - 21712 * g + 32768 * b + 8421376)
def crP (r g b : Int) : Int := chroma (32768 * r - 27440 * g - 5328 * b + 8421376)

theorem chroma_byte (c : Int) : 0 ≤ chroma c ∧ chroma c ≤ 255 := by
  unfold chroma
  split <;> omega

theorem yP_byte (r g b : Int) (hr : 0 ≤ r) (hr2 : r ≤ 255) (hg : 0 ≤ g) (hg2 : g ≤ 255) (hb : 0 ≤ b) (hb2 : b ≤ 255) : 0 ≤ yP r g b ∧ yP r g b ≤ 255 := by
  unfold yP
  omega

set_option maxHeartbeats 1000000 in
theorem rgb_any (r g b : Int) (w : World) (hr : 0 ≤ r) (hr2 : r ≤ 255) (hg : 0 ≤ g) (hg2 : g ≤ 255) (hb : 0 ≤ b) (hb2 : b ≤ 255) :
    Calls Tryd.prog 63 #[.int .u8 r, .int .u8 g, .int .u8 b] w fun e w' => e = .returned (.tuple #[.int .u8 (yP r g b), .int .u8 (cbP r g b), .int .u8 (crP r g b)]) ∧ w = w' := by
  unfold yP cbP crP
  rcases h1 : (bits BinOp.and IntKind.u32 (-11056 * r - 21712 * g + 32768 * b + 8421376) 4278190080 == 0) with _ | _ <;>
  rcases h2 : (bits BinOp.and IntKind.u32 (32768 * r - 27440 * g - 5328 * b + 8421376) 4278190080 == 0) with _ | _
  all_goals
    have e1 := show chroma (-11056 * r - 21712 * g + 32768 * b + 8421376) = _ from by unfold chroma; rw [h1]
    have e2 := show chroma (32768 * r - 27440 * g - 5328 * b + 8421376) = _ from by unfold chroma; rw [h2]
    simp only [Bool.false_eq_true, if_true, if_false] at e1 e2
    rw [e1, e2]
    clear e1 e2
    go_enter Tryd.func63, Tryd.ntmps63
    go_wp2
    go_ret3
    exact ⟨rfl, rfl⟩
end Go.Proofs.YtpophkigihfjoaaDoor
