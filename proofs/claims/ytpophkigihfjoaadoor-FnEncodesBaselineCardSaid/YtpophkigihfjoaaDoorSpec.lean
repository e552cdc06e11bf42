/- The four Huffman specifications, as a call of theHuffmanSpec yields them. -/
import Derived.Test.YtpophkigihfjoaaDoorSof
import Derived.Great.Walk
import Derived.Great.BuildSlice
namespace Go.Proofs.YtpophkigihfjoaaDoor
open Go.RowKit
set_option maxRecDepth 100000

/-- How many codes of each length the specification 0 has. -/
def cnt0 : List Int := [0, 1, 5, 1, 1, 1, 1, 1, 1, 0, 0, 0, 0, 0, 0, 0]
/-- The values of the specification 0, by code. -/
def val0 : List Int := [0, 1, 2, 3, 4, 5, 6, 7, 8, 9, 10, 11]
/-- How many codes of each length the specification 1 has. -/
def cnt1 : List Int := [0, 2, 1, 3, 3, 2, 4, 3, 5, 5, 4, 4, 0, 0, 1, 125]
/-- The values of the specification 1, by code. -/
def val1 : List Int := [1, 2, 3, 0, 4, 17, 5, 18, 33, 49, 65, 6, 19, 81, 97, 7, 34, 113, 20, 50, 129, 145, 161, 8, 35, 66, 177, 193, 21, 82, 209, 240, 36, 51, 98, 114, 130, 9, 10, 22, 23, 24, 25, 26, 37, 38, 39, 40, 41, 42, 52, 53, 54, 55, 56, 57, 58, 67, 68, 69, 70, 71, 72, 73, 74, 83, 84, 85, 86, 87, 88, 89, 90, 99, 100, 101, 102, 103, 104, 105, 106, 115, 116, 117, 118, 119, 120, 121, 122, 131, 132, 133, 134, 135, 136, 137, 138, 146, 147, 148, 149, 150, 151, 152, 153, 154, 162, 163, 164, 165, 166, 167, 168, 169, 170, 178, 179, 180, 181, 182, 183, 184, 185, 186, 194, 195, 196, 197, 198, 199, 200, 201, 202, 210, 211, 212, 213, 214, 215, 216, 217, 218, 225, 226, 227, 228, 229, 230, 231, 232, 233, 234, 241, 242, 243, 244, 245, 246, 247, 248, 249, 250]
/-- How many codes of each length the specification 2 has. -/
def cnt2 : List Int := [0, 3, 1, 1, 1, 1, 1, 1, 1, 1, 1, 0, 0, 0, 0, 0]
/-- The values of the specification 2, by code. -/
def val2 : List Int := [0, 1, 2, 3, 4, 5, 6, 7, 8, 9, 10, 11]
/-- How many codes of each length the specification 3 has. -/
def cnt3 : List Int := [0, 2, 1, 2, 4, 4, 3, 4, 7, 5, 4, 4, 0, 1, 2, 119]
/-- The values of the specification 3, by code. -/
def val3 : List Int := [0, 1, 2, 3, 17, 4, 5, 33, 49, 6, 18, 65, 81, 7, 97, 113, 19, 34, 50, 129, 8, 20, 66, 145, 161, 177, 193, 9, 35, 51, 82, 240, 21, 98, 114, 209, 10, 22, 36, 52, 225, 37, 241, 23, 24, 25, 26, 38, 39, 40, 41, 42, 53, 54, 55, 56, 57, 58, 67, 68, 69, 70, 71, 72, 73, 74, 83, 84, 85, 86, 87, 88, 89, 90, 99, 100, 101, 102, 103, 104, 105, 106, 115, 116, 117, 118, 119, 120, 121, 122, 130, 131, 132, 133, 134, 135, 136, 137, 138, 146, 147, 148, 149, 150, 151, 152, 153, 154, 162, 163, 164, 165, 166, 167, 168, 169, 170, 178, 179, 180, 181, 182, 183, 184, 185, 186, 194, 195, 196, 197, 198, 199, 200, 201, 202, 210, 211, 212, 213, 214, 215, 216, 217, 218, 226, 227, 228, 229, 230, 231, 232, 233, 234, 242, 243, 244, 245, 246, 247, 248, 249, 250]

/-- A specification's cells: its counts, and its values in block b. -/
def specC (c : List Int) (b n : Nat) : List Value := c.map B8 ++ [.slice (some ⟨b, 0, none⟩) n n]

def specsC (P : Nat) : List Value := specC cnt0 (P + 1) 12 ++ (specC cnt1 (P + 1 + 1) 162 ++ (specC cnt2 (P + 1 + 1 + 1) 12 ++ specC cnt3 (P + 1 + 1 + 1 + 1) 162))

set_option maxHeartbeats 4000000 in
theorem specs_any (w : World) : Calls Tryd.prog 39 #[] w fun e w' => e = .returned (.agg (specsC w.heap.size).toArray) ∧
    Fr (fun _ => False) w w' ∧ Blk w' (w.heap.size + 1) (val0.map B8) 5 ∧ Blk w' (w.heap.size + 1 + 1) (val1.map B8) 5 ∧ Blk w' (w.heap.size + 1 + 1 + 1) (val2.map B8) 5 ∧ Blk w' (w.heap.size + 1 + 1 + 1 + 1) (val3.map B8) 5 := by
  go_enter Tryd.func39, Tryd.ntmps39
  go_upto_region 1 with (fail)
  rename_i K2
  apply wp_region_lit
  refine wpList_buildFlatArrTo rfl 90 5 16 _ rfl .u8 cnt0 (some 1) rfl (by kernel_rfl) (by kernel_rfl) (by kernel_rfl) (by kernel_rfl) ?_
  refine wpList_buildFlatAt rfl 25 5 12 _ rfl .u8 val0 (w.heap.size + 1) (by simp only [World.size_alloc]) (some 2) rfl (by kernel_rfl) (by kernel_rfl) (by kernel_rfl) (by decide) (by decide) (by decide) (by kernel_rfl) ?_
  refine wpList_buildTo rfl 122 _ rfl (some 3) rfl (specC cnt0 (w.heap.size + 1) 12).toArray (by kernel_rfl) ?_
  refine wpList_buildFlatArrTo rfl 90 5 16 _ rfl .u8 cnt1 (some 4) rfl (by kernel_rfl) (by kernel_rfl) (by kernel_rfl) (by kernel_rfl) ?_
  refine wpList_buildFlatAt rfl 25 5 162 _ rfl .u8 val1 (w.heap.size + 1 + 1) (by simp only [World.size_alloc]) (some 5) rfl (by kernel_rfl) (by kernel_rfl) (by kernel_rfl) (by decide) (by decide) (by decide) (by kernel_rfl) ?_
  refine wpList_buildTo rfl 122 _ rfl (some 6) rfl (specC cnt1 (w.heap.size + 1 + 1) 162).toArray (by kernel_rfl) ?_
  refine wpList_buildFlatArrTo rfl 90 5 16 _ rfl .u8 cnt2 (some 7) rfl (by kernel_rfl) (by kernel_rfl) (by kernel_rfl) (by kernel_rfl) ?_
  refine wpList_buildFlatAt rfl 25 5 12 _ rfl .u8 val2 (w.heap.size + 1 + 1 + 1) (by simp only [World.size_alloc]) (some 8) rfl (by kernel_rfl) (by kernel_rfl) (by kernel_rfl) (by decide) (by decide) (by decide) (by kernel_rfl) ?_
  refine wpList_buildTo rfl 122 _ rfl (some 9) rfl (specC cnt2 (w.heap.size + 1 + 1 + 1) 12).toArray (by kernel_rfl) ?_
  refine wpList_buildFlatArrTo rfl 90 5 16 _ rfl .u8 cnt3 (some 10) rfl (by kernel_rfl) (by kernel_rfl) (by kernel_rfl) (by kernel_rfl) ?_
  refine wpList_buildFlatAt rfl 25 5 162 _ rfl .u8 val3 (w.heap.size + 1 + 1 + 1 + 1) (by simp only [World.size_alloc]) (some 11) rfl (by kernel_rfl) (by kernel_rfl) (by kernel_rfl) (by decide) (by decide) (by decide) (by kernel_rfl) ?_
  refine wpList_buildTo rfl 122 _ rfl (some 12) rfl (specC cnt3 (w.heap.size + 1 + 1 + 1 + 1) 162).toArray (by kernel_rfl) ?_
  refine wpList_buildTo rfl 123 _ rfl (some 13) rfl (specsC w.heap.size).toArray (by kernel_rfl) ?_
  have hb : Blk (((((w.alloc (.cells Tryd.zeroCells123 123)).alloc (.cells (val0.map B8).toArray 5)).alloc (.cells (val1.map B8).toArray 5)).alloc (.cells (val2.map B8).toArray 5)).alloc (.cells (val3.map B8).toArray 5)) w.heap.size (Tryd.zeroCells123).toList 123 := ((((Blk.newA w _ _).alloc _).alloc _).alloc _).alloc _
  have b0 : Blk (((((w.alloc (.cells Tryd.zeroCells123 123)).alloc (.cells (val0.map B8).toArray 5)).alloc (.cells (val1.map B8).toArray 5)).alloc (.cells (val2.map B8).toArray 5)).alloc (.cells (val3.map B8).toArray 5)) (w.heap.size + 1) (val0.map B8) 5 := by
    have := ((Blk.new (w.alloc (.cells Tryd.zeroCells123 123)) (val0.map B8) 5).alloc (.cells (val1.map B8).toArray 5)).alloc (.cells (val2.map B8).toArray 5) |>.alloc (.cells (val3.map B8).toArray 5)
    simpa only [World.size_alloc] using this
  have b1 : Blk (((((w.alloc (.cells Tryd.zeroCells123 123)).alloc (.cells (val0.map B8).toArray 5)).alloc (.cells (val1.map B8).toArray 5)).alloc (.cells (val2.map B8).toArray 5)).alloc (.cells (val3.map B8).toArray 5)) (w.heap.size + 1 + 1) (val1.map B8) 5 := by
    have := ((Blk.new ((w.alloc (.cells Tryd.zeroCells123 123)).alloc (.cells (val0.map B8).toArray 5)) (val1.map B8) 5).alloc (.cells (val2.map B8).toArray 5)).alloc (.cells (val3.map B8).toArray 5)
    simpa only [World.size_alloc] using this
  have b2 : Blk (((((w.alloc (.cells Tryd.zeroCells123 123)).alloc (.cells (val0.map B8).toArray 5)).alloc (.cells (val1.map B8).toArray 5)).alloc (.cells (val2.map B8).toArray 5)).alloc (.cells (val3.map B8).toArray 5)) (w.heap.size + 1 + 1 + 1) (val2.map B8) 5 := by
    have := (Blk.new (((w.alloc (.cells Tryd.zeroCells123 123)).alloc (.cells (val0.map B8).toArray 5)).alloc (.cells (val1.map B8).toArray 5)) (val2.map B8) 5).alloc (.cells (val3.map B8).toArray 5)
    simpa only [World.size_alloc] using this
  have b3 : Blk (((((w.alloc (.cells Tryd.zeroCells123 123)).alloc (.cells (val0.map B8).toArray 5)).alloc (.cells (val1.map B8).toArray 5)).alloc (.cells (val2.map B8).toArray 5)).alloc (.cells (val3.map B8).toArray 5)) (w.heap.size + 1 + 1 + 1 + 1) (val3.map B8) 5 := by
    have := Blk.new ((((w.alloc (.cells Tryd.zeroCells123 123)).alloc (.cells (val0.map B8).toArray 5)).alloc (.cells (val1.map B8).toArray 5)).alloc (.cells (val2.map B8).toArray 5)) (val3.map B8) 5
    simpa only [World.size_alloc] using this
  have hf : Fr (fun _ => False) w (((((w.alloc (.cells Tryd.zeroCells123 123)).alloc (.cells (val0.map B8).toArray 5)).alloc (.cells (val1.map B8).toArray 5)).alloc (.cells (val2.map B8).toArray 5)).alloc (.cells (val3.map B8).toArray 5)) := ((((Fr.refl _ w).alloc _).alloc _).alloc _).alloc _ |>.alloc _
  refine wpList_store_rowTo rfl 123 _ _ rfl rfl w.heap.size (specsC w.heap.size).toArray (by kernel_rfl) (by kernel_rfl) 123 _ hb (by kernel_rfl) (by kernel_rfl) (by kernel_rfl) ?_
  apply wpList_nil
  refine K2 _ _ ?_
  apply wp_ret
  show bodyPost Tryd.prog Tryd.f39 _ .ret _ _
  refine bodyPost_ret (v := .agg (specsC w.heap.size).toArray) (results_cell_row (d := .array 4 122) rfl _ _ w.heap.size 123 (specsC w.heap.size).toArray (0, 0) (by kernel_rfl) (setRow_heap _ _ _ _ _ _ hb) (by kernel_rfl) rfl (by kernel_rfl)) rfl ⟨rfl, ?_, ?_, ?_, ?_, ?_⟩
  · exact hf.setRow w.heap.size (fun e => absurd e (by omega)) _
  all_goals first | exact b0.of_heap (setRow_other _ _ _ _ (by omega)) | exact b1.of_heap (setRow_other _ _ _ _ (by omega)) | exact b2.of_heap (setRow_other _ _ _ _ (by omega)) | exact b3.of_heap (setRow_other _ _ _ _ (by omega))
end Go.Proofs.YtpophkigihfjoaaDoor
