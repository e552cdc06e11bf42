/- What the listed package variables give the walks: the three tables in memory (Tabs). -/
import Derived.Test.YtpophkigihfjoaaDoorLawA
import Derived.Test.YtpophkigihfjoaaDoorTie
import Derived.ProofKit
import Derived.OpenShut
import Derived.LaidMore
import Derived.Lay
import Derived.Stop.Joined
namespace Go.Proofs.YtpophkigihfjoaaDoor
open Go.ChangeShapes Go.WideShapes Go.ChangeAt Go.RowKit
set_option maxRecDepth 100000

def laid3 : List (String × DataW Unit) := [("jpegstreams/pub/jpeg.unzig", Rows.laid_jpegstreams_pub_jpeg_unzig), ("jpegstreams/pub/jpeg.bitCount", Rows.laid_jpegstreams_pub_jpeg_bitCount), ("jpegstreams/pub/jpeg.unscaledQuant", Rows.laid_jpegstreams_pub_jpeg_unscaledQuant)]

theorem own : ownKnob Tryd.prog.godebug = none := by kernel_rfl
theorem laidOut : laidOutB Tryd.prog = true := by kernel_rfl

def bcL : List Int := (List.range 256).map fun i => (cat i : Int)
theorem laid_unzig : (Rows.laid_jpegstreams_pub_jpeg_unzig : DataW Unit) = .agg (unzigL.map fun n => .lit (.int .i64 n)) := by kernel_rfl
theorem laid_bits : (Rows.laid_jpegstreams_pub_jpeg_bitCount : DataW Unit) = .agg (bcL.map fun n => .lit (.int .u8 n)) := by kernel_rfl
theorem laid_uq : (Rows.laid_jpegstreams_pub_jpeg_unscaledQuant : DataW Unit) = .agg [.agg ((uqL.take 64).map fun n => .lit (.int .u8 n)), .agg ((uqL.drop 64).map fun n => .lit (.int .u8 n))] := by kernel_rfl

/-- An array of whole numbers that reads as this list holds it, cell by cell. -/
theorem arr_ints {H : Type} {enc : TypeId × Value → H} {P : Program} {W : World} {base : Nat} {spare : Nat → Bool} {held : Bool} {fuel : Nat} {t e : TypeId} {n : Nat} {k : IntKind} {cs : List Value} {zs : List Int} {q : List MemPlace}
    (ht : P.underlying t = some (.array n e)) (he : P.underlying e = some (.int k)) (hc : P.cellsOf e = 1) (hd : DataW.trod enc P W base spare held fuel t cs = some (.agg (zs.map fun z => .lit (.int k z)), q)) (hz : zs.length = n) :
    ∀ r, r < n → cs[r]? = some (.int k (zs.getD r 0)) := by
  intro r hr
  obtain ⟨xs, m, _, ex, _, hl, hel⟩ := DataW.trod_array ht hd
  have hE := hel r hr
  rw [hc, Nat.mul_one, List.getElem?_eq_getElem (by omega)] at hE
  obtain ⟨z, e1, e2, _⟩ := DataW.trod_int he hE
  have e3 : (xs.map (·.1)) = zs.map fun n => .lit (.int k n) := (DataW.agg.inj (Prod.mk.inj ex).1).symm
  have e4 : (xs.map (·.1))[r]? = (zs.map fun n => (DataW.lit (.int k n) : DataW H))[r]? := by rw [e3]
  rw [List.getElem?_map, List.getElem?_map, List.getElem?_eq_getElem (by omega : r < xs.length), List.getElem?_eq_getElem (by omega : r < zs.length), e2] at e4
  have hz2 : z = zs.getD r 0 := by
    simp only [Option.map_some, Option.some.injEq, DataW.lit.injEq, Lit.int.injEq, true_and] at e4
    rw [e4, List.getD, List.getElem?_eq_getElem (by omega : r < zs.length)]; rfl
  rw [← hz2]
  have h0 : ((cs.drop r).take 1)[0]? = some (.int k z) := by rw [e1]; rfl
  simpa using h0

theorem tabs_of_laid {W : World} (h : laidMetH Tryd.prog laid3 W) : Tabs W := by
  rw [MakeChecks.laidMetH_plain _ _ _ (by kernel_rfl)] at h
  obtain ⟨ps, ⟨g1, t1, cs1, f1, p1, q1, hg1, ht1, hv1, hd1, ⟨g2, t2, cs2, f2, p2, q2, hg2, ht2, hv2, hd2, ⟨g0, t0, cs0, f0, p0, q0, hg0, ht0, hv0, hd0, _, _⟩, _⟩, _⟩, _, _⟩ := h
  obtain rfl := Option.some.inj ((show Tryd.prog.globalNamed "jpegstreams/pub/jpeg.unzig" = some 1 by kernel_rfl).symm.trans hg1)
  obtain rfl := Option.some.inj ((show Tryd.prog.globalNamed "jpegstreams/pub/jpeg.bitCount" = some 2 by kernel_rfl).symm.trans hg2)
  obtain rfl := Option.some.inj ((show Tryd.prog.globalNamed "jpegstreams/pub/jpeg.unscaledQuant" = some 0 by kernel_rfl).symm.trans hg0)
  obtain rfl := Option.some.inj ((show (Tryd.prog.globals[1]?).map (·.type) = some 77 by kernel_rfl).symm.trans ht1)
  obtain rfl := Option.some.inj ((show (Tryd.prog.globals[2]?).map (·.type) = some 180 by kernel_rfl).symm.trans ht2)
  obtain rfl := Option.some.inj ((show (Tryd.prog.globals[0]?).map (·.type) = some 93 by kernel_rfl).symm.trans ht0)
  have c5 : Tryd.prog.cellsOf 5 = 1 := by kernel_rfl
  have c3 : Tryd.prog.cellsOf 3 = 1 := by kernel_rfl
  have c92 : Tryd.prog.cellsOf 92 = 64 := by kernel_rfl
  rw [laid_unzig] at hd1
  rw [laid_bits] at hd2
  rw [laid_uq] at hd0
  refine ⟨⟨fun i hi => ?_, fun i hi => ?_⟩, fun i hi => ?_⟩
  · rw [World.var?_cell hg1 hv1 i]
    have := arr_ints Tryd.underlying77 Tryd.underlying3 c3 hd1 rfl i hi
    simpa using this
  · rw [World.var?_cell hg2 hv2 i]
    have := arr_ints Tryd.underlying180 Tryd.underlying5 c5 hd2 rfl i hi
    have e : bcL.getD i 0 = (cat i : Int) := by
      unfold bcL
      rw [List.getD_eq_getElem?_getD, List.getElem?_map, List.getElem?_range hi]; rfl
    rw [e] at this
    simpa using this
  · rw [World.var?_cell hg0 hv0 i]
    obtain ⟨xs, m, _, ex, _, hl, hel⟩ := DataW.trod_array Tryd.underlying93 hd0
    have e3 : (xs.map (·.1)) = [.agg ((uqL.take 64).map fun n => .lit (.int .u8 n)), .agg ((uqL.drop 64).map fun n => .lit (.int .u8 n))] := (DataW.agg.inj (Prod.mk.inj ex).1).symm
    rcases xs with _ | ⟨⟨x0, r0⟩, _ | ⟨⟨x1, r1⟩, _ | ⟨_, _⟩⟩⟩
    · simp at hl
    · simp at hl
    · simp only [List.map_cons, List.map_nil, List.cons.injEq, and_true] at e3
      obtain ⟨rfl, rfl⟩ := e3
      have h0 := hel 0 (by omega)
      have h1 := hel 1 (by omega)
      rw [c92] at h0 h1
      have a0 := arr_ints Tryd.underlying92 Tryd.underlying5 c5 h0 (by decide)
      have a1 := arr_ints Tryd.underlying92 Tryd.underlying5 c5 h1 (by decide)
      by_cases h64 : i < 64
      · have := a0 i h64
        rw [List.getElem?_take_of_lt h64, List.getElem?_drop, Nat.zero_mul, Nat.zero_add] at this
        have e : (uqL.take 64).getD i 0 = uqL.getD i 0 := by rw [List.getD_eq_getElem?_getD, List.getD_eq_getElem?_getD, List.getElem?_take_of_lt h64]
        rw [e] at this
        simpa using this
      · have := a1 (i - 64) (by omega)
        rw [List.getElem?_take_of_lt (by omega), List.getElem?_drop, show 1 * 64 + (i - 64) = i by omega] at this
        have e : (uqL.drop 64).getD (i - 64) 0 = uqL.getD i 0 := by rw [List.getD_eq_getElem?_getD, List.getD_eq_getElem?_getD, List.getElem?_drop, show 64 + (i - 64) = i by omega]
        rw [e] at this
        simpa using this
    · simp at hl

/-- A slice of whole numbers that came in. -/
theorem nums_of {H : Type} {enc : TypeId × Value → H} {W : World} {sp : Nat → Bool} {fuel : Nat} {v : Value} {x : DataW H × List MemPlace} (hv : ∃ a l c, v = .slice a l c) (hsp : ∀ b, sp b = true)
    (hf : DataW.trod enc Tryd.prog W 0 sp true fuel 22 v.cells.toList = some x) : ∃ a L C, v = .slice a L C ∧ NumsIn W a L := by
  obtain ⟨a0, len, cap, rfl⟩ := hv
  have c3 : Tryd.prog.cellsOf 3 = 1 := by kernel_rfl
  rcases open_ints Tryd.underlying22 Tryd.underlying3 c3 hf with ⟨hcs, hx⟩ | ⟨a, len', cap', zs, hcs, _, hl, hm, hz, hx, hcell, hwz⟩
  · simp [Value.cells] at hcs
    obtain ⟨rfl, rfl, rfl⟩ := hcs
    exact ⟨none, 0, 0, rfl, fun i hi => by omega, fun b hb => by cases hb⟩
  · simp [Value.cells] at hcs
    obtain ⟨rfl, rfl, rfl⟩ := hcs
    rw [hsp, if_pos rfl] at hz
    refine ⟨some a, len, cap, rfl, fun i hi => ⟨a, _, rfl, hcell i (by omega)⟩, fun b hb => ?_⟩
    obtain rfl := Option.some.inj hb
    by_cases h0 : len = 0
    · exact .inr h0
    · left
      have := World.block_lt_of_cell? W _ (hcell 0 (by omega))
      rwa [block_add'] at this
end Go.Proofs.YtpophkigihfjoaaDoor
