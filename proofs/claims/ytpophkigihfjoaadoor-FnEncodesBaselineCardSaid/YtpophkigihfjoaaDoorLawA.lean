/- The walk of FnDefaultQuality. -/
import Derived.Test.YtpophkigihfjoaaDoorImp
import Derived.Laws.BytesArg
namespace Go.Proofs.YtpophkigihfjoaaDoor
open Go.RowKit Go.Great
set_option maxRecDepth 100000

/-- What a law leaves: true, and nothing old changed. -/
def LawPost (w : World) (e : Ending) (w' : World) : Prop := e = .returned (.bool true) ∧ Fr (fun _ => False) w w'

/-- The numbers that came in, of whatever length. -/
structure NumsIn (w : World) (a : Option Addr) (L : Nat) : Prop where
  cell : ∀ i, i < L → ∃ b z, a = some b ∧ w.cell? (b.add i) = some (.int .i64 z)
  blk : ∀ b, a = some b → b.block < w.heap.size ∨ L = 0

theorem und9 : Tryd.prog.underlying 9 = some .string := by kernel_rfl
theorem und5 : Tryd.prog.underlying 5 = some (.int .u8) := by kernel_rfl

/-- A slice of bytes that the call owns, opened. -/
theorem own_open {w : World} {v : Value} {xs : List Int} {base : Nat} (h : w.ownsRow base 5 1 v xs.length (xs.map B8)) (hx : 0 < xs.length) :
    ∃ g cap, v = .slice (some ⟨g, 0, none⟩) xs.length cap ∧ base ≤ g ∧ g < w.heap.size ∧ ∀ j, j < xs.length → w.cell? ⟨g, j, none⟩ = some (B8 (xs.getD j 0)) := by
  obtain ⟨g, cap, hv, hb⟩ : ∃ g cap, v = .slice (some ⟨g, 0, none⟩) xs.length cap ∧ base ≤ g := by
    rcases h.2 with ⟨_, h0⟩ | ⟨g, cap, _, hv, hb, _⟩
    · omega
    · exact ⟨g, cap, hv, hb⟩
  refine ⟨g, cap, hv, hb, (World.ownsRow.lt h g (by rw [hv]; rfl)).2, fun j hj => ?_⟩
  have := World.ownsRow.cells h (g := g) (by rw [hv]; rfl) j (B8 (xs.getD j 0)) (by rw [List.getElem?_map, List.getD_eq_getElem?_getD, List.getElem?_eq_getElem hj]; rfl)
  have e : (⟨g, 0, none⟩ : Addr).add j = ⟨g, j, none⟩ := by unfold Addr.add; split <;> simp_all
  rwa [e] at this

theorem jpegP_pos (pix : List Int) (W H Q : Nat) : 0 < (jpegP pix W H Q).length := by
  unfold jpegP
  rw [List.length_append]
  show 0 < _ + 2
  omega

set_option maxHeartbeats 400000 in
theorem lawA_big {w : World} {a : Option Addr} {x y : Int} {L C : Nat} (hL : 2147483647 < L) : Calls Tryd.prog 3 #[.int .i64 x, .int .i64 y, .slice a L C] w (LawPost w) := by
  have d1 : decide (2147483647 < (L : Int)) = true := by simp; omega
  go_enter Tryd.func3, Tryd.ntmps3
  go_wp2
  go_ret
  exact ⟨rfl, Fr.refl _ _⟩

set_option maxHeartbeats 2000000 in
theorem lawA_small {w : World} {a : Option Addr} {x y : Int} {L C : Nat} (hT : Tabs w) (hN : NumsIn w a L) (hL : L ≤ 2147483647) : Calls Tryd.prog 3 #[.int .i64 x, .int .i64 y, .slice a L C] w (LawPost w) := by
  have d1 : decide (2147483647 < (L : Int)) = false := by simp; omega
  have HT := hu hT
  have HN := hu (NumsW.mk hN.cell hN.blk hL)
  clear hT hN hL
  go_enter Tryd.func3, Tryd.ntmps3
  go_wp2_with fail
  refine (meas_any w x y 0).mono ?_
  rintro e w1 ⟨W, H, Q, rfl, rfl, w1, w2, h1, h2, -, -⟩
  go_wp2_with fail
  refine (pixels_any (C := C) (HN.out ()) w1 w2 h1 h2).mono ?_
  rintro e wp ⟨v, rfl, pix, hl, hb, hown, hf⟩
  rw [← hl] at hown
  obtain ⟨g, cap, rfl, hg1, hg2, hgc⟩ := own_open hown (by rw [hl]; exact Nat.mul_pos (by omega) h1)
  have HP := hu (PixW.mk (w := wp) (g := g) (n := 4 * W * H) hl (fun j hj => hgc j (by rw [hl]; exact hj)) hg2 hb)
  have HTp := hu ((HT.out ()).frame hf (fun _ _ e => e))
  have HF := hu hf
  rw [hl]
  clear hl hb hown hf hgc
  go_wp2_with fail
  refine (imp_any (q := 0) (Q := 75) (C := cap) (HTp.out ()) (HP.out ()) w1 w2 h1 h2 (.inl ⟨rfl, rfl⟩)).mono ?_
  rintro e wq ⟨v1, rfl, o1, _, f1⟩
  obtain ⟨g1, cap1, rfl, -, hg1lt, hc1⟩ := own_open o1 (jpegP_pos _ _ _ _)
  have HTq := hu ((HTp.out ()).frame f1 (fun _ _ e => e))
  have HPq := hu ((HP.out ()).frame f1 (fun e => e))
  have HC1 := hu hc1
  have HF1 := hu ((HF.out ()).trans f1 (fun _ _ e => e))
  clear o1 f1 hc1
  go_wp2_with fail
  refine (imp_any (q := 75) (Q := 75) (C := cap) (HTq.out ()) (HPq.out ()) w1 w2 h1 h2 (.inr ⟨rfl, by omega, by omega⟩)).mono ?_
  rintro e wr ⟨v2, rfl, o2, _, f2⟩
  obtain ⟨g2, cap2, rfl, -, -, hc2⟩ := own_open o2 (jpegP_pos _ _ _ _)
  have hpos := jpegP_pos pix W H 75
  obtain ⟨out, hout⟩ : ∃ z, jpegP pix W H 75 = z := ⟨_, rfl⟩
  simp only [hout] at hpos hc2 HC1 ⊢
  have hc1r : ∀ i, i < out.length → wr.cell? ⟨g1, 0 + i, none⟩ = some (B8 (out.getD i 0)) := fun i hi => by
    rw [Nat.zero_add, World.cell?_of_block (a := ⟨g1, i, none⟩) (f2.block g1 hg1lt (fun e => e))]
    exact HC1.out () i hi
  have s1 := run_convert_bytes_arg (P := Tryd.prog) wr 25 5 und25 und5 g1 0 out.length cap1 out rfl hc1r 9 und9
  have s2 := run_convert_bytes_arg (P := Tryd.prog) wr 25 5 und25 und5 g2 0 out.length cap2 out rfl (fun i hi => by rw [Nat.zero_add]; exact hc2 i hi) 9 und9
  have HF2 := hu ((HF1.out ()).trans f2 (fun _ _ e => e))
  have d2 : decide (0 < out.length) = true := by simpa using hpos
  clear hc2 HC1 f2 o2 hout hc1r
  go_wp2
  go_ret
  exact ⟨rfl, HF2.out ()⟩
end Go.Proofs.YtpophkigihfjoaaDoor
