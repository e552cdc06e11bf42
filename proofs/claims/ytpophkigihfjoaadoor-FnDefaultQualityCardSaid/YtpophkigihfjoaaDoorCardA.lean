/- FnDefaultQuality, for every input: without options the quality is 75. The row, and its tied card. -/
import Derived.Test.YtpophkigihfjoaaDoorLaid
import Derived.Test.YtpophkigihfjoaaDoorCards
import Derived.SevenTiedAt
namespace Go.Proofs.YtpophkigihfjoaaDoor
open Go.ChangeShapes Go.WideShapes Go.ChangeAt Go.RowKit
set_option maxRecDepth 100000

theorem lawA_any {w : World} {a : Option Addr} {x y : Int} {L C : Nat} (hT : Tabs w) (hN : NumsIn w a L) : Calls Tryd.prog 3 #[.int .i64 x, .int .i64 y, .slice a L C] w (LawPost w) := by
  by_cases h : L ≤ 2147483647
  · exact lawA_small hT hN h
  · exact lawA_big (by omega)

theorem lawA_lifted (os : Os) (started : os.Started) (H : Type) (enc : TypeId × Value → H) :
    ReturnsInHanded {} Tryd.checked os 3 .any (fun w args => (Rows.fnDefaultQualitySpec.pre enc Tryd.prog Tryd.f3 [] false w args ∧ laidMetH Tryd.prog laid3 w) ∧ sizedMet enc Tryd.prog Tryd.f3 (OpenSpec.ofChange Rows.fnDefaultQualitySpec) false w args)
      (Rows.fnDefaultQualitySpec.post enc Tryd.prog Tryd.f3 false true false false) := by
  refine returnsInHanded_of_change_and (C := Tryd.checked) (X := fun w _ => laidMetH Tryd.prog laid3 w) (fun _ _ _ hh h => h.of_heap hh) own started (by kernel_rfl) Tryd.func3
    (ChangeSpec.witness_shaped (enc := enc) (C := Tryd.checked) (os := os) (X := fun w _ => laidMetH Tryd.prog laid3 w) false (World.laidAll Tryd.prog os laid3) #[.int .i64 0, .int .i64 0, .slice none 0 0] 8 (World.laidAll_os _ _ _)
      (World.shaped_of_ZipB (by kernel_rfl) (by kernel_rfl)) (by kernel_rfl) (by kernel_rfl) (by kernel_rfl)
      (by rw [MakeChecks.laidMetH_plain _ _ _ (by kernel_rfl)]; exact laidMet_laidAll _ (by kernel_rfl) (by kernel_rfl))) ?_
  intro W base args ds gs before hval0 hW hc _ hL _
  have hval : ∀ (j : Nat) t v, Tryd.f3.params[j]? = some t → args[j]? = some v → Value.okWide Tryd.prog W .any base t v := hval0
  have hW' := hW
  obtain ⟨p, q, hA0, hV, rfl, _, _⟩ := hW
  have hA : DataW.TrodAll enc Tryd.prog W 0 (fun _ => true) true Tryd.f3.params.toList args.toList ds p := hA0
  rw [Tryd.params3] at hA hval
  obtain ⟨rfl, rfl⟩ := trodVars_none hV
  obtain ⟨v0, v1, v2, d0, d1, d2, p0, p1, p2, rfl, rfl, rfl, h0, h1, h2⟩ := trodAll_three hA
  obtain ⟨x, rfl, rfl, rfl, wx⟩ := open_int Tryd.underlying3 (hval 0 3 v0 rfl rfl) h0
  obtain ⟨y, rfl, rfl, rfl, wy⟩ := open_int Tryd.underlying3 (hval 1 3 v1 rfl rfl) h1
  have h2k := h2
  obtain ⟨fuel, hf⟩ := h2
  obtain ⟨a, L, C, rfl, hN⟩ := nums_of (okWide_slice Tryd.underlying22 (hval 2 22 v2 rfl rfl)) (fun _ => rfl) hf
  simp only [List.append_nil, List.nil_append] at hW'
  have hlt : ∀ x ∈ p2, x.block < W.heap.size := fun x hx => by simpa using hW'.lt x hx
  refine (lawA_any (C := C) (tabs_of_laid hL) hN).mono fun e W' ⟨he, hw⟩ => ?_
  subst he
  have hB : Below W.heap.size W W' := hw.below (Nat.le_refl _) (fun _ _ e => e)
  have hargs : DataW.Trod enc Tryd.prog W' 0 (fun b => decide (b < W.heap.size)) true 22 (.slice a L C) d2 p2 :=
    Below.trod laidOut (by kernel_rfl) (of_decide_eq_true (by kernel_rfl)) h2k hB hlt
  exact ⟨_, rfl, ⟨_, _, _, [], [] ++ ([] ++ p2), [], hW', trodAll_mk1 (shut_bool Tryd.underlying4 _), trodAll_mk3 (shut_int Tryd.underlying3 wx) (shut_int Tryd.underlying3 wy) hargs, rfl, hB.frame _, fun h => by cases h⟩⟩

theorem fnDefaultQuality_row : Rows.FnDefaultQualitySaid :=
  OpenClaim.holds_of_wide 3 Tryd.f3 rfl rfl rfl rfl rfl rfl rfl ⟨rfl, rfl, rfl, rfl, rfl⟩ rfl rfl rfl rfl rfl (by kernel_rfl) Tryd.func3 (by kernel_rfl)
    (of_decide_eq_true (by kernel_rfl)) (by unfold Func.isWrapper; first | (rw [if_pos (by decide +kernel)]; kernel_rfl) | (rw [if_neg (by decide +kernel)]; exact ⟨rfl, rfl⟩))
    (fun os started H enc _ => lawA_lifted os started H enc)

/-- THE TIED CARD OF FnDefaultQuality. -/
theorem fnDefaultQuality_holds : Rows.FnDefaultQualityCardSaid :=
  Claim7.holds_tied_plain_at .later [] [.data, .data, .data] true (true, "d88b9d58bbb3bdb0043bb186411395ba43b6aeb2a12ee603779a538f24325d86") true
    fnDefaultQuality_row (fun _ h => by cases h) (by kernel_rfl) (fun _ h => by cases h) fnDefaultQuality_row_tie rfl ⟨rfl, rfl⟩ (by kernel_rfl) rfl
    (fun f fn hf hfn => by
      obtain rfl : f = 3 := Option.some.inj ((show Tryd.prog.funcNamed "jpegstreams/laws.FnDefaultQuality" = some 3 by kernel_rfl).symm.trans hf) |>.symm
      obtain rfl : fn = Tryd.f3 := (Option.some.inj (Tryd.func3.symm.trans hfn)).symm
      exact ⟨by kernel_rfl, fun j t ht => by
        rw [Tryd.params3] at ht
        have hm : t ∈ [3, 3, 22] := by simpa using Array.mem_of_getElem? ht
        have hall : ([3, 3, 22].all fun u => !Tryd.prog.wantsStandIn u) = true := by kernel_rfl
        exact (show Tryd.prog.wantsStandIn t = false by simpa using List.all_eq_true.1 hall t hm)⟩)
    (by kernel_rfl)
#print axioms fnDefaultQuality_holds
end Go.Proofs.YtpophkigihfjoaaDoor
