/- The walk of newLUT. -/
import Derived.Test.YtpophkigihfjoaaDoorLut
import Derived.StillTailTactics
namespace Go.Proofs.YtpophkigihfjoaaDoor
open Go.RowKit Go.Great
set_option maxRecDepth 100000

theorem wpStill_load_row {P : Program} {ops : Array Oper} {rest : List Oper} {o : Oper} {a : Act} {w : World} {Q : Act → Prop} (hgd : o.guard = none) (ty : TypeId) (x : Operand) (ho : o.op = .load ty x) (dst : Option Tmp) (hdst : o.dst = dst)
    (g : Nat) (hx : a.eval x = .pointer (some ⟨g, 0, none⟩)) (t : TypeId) (cs : List Value) (d : TypeDesc) (hg : Blk w g cs t)
    (hu : P.underlying ty = some d) (hd : (match d with | .struct _ | .array _ _ => true | _ => false) = true) (hi : (P.info? ty).map (·.size) = some cs.length)
    (h : wpStill P ops w Q rest (a.put dst (.agg cs.toArray))) : wpStill P ops w Q (o :: rest) a := by
  subst hdst
  refine wpStill_step fun K hK => ?_
  have hw : Region.wanted o (yielded ops a.tmps) = true := by simp [Region.wanted, hgd]
  rw [if_pos hw]
  unfold Oper.still execOp
  simp only [ho, hx, Instr.loadAt, Instr.sureAddr, Sem.run_bind, Sem.run_pure, Result.andThen_ok, run_loadVar_row w g t ty cs.toArray (0, 0) d hg hu hd (by simpa using hi)]
  exact ⟨rfl, hK _ h⟩

theorem und122 : ∃ fs, Tryd.prog.underlying 122 = some (.struct fs) := by
  have h : (match Tryd.prog.underlying 122 with | some (.struct _) => true | _ => false) = true := by kernel_rfl
  split at h
  · exact ⟨_, by assumption⟩
  · cases h

set_option maxHeartbeats 1000000 in
theorem newlut (w : World) : Calls Tryd.prog 23 #[] w fun e w' => ∃ b0 b1 b2 b3, e = .returned (.agg #[.slice (some ⟨b0, 0, none⟩) 12 12, .slice (some ⟨b1, 0, none⟩) 251 251, .slice (some ⟨b2, 0, none⟩) 12 12, .slice (some ⟨b3, 0, none⟩) 251 251]) ∧
      w.heap.size ≤ b0 ∧ w.heap.size ≤ b1 ∧ w.heap.size ≤ b2 ∧ w.heap.size ≤ b3 ∧
      Blk w' b0 ((lutOut cnt0 val0 11 16).map W32) 91 ∧ Blk w' b1 ((lutOut cnt1 val1 250 16).map W32) 91 ∧ Blk w' b2 ((lutOut cnt2 val2 11 16).map W32) 91 ∧ Blk w' b3 ((lutOut cnt3 val3 250 16).map W32) 91 ∧ Fr (fun _ => False) w w' := by
  go_enter Tryd.func23, Tryd.ntmps23
  go_wp2_with fail
  refine (specs_any _).mono ?_
  rintro e w1 ⟨rfl, f1, s0, s1, s2, s3⟩
  obtain ⟨fs, und⟩ := und122
  obtain ⟨wz, hwz⟩ : ∃ z, w.alloc (.cells #[.slice none 0 0, .slice none 0 0, .slice none 0 0, .slice none 0 0] 96) = z := ⟨_, rfl⟩
  have LB := (Blk.newA w #[.slice none 0 0, .slice none 0 0, .slice none 0 0, .slice none 0 0] 96)
  have Fz := (Fr.refl (fun _ => False) w).alloc (.cells #[.slice none 0 0, .slice none 0 0, .slice none 0 0, .slice none 0 0] 96)
  have hz : wz.heap.size = w.heap.size + 1 := by rw [← hwz, World.size_alloc]
  rw [hwz] at f1 s0 s1 s2 s3 LB Fz
  rw [hz] at s0 s1 s2 s3
  simp only [hwz, hz]
  obtain ⟨L, hL⟩ : ∃ z, w.heap.size = z := ⟨_, rfl⟩
  rw [hL] at s0 s1 s2 s3 LB hz
  simp only [hL]
  have L1 := hu (f1.blk LB (fun e => e))
  have F1 := hu (Fz.trans f1 (fun _ _ e => e))
  have hsz := f1.size
  rw [hz] at hsz
  have V0 := hu s0
  have V1 := hu s1
  have V2 := hu s2
  have V3 := hu s3
  clear LB Fz f1 s0 s1 s2 s3 hwz hz
  go_wp2
  refine wp_loop_rounds 5 ?_
  rw [rounds_succ]
  go_upto_region 3 with (fail)
  rename_i K0
  apply wp_region_lit
  refine wpList_runTo rfl (some 6) rfl (.int .i64 0) w1 (by kernel_rfl) ?_
  refine wpList_runTo rfl (some 7) rfl (.agg (specC cnt0 (L + 1 + 1) 12).toArray) w1 (by kernel_rfl) ?_
  refine wpList_runTo rfl (some 2) rfl (.pointer (some ⟨w1.heap.size, 0, none⟩)) (w1.alloc (.cells (Array.replicate 16 (B8 0) ++ #[.slice none 0 0]) 122)) (by kernel_rfl) ?_
  refine wpList_runTo rfl (some 1) rfl (.int .i64 0) (w1.alloc (.cells (Array.replicate 16 (B8 0) ++ #[.slice none 0 0]) 122)) (by kernel_rfl) ?_
  refine wpList_store_rowTo rfl 122 _ _ rfl rfl w1.heap.size (specC cnt0 (L + 1 + 1) 12).toArray (by kernel_rfl) (by kernel_rfl) 122 _ (Blk.newA w1 _ _) (by kernel_rfl) (by kernel_rfl) (by kernel_rfl) ?_
  apply wpList_nil
  refine K0 _ _ ?_
  obtain ⟨wx0, hwx⟩ : ∃ z, (w1.alloc (.cells (Array.replicate 16 (B8 0) ++ #[.slice none 0 0]) 122)).setRow w1.heap.size (specC cnt0 (L + 1 + 1) 12).toArray = z := ⟨_, rfl⟩
  have SX0 : Blk wx0 w1.heap.size (specC cnt0 (L + 1 + 1) 12) 122 := by rw [← hwx]; exact setRow_heap _ _ _ _ _ _ (Blk.newA w1 _ _)
  have FX0 : Fr (fun _ => False) w1 wx0.drew := by rw [← hwx]; exact (((Fr.refl _ w1).alloc _).setRow _ (fun e => absurd e (by omega)) _).drew
  simp only [hwx]
  clear hwx K0
  go_still_tail 3, (by kernel_rfl)
  refine wpStill_load_row rfl 122 _ rfl (some 10) rfl w1.heap.size rfl 122 (specC cnt0 (L + 1 + 1) 12) (.struct fs) (show Blk _ _ _ _ from SX0) und rfl (by kernel_rfl) ?_
  refine wpStill_nil ?_
  change wpList _ _ _ _ _ wx0.drew
  have hsx0 := FX0.size
  have FXh0 := hu FX0
  clear FX0 SX0
  go_wp2_with fail
  refine (lut_init (w := wx0.drew) ok0 rfl ((FXh0.out ()).blk (V0.out ()) (fun e => e)) ((FXh0.out ()).blk (L1.out ()) (fun e => e)) (by simp) (by omega)).mono ?_
  rintro e w2 ⟨rfl, b0, hb0, t0, l0, f0⟩
  have T0 := hu t0
  have hs0 := f0.size
  have HB0 : L + 1 ≤ b0 := by omega
  have L2 := hu (show Blk w2 L [.slice (some ⟨b0, 0, none⟩) 12 12, .slice none 0 0, .slice none 0 0, .slice none 0 0] 96 from l0)
  have F2 := hu ((F1.out ()).trans (((FXh0.out ()).mono (S := (· = L)) (fun _ _ e => e.elim)).trans f0 (fun _ _ e => e)) (fun j hj e => by rw [hL] at hj; omega))
  have V1' := hu (f0.blk ((FXh0.out ()).blk (V1.out ()) (fun e => e)) (by omega))
  have V2' := hu (f0.blk ((FXh0.out ()).blk (V2.out ()) (fun e => e)) (by omega))
  have V3' := hu (f0.blk ((FXh0.out ()).blk (V3.out ()) (fun e => e)) (by omega))
  clear V1
  have V1 := V1'
  clear V1'
  clear V2
  have V2 := V2'
  clear V2'
  clear V3
  have V3 := V3'
  clear V3'
  have hsz2 : L + 1 ≤ w2.heap.size := by omega
  clear t0 l0 f0 V0 L1 F1 FXh0 hs0 hsx0 hb0
  go_wp2
  rw [rounds_succ]
  go_upto_region 3 with (fail)
  rename_i K1
  apply wp_region_lit
  refine wpList_runTo rfl (some 6) rfl (.int .i64 1) w2 (by kernel_rfl) ?_
  refine wpList_runTo rfl (some 7) rfl (.agg (specC cnt1 (L + 1 + 1 + 1) 162).toArray) w2 (by kernel_rfl) ?_
  refine wpList_runTo rfl (some 2) rfl (.pointer (some ⟨w2.heap.size, 0, none⟩)) (w2.alloc (.cells (Array.replicate 16 (B8 0) ++ #[.slice none 0 0]) 122)) (by kernel_rfl) ?_
  refine wpList_runTo rfl (some 1) rfl (.int .i64 1) (w2.alloc (.cells (Array.replicate 16 (B8 0) ++ #[.slice none 0 0]) 122)) (by kernel_rfl) ?_
  refine wpList_store_rowTo rfl 122 _ _ rfl rfl w2.heap.size (specC cnt1 (L + 1 + 1 + 1) 162).toArray (by kernel_rfl) (by kernel_rfl) 122 _ (Blk.newA w2 _ _) (by kernel_rfl) (by kernel_rfl) (by kernel_rfl) ?_
  apply wpList_nil
  refine K1 _ _ ?_
  obtain ⟨wx1, hwx⟩ : ∃ z, (w2.alloc (.cells (Array.replicate 16 (B8 0) ++ #[.slice none 0 0]) 122)).setRow w2.heap.size (specC cnt1 (L + 1 + 1 + 1) 162).toArray = z := ⟨_, rfl⟩
  have SX1 : Blk wx1 w2.heap.size (specC cnt1 (L + 1 + 1 + 1) 162) 122 := by rw [← hwx]; exact setRow_heap _ _ _ _ _ _ (Blk.newA w2 _ _)
  have FX1 : Fr (fun _ => False) w2 wx1.drew := by rw [← hwx]; exact (((Fr.refl _ w2).alloc _).setRow _ (fun e => absurd e (by omega)) _).drew
  simp only [hwx]
  clear hwx K1
  go_still_tail 3, (by kernel_rfl)
  refine wpStill_load_row rfl 122 _ rfl (some 10) rfl w2.heap.size rfl 122 (specC cnt1 (L + 1 + 1 + 1) 162) (.struct fs) (show Blk _ _ _ _ from SX1) und rfl (by kernel_rfl) ?_
  refine wpStill_nil ?_
  change wpList _ _ _ _ _ wx1.drew
  have hsx1 := FX1.size
  have FXh1 := hu FX1
  clear FX1 SX1
  go_wp2_with fail
  refine (lut_init (w := wx1.drew) ok1 rfl ((FXh1.out ()).blk (V1.out ()) (fun e => e)) ((FXh1.out ()).blk (L2.out ()) (fun e => e)) (by simp) (by omega)).mono ?_
  rintro e w3 ⟨rfl, b1, hb1, t1, l1, f1⟩
  have T1 := hu t1
  have hs1 := f1.size
  have HB1 : L + 1 ≤ b1 := by omega
  have L3 := hu (show Blk w3 L [.slice (some ⟨b0, 0, none⟩) 12 12, .slice (some ⟨b1, 0, none⟩) 251 251, .slice none 0 0, .slice none 0 0] 96 from l1)
  have F3 := hu ((F2.out ()).trans (((FXh1.out ()).mono (S := (· = L)) (fun _ _ e => e.elim)).trans f1 (fun _ _ e => e)) (fun j hj e => by rw [hL] at hj; omega))
  have V2' := hu (f1.blk ((FXh1.out ()).blk (V2.out ()) (fun e => e)) (by omega))
  have V3' := hu (f1.blk ((FXh1.out ()).blk (V3.out ()) (fun e => e)) (by omega))
  have T0' := hu (f1.blk ((FXh1.out ()).blk (T0.out ()) (fun e => e)) (by omega))
  clear V2
  have V2 := V2'
  clear V2'
  clear V3
  have V3 := V3'
  clear V3'
  clear T0
  have T0 := T0'
  clear T0'
  have hsz3 : L + 1 ≤ w3.heap.size := by omega
  clear t1 l1 f1 V1 L2 F2 FXh1 hs1 hsx1 hb1
  go_wp2
  rw [rounds_succ]
  go_upto_region 3 with (fail)
  rename_i K2
  apply wp_region_lit
  refine wpList_runTo rfl (some 6) rfl (.int .i64 2) w3 (by kernel_rfl) ?_
  refine wpList_runTo rfl (some 7) rfl (.agg (specC cnt2 (L + 1 + 1 + 1 + 1) 12).toArray) w3 (by kernel_rfl) ?_
  refine wpList_runTo rfl (some 2) rfl (.pointer (some ⟨w3.heap.size, 0, none⟩)) (w3.alloc (.cells (Array.replicate 16 (B8 0) ++ #[.slice none 0 0]) 122)) (by kernel_rfl) ?_
  refine wpList_runTo rfl (some 1) rfl (.int .i64 2) (w3.alloc (.cells (Array.replicate 16 (B8 0) ++ #[.slice none 0 0]) 122)) (by kernel_rfl) ?_
  refine wpList_store_rowTo rfl 122 _ _ rfl rfl w3.heap.size (specC cnt2 (L + 1 + 1 + 1 + 1) 12).toArray (by kernel_rfl) (by kernel_rfl) 122 _ (Blk.newA w3 _ _) (by kernel_rfl) (by kernel_rfl) (by kernel_rfl) ?_
  apply wpList_nil
  refine K2 _ _ ?_
  obtain ⟨wx2, hwx⟩ : ∃ z, (w3.alloc (.cells (Array.replicate 16 (B8 0) ++ #[.slice none 0 0]) 122)).setRow w3.heap.size (specC cnt2 (L + 1 + 1 + 1 + 1) 12).toArray = z := ⟨_, rfl⟩
  have SX2 : Blk wx2 w3.heap.size (specC cnt2 (L + 1 + 1 + 1 + 1) 12) 122 := by rw [← hwx]; exact setRow_heap _ _ _ _ _ _ (Blk.newA w3 _ _)
  have FX2 : Fr (fun _ => False) w3 wx2.drew := by rw [← hwx]; exact (((Fr.refl _ w3).alloc _).setRow _ (fun e => absurd e (by omega)) _).drew
  simp only [hwx]
  clear hwx K2
  go_still_tail 3, (by kernel_rfl)
  refine wpStill_load_row rfl 122 _ rfl (some 10) rfl w3.heap.size rfl 122 (specC cnt2 (L + 1 + 1 + 1 + 1) 12) (.struct fs) (show Blk _ _ _ _ from SX2) und rfl (by kernel_rfl) ?_
  refine wpStill_nil ?_
  change wpList _ _ _ _ _ wx2.drew
  have hsx2 := FX2.size
  have FXh2 := hu FX2
  clear FX2 SX2
  go_wp2_with fail
  refine (lut_init (w := wx2.drew) ok2 rfl ((FXh2.out ()).blk (V2.out ()) (fun e => e)) ((FXh2.out ()).blk (L3.out ()) (fun e => e)) (by simp) (by omega)).mono ?_
  rintro e w4 ⟨rfl, b2, hb2, t2, l2, f2⟩
  have T2 := hu t2
  have hs2 := f2.size
  have HB2 : L + 1 ≤ b2 := by omega
  have L4 := hu (show Blk w4 L [.slice (some ⟨b0, 0, none⟩) 12 12, .slice (some ⟨b1, 0, none⟩) 251 251, .slice (some ⟨b2, 0, none⟩) 12 12, .slice none 0 0] 96 from l2)
  have F4 := hu ((F3.out ()).trans (((FXh2.out ()).mono (S := (· = L)) (fun _ _ e => e.elim)).trans f2 (fun _ _ e => e)) (fun j hj e => by rw [hL] at hj; omega))
  have V3' := hu (f2.blk ((FXh2.out ()).blk (V3.out ()) (fun e => e)) (by omega))
  have T0' := hu (f2.blk ((FXh2.out ()).blk (T0.out ()) (fun e => e)) (by omega))
  have T1' := hu (f2.blk ((FXh2.out ()).blk (T1.out ()) (fun e => e)) (by omega))
  clear V3
  have V3 := V3'
  clear V3'
  clear T0
  have T0 := T0'
  clear T0'
  clear T1
  have T1 := T1'
  clear T1'
  have hsz4 : L + 1 ≤ w4.heap.size := by omega
  clear t2 l2 f2 V2 L3 F3 FXh2 hs2 hsx2 hb2
  go_wp2
  rw [rounds_succ]
  go_upto_region 3 with (fail)
  rename_i K3
  apply wp_region_lit
  refine wpList_runTo rfl (some 6) rfl (.int .i64 3) w4 (by kernel_rfl) ?_
  refine wpList_runTo rfl (some 7) rfl (.agg (specC cnt3 (L + 1 + 1 + 1 + 1 + 1) 162).toArray) w4 (by kernel_rfl) ?_
  refine wpList_runTo rfl (some 2) rfl (.pointer (some ⟨w4.heap.size, 0, none⟩)) (w4.alloc (.cells (Array.replicate 16 (B8 0) ++ #[.slice none 0 0]) 122)) (by kernel_rfl) ?_
  refine wpList_runTo rfl (some 1) rfl (.int .i64 3) (w4.alloc (.cells (Array.replicate 16 (B8 0) ++ #[.slice none 0 0]) 122)) (by kernel_rfl) ?_
  refine wpList_store_rowTo rfl 122 _ _ rfl rfl w4.heap.size (specC cnt3 (L + 1 + 1 + 1 + 1 + 1) 162).toArray (by kernel_rfl) (by kernel_rfl) 122 _ (Blk.newA w4 _ _) (by kernel_rfl) (by kernel_rfl) (by kernel_rfl) ?_
  apply wpList_nil
  refine K3 _ _ ?_
  obtain ⟨wx3, hwx⟩ : ∃ z, (w4.alloc (.cells (Array.replicate 16 (B8 0) ++ #[.slice none 0 0]) 122)).setRow w4.heap.size (specC cnt3 (L + 1 + 1 + 1 + 1 + 1) 162).toArray = z := ⟨_, rfl⟩
  have SX3 : Blk wx3 w4.heap.size (specC cnt3 (L + 1 + 1 + 1 + 1 + 1) 162) 122 := by rw [← hwx]; exact setRow_heap _ _ _ _ _ _ (Blk.newA w4 _ _)
  have FX3 : Fr (fun _ => False) w4 wx3.drew := by rw [← hwx]; exact (((Fr.refl _ w4).alloc _).setRow _ (fun e => absurd e (by omega)) _).drew
  simp only [hwx]
  clear hwx K3
  go_still_tail 3, (by kernel_rfl)
  refine wpStill_load_row rfl 122 _ rfl (some 10) rfl w4.heap.size rfl 122 (specC cnt3 (L + 1 + 1 + 1 + 1 + 1) 162) (.struct fs) (show Blk _ _ _ _ from SX3) und rfl (by kernel_rfl) ?_
  refine wpStill_nil ?_
  change wpList _ _ _ _ _ wx3.drew
  have hsx3 := FX3.size
  have FXh3 := hu FX3
  clear FX3 SX3
  go_wp2_with fail
  refine (lut_init (w := wx3.drew) ok3 rfl ((FXh3.out ()).blk (V3.out ()) (fun e => e)) ((FXh3.out ()).blk (L4.out ()) (fun e => e)) (by simp) (by omega)).mono ?_
  rintro e w5 ⟨rfl, b3, hb3, t3, l3, f3⟩
  have T3 := hu t3
  have hs3 := f3.size
  have HB3 : L + 1 ≤ b3 := by omega
  have L5 := hu (show Blk w5 L [.slice (some ⟨b0, 0, none⟩) 12 12, .slice (some ⟨b1, 0, none⟩) 251 251, .slice (some ⟨b2, 0, none⟩) 12 12, .slice (some ⟨b3, 0, none⟩) 251 251] 96 from l3)
  have F5 := hu ((F4.out ()).trans (((FXh3.out ()).mono (S := (· = L)) (fun _ _ e => e.elim)).trans f3 (fun _ _ e => e)) (fun j hj e => by rw [hL] at hj; omega))
  have T0' := hu (f3.blk ((FXh3.out ()).blk (T0.out ()) (fun e => e)) (by omega))
  have T1' := hu (f3.blk ((FXh3.out ()).blk (T1.out ()) (fun e => e)) (by omega))
  have T2' := hu (f3.blk ((FXh3.out ()).blk (T2.out ()) (fun e => e)) (by omega))
  clear T0
  have T0 := T0'
  clear T0'
  clear T1
  have T1 := T1'
  clear T1'
  clear T2
  have T2 := T2'
  clear T2'
  have hsz5 : L + 1 ≤ w5.heap.size := by omega
  clear t3 l3 f3 V3 L4 F4 FXh3 hs3 hsx3 hb3
  go_wp2
  rw [rounds_succ]
  go_upto_region 6 with (fail)
  rename_i K6
  apply wp_region_lit
  refine wpList_load_row rfl 96 _ rfl L rfl 96 ([.slice (some ⟨b0, 0, none⟩) 12 12, .slice (some ⟨b1, 0, none⟩) 251 251, .slice (some ⟨b2, 0, none⟩) 12 12, .slice (some ⟨b3, 0, none⟩) 251 251] : List Value).toArray (0, 0) (.array 4 95) (L5.out ()) (by kernel_rfl) rfl (by kernel_rfl) ?_
  refine wpList_store_rowTo rfl 96 _ _ rfl rfl L ([.slice (some ⟨b0, 0, none⟩) 12 12, .slice (some ⟨b1, 0, none⟩) 251 251, .slice (some ⟨b2, 0, none⟩) 12 12, .slice (some ⟨b3, 0, none⟩) 251 251] : List Value).toArray (by kernel_rfl) (by kernel_rfl) 96 _ (L5.out ()) (by kernel_rfl) (by kernel_rfl) (by kernel_rfl) ?_
  apply wpList_nil
  refine K6 _ _ ?_
  apply wp_ret
  show bodyPost Tryd.prog Tryd.f23 _ .ret _ _
  refine bodyPost_ret (v := .agg ([.slice (some ⟨b0, 0, none⟩) 12 12, .slice (some ⟨b1, 0, none⟩) 251 251, .slice (some ⟨b2, 0, none⟩) 12 12, .slice (some ⟨b3, 0, none⟩) 251 251] : List Value).toArray) (results_cell_row (d := .array 4 95) rfl _ _ L 96 ([.slice (some ⟨b0, 0, none⟩) 12 12, .slice (some ⟨b1, 0, none⟩) 251 251, .slice (some ⟨b2, 0, none⟩) 12 12, .slice (some ⟨b3, 0, none⟩) 251 251] : List Value).toArray (0, 0) (by kernel_rfl) (setRow_heap _ _ _ _ _ _ (L5.out ())) (by kernel_rfl) rfl (by kernel_rfl)) rfl ⟨b0, b1, b2, b3, rfl, by omega, by omega, by omega, by omega, ?_, ?_, ?_, ?_, ?_⟩
  · exact (T0.out ()).of_heap (setRow_other _ _ _ _ (by omega))
  · exact (T1.out ()).of_heap (setRow_other _ _ _ _ (by omega))
  · exact (T2.out ()).of_heap (setRow_other _ _ _ _ (by omega))
  · exact (T3.out ()).of_heap (setRow_other _ _ _ _ (by omega))
  · exact (F5.out ()).setRow L (fun e => absurd e (by omega)) _
end Go.Proofs.YtpophkigihfjoaaDoor
