/- The walk of read at the marker 219. -/
import Derived.Test.YtpophkigihfjoaaDoorTwoD
/- The walk of read at the tables' marker. -/
namespace Go.Proofs.YtpophkigihfjoaaDoor
open Go.RowKit
set_option maxRecDepth 100000

def dqtBody (q : List Int) : List Int := [0] ++ q.take 64 ++ [1] ++ q.drop 64

theorem dqtBody_length {q : List Int} (h : q.length = 128) : (dqtBody q).length = 130 := by simp [dqtBody, h]
theorem dqtBody_0 (q : List Int) : (dqtBody q).getD 0 0 = 0 := rfl
theorem dqtBody_65 {q : List Int} (h : q.length = 128) : (dqtBody q).getD 65 0 = 1 := by
  have h1 : ([0] ++ q.take 64).length = 65 := by simp [h]
  unfold dqtBody
  rw [List.append_assoc, List.getD_eq_getElem?_getD, List.getElem?_append_right (by omega), h1]
  rfl

theorem und34 : Tryd.prog.underlying 34 = some (.slice 77) := by kernel_rfl

def z77 : List Value := List.replicate 64 (.int .i64 0)

theorem info77 : (Tryd.prog.info? 77).map (fun i => (i.zero, i.size, i.bytes)) = some (some (.agg z77.toArray), 64, 512) := by kernel_rfl

/-- The call's own tables. -/
def TabS (wr : World) (base : Nat) (tv : Value) (n : Nat) : Prop :=
  ∃ (g cap : Nat) (cs : List Value), tv = .slice (some ⟨g, 0, none⟩) n cap ∧ base ≤ g ∧ Blk wr g cs 77 ∧ cs.length = cap * 64 ∧ n ≤ cap ∧ cap ≤ maxLen

theorem TabS.own {wr : World} {base n : Nat} {tv : Value} (h : TabS wr base tv n) : ∃ xs, wr.ownsRow base 77 64 tv n xs := by
  obtain ⟨g, cap, cs, rfl, hg, hb, hl, hn, hc⟩ := h
  refine ⟨cs.take (n * 64), ?_, .inr ⟨g, cap, cs.toArray, rfl, hg, hb, hn, hc, by simpa using hl, rfl⟩⟩
  rw [List.length_take, hl, Nat.min_eq_left (Nat.mul_le_mul_right _ hn)]

theorem tabS_of {wr : World} {base n : Nat} {tv : Value} {xs : List Value} (h : wr.ownsRow base 77 64 tv n xs) (hn : 0 < n) : TabS wr base tv n := by
  rcases h.2 with ⟨_, h0⟩ | ⟨g, cap, cur, rfl, hbg, hg, hnc, hcm, hcs, htake⟩
  · omega
  · exact ⟨g, cap, cur.toList, rfl, hbg, hg, by simpa using hcs, hnc, hcm⟩

/-- Between two tables. -/
def TabRel (w0 : World) (TB : Nat) (W H : Int) (cv sv : Value) (ms : List Value) (n : Nat) (wr : World) : Prop :=
  ∃ tv, Blk wr TB (tblC W H cv tv ms sv) 66 ∧ (∃ xs, wr.ownsRow w0.heap.size 77 64 tv n xs) ∧ Fr (· = TB) w0 wr

theorem tab_ready {w0 wr : World} {TB k : Nat} {v : Value} {tbl xs : List Value} (ho : wr.ownsRow w0.heap.size 77 64 v k xs) (hb : Blk wr TB tbl 66) (hf : Fr (· = TB) w0 wr) :
    (wr.alloc (.cells z77.toArray 77)).ownsRow w0.heap.size 77 64 v k xs ∧ w0.heap.size ≤ (wr.alloc (.cells z77.toArray 77)).heap.size ∧ Blk (wr.alloc (.cells z77.toArray 77)) TB tbl 66 ∧ Fr (· = TB) w0 (wr.alloc (.cells z77.toArray 77)) ∧
    ∀ j u, z77[j]? = some u → (wr.alloc (.cells z77.toArray 77)).cell? ((⟨wr.heap.size, 0, none⟩ : Addr).add j) = some u :=
  ⟨ownsRow_of_block ho (fun k hk => Below.heap_alloc _ _ _ (ho.lt k hk).2), (hf.alloc _).size, hb.alloc _, hf.alloc _, new_cells wr z77 77⟩

theorem tab_grown {w0 wa w1 : World} {TB k : Nat} {v : Value} {tbl xs : List Value} (hTB : TB < w0.heap.size) (ho : wa.ownsRow w0.heap.size 77 64 v k xs) (hb : Blk wa TB tbl 66) (hf : Fr (· = TB) w0 wa) (hg : wa.grownBy w1 v.ownBlock) :
    Blk w1 TB tbl 66 ∧ Fr (· = TB) w0 w1 := by
  have hlow : ∀ k, v.ownBlock = some k → w0.heap.size ≤ k := fun k hk => (ho.lt k hk).1
  exact ⟨Blk.of_heap hb (hg.block TB hb.lt (fun e => by have := hlow TB e.symm; omega)), hf.grown hg (fun k hk e => by have := hlow k e; omega)⟩

theorem tab_more {w0 w1 : World} {TB n : Nat} {W H : Int} {cv sv tv v' : Value} {ms xs : List Value} (hTB : TB < w0.heap.size) (b1 : Blk w1 TB (tblC W H cv tv ms sv) 66) (f1 : Fr (· = TB) w0 w1) (hown : w1.ownsRow w0.heap.size 77 64 v' n xs) :
    TabRel w0 TB W H cv sv ms n (w1.setCell ⟨TB, 3, none⟩ v') := by
  refine ⟨v', b1.set 3 v', ⟨xs, ownsRow_of_block hown (fun k hk => heap_setCell_other _ _ _ _ (fun e => ?_))⟩, f1.setCell (a := ⟨TB, 3, none⟩) (fun _ => rfl) v'⟩
  have := (hown.lt k hk).1
  have e : k = TB := e
  omega

/-- While a table is filled. -/
def FillRel (w0 : World) (TB : Nat) (W H : Int) (cv sv : Value) (ms : List Value) (tv : Value) (n g : Nat) (i : Value) (wr : World) : Prop :=
  ∃ k : Nat, k ≤ 64 ∧ i = .int .i64 k ∧ Blk wr TB (tblC W H cv tv ms sv) 66 ∧ (∃ cs : List Value, Blk wr g cs 77 ∧ n * 64 ≤ cs.length) ∧ TabS wr w0.heap.size tv n ∧ Fr (· = TB) w0 wr

theorem fill_start {w0 wr : World} {TB n g cap q : Nat} {W H : Int} {cv sv : Value} {ms : List Value} (hb : Blk wr TB (tblC W H cv (.slice (some ⟨g, 0, none⟩) n cap) ms sv) 66) (ht : TabS wr w0.heap.size (.slice (some ⟨g, 0, none⟩) n cap) n) (hf : Fr (· = TB) w0 wr) :
    FillRel w0 TB W H cv sv ms (.slice (some ⟨g, 0, none⟩) n cap) n g (.int .i64 0) (wr.drewN q) := by
  have ht2 := ht
  obtain ⟨g', cap', cs, h1, hbg, hbl, hl, hn, hc⟩ := ht2
  injection h1 with h2 h3 h4
  injection h2 with h2
  injection h2 with h2
  subst h2
  exact ⟨0, by omega, rfl, hb, ⟨cs, hbl, by rw [hl]; exact Nat.mul_le_mul_right _ hn⟩, ht, hf.drewN q⟩

theorem fill_step {w0 wr : World} {TB n g cap k o : Nat} {W H : Int} {cv sv tv : Value} {ms : List Value} (v : Value) (htv : tv = .slice (some ⟨g, 0, none⟩) n cap) (hTB : TB < w0.heap.size) (hk : k < 64) (hb : Blk wr TB (tblC W H cv tv ms sv) 66) (ht : TabS wr w0.heap.size tv n) (hf : Fr (· = TB) w0 wr) :
    FillRel w0 TB W H cv sv ms tv n g (.int .i64 ((k : Int) + 1)) (wr.setCell ⟨g, o, none⟩ v) := by
  obtain ⟨g', cap', cs, h1, hbg, hbl, hl, hn, hc⟩ := ht
  rw [htv] at h1
  injection h1 with h2 h3 h4
  injection h2 with h2
  injection h2 with h2
  subst h2
  subst h4
  have hng : TB ≠ g := by omega
  refine ⟨k + 1, by omega, by push_cast; rfl, hb.setOther hng v, ⟨_, hbl.set o v, by rw [List.length_set, hl]; exact Nat.mul_le_mul_right _ hn⟩, ⟨g, cap, _, htv, hbg, hbl.set o v, by rw [List.length_set]; exact hl, hn, hc⟩, hf.setCell (a := ⟨g, o, none⟩) (fun h => ?_) v⟩
  have h' : g < w0.heap.size := h
  omega

theorem FillRel.drew {w0 wr : World} {TB n g : Nat} {W H : Int} {cv sv tv i : Value} {ms : List Value} (h : FillRel w0 TB W H cv sv ms tv n g i wr) : FillRel w0 TB W H cv sv ms tv n g i wr.drew := by
  obtain ⟨k, hk, hi, hb, ⟨cs, hc, hl⟩, ht, hf⟩ := h
  exact ⟨k, hk, hi, hb, ⟨cs, hc, hl⟩, ht, hf.drew⟩

set_option maxHeartbeats 4000000 in
theorem read_dqt {w : World} {TB g off C : Nat} {W H : Int} {cv sv : Value} {ms q : List Value} {qs : List Int} (hq : qs.length = 128) (ht : Blk w TB (tblC W H cv (.slice none 0 0) ms sv) 66) (hb : BodyW w g off (dqtBody qs)) (hne : g ≠ TB) (hC : 130 ≤ C) :
    Calls Tryd.prog 13 #[.pointer (some ⟨TB, 0, none⟩), .agg #[.int .i64 219, .slice (some ⟨g, off, none⟩) 130 C]] w fun e w' => e = .returned (.bool true) ∧ ∃ tg tc, Blk w' TB (tblC W H cv (.slice (some ⟨tg, 0, none⟩) 2 tc) ms sv) 66 ∧ w.heap.size ≤ tg ∧ Fr (· = TB) w w' := by
  have f0 : Fr (fun k => k = TB) w (w.alloc (.cells #[.int .i64 219, .slice (some ⟨g, off, none⟩) 130 C] 68)) := (Fr.refl _ w).alloc _
  have HTB := hu ht.lt
  have hr0 : TabRel w TB W H cv sv ms 0 (w.alloc (.cells #[.int .i64 219, .slice (some ⟨g, off, none⟩) 130 C] 68)) := ⟨.slice none 0 0, ht.alloc _, ⟨[], World.ownsRow_nil _ _ _ _⟩, f0⟩
  have HB := hu hb
  have HQ := hu hq
  clear ht hb f0 hq
  go_enter Tryd.func13, Tryd.ntmps13
  go_wp2
  obtain ⟨wc, hwc⟩ : ∃ z, w.alloc (.cells #[.int .i64 219, .slice (some ⟨g, off, none⟩) 130 C] 68) = z := ⟨_, rfl⟩
  rw [hwc] at hr0
  simp only [hwc]
  clear hwc
  refine wp_loop_rounds 3 ?_
  obtain ⟨tv, hb, ⟨xs, hown⟩, hf⟩ := hr0
  obtain ⟨ta, tc, rfl⟩ := ownsRow_slice hown
  have hbw := (HB.out ()).frame hf hne
  have d0 := hbw.cell 0 (by rw [dqtBody_length (HQ.out ())]; omega)
  rw [dqtBody_0] at d0
  simp only [Nat.add_zero] at d0
  have c3 := hb.cellv 3 rfl
  have HBK := hu hb
  have HOK := hu hown
  have HFK := hu hf
  clear hbw hb hown hf
  rw [rounds_succ]
  go_wp2
  refine wp_loop_rounds 3 ?_
  rw [rounds_succ]
  go_wp2
  go_quiet (fail)
  have hb2 : Blk (wc.drewN nq) TB (tblC W H cv (.slice ta 0 tc) ms sv) 66 := HBK.out ()
  have ho2 := ownsRow_of_block (w' := wc.drewN nq) (HOK.out ()) (fun _ _ => rfl)
  have hf2 := (HFK.out ()).drewN nq
  obtain ⟨wd, hwd⟩ : ∃ z, wc.drewN nq = z := ⟨_, rfl⟩
  rw [hwd] at hb2 ho2 hf2
  simp only [hwd]
  have c3 := hb2.cellv 3 rfl
  have RD := hu (tab_ready ho2 hb2 hf2)
  have ML := hu (show 0 + 1 ≤ maxLen by unfold maxLen; omega)
  have BL := hu (show (0 + 1) * 512 ≤ 140737488355328 by omega)
  obtain ⟨i0, hi3, hz0, hz1, hz2⟩ := info_parts info77
  clear HBK HOK HFK hb2 ho2 hf2 hwd d0
  go_upto_region 6 with (fail)
  go_wp2_with (at_builtin; refine wpList_append_moved _ rfl (.tmp 43) (.tmp 45) 34 rfl w.heap.size 77 i0 (.agg z77.toArray) 64 512 und34 hi3 hz0 hz1 hz2 rfl (by decide) _ _ _ rfl (RD.out ()).1 _ 1 1 z77 rfl rfl (RD.out ()).2.2.2.2 ?c1 (ML.out ()) (BL.out ()) (RD.out ()).2.1 ?_)
  case c1 => intro u hu; simp only [z77, List.mem_replicate] at hu; rw [hu.2]; rfl
  intro v' w1 hown hg _
  obtain ⟨a', c', rfl⟩ := ownsRow_slice hown
  have hgr := tab_grown (HTB.out ()) (RD.out ()).1 (RD.out ()).2.2.1 (RD.out ()).2.2.2.1 hg
  have y3 := hgr.1.cellv 3 rfl
  have z3 := hgr.1.frozen 3
  have hrn := tab_more (HTB.out ()) hgr.1 hgr.2 hown
  have HRN := hu hrn
  clear hgr hown hg hrn c3
  go_wp2
  clear RD ML BL y3 z3 hi3 hz0 hz1 hz2 i0
  obtain ⟨wn, hwn⟩ : ∃ z, w1.setCell ⟨TB, 3, none⟩ (.slice a' 1 c') = z := ⟨_, rfl⟩
  rw [hwn] at HRN
  simp only [hwn]
  clear hwn
  obtain ⟨tv, hb, ⟨ys, hown⟩, hf⟩ := HRN.out ()
  have hts := tabS_of hown (by omega)
  have hts2 := hts
  obtain ⟨tg, tcap, cs, rfl, htg, _, _, _, _⟩ := hts2
  have hbw := (HB.out ()).frame hf hne
  have d0 := hbw.cell 0 (by rw [dqtBody_length (HQ.out ())]; omega)
  rw [dqtBody_0] at d0
  simp only [Nat.add_zero] at d0
  have c3 := hb.cellv 3 rfl
  have HBK := hu hb
  have HTS := hu hts
  have HFK := hu hf
  have hgt : g ≠ tg := by have := (HB.out ()).lt; omega
  have hTt : TB ≠ tg := by have := HTB.out (); omega
  clear HRN hown hbw hb hts hf
  rw [rounds_succ]
  go_wp2
  go_quiet (fail)
  have hr1 : FillRel w TB W H cv sv ms (.slice (some ⟨tg, 0, none⟩) 1 tcap) 1 tg (.int .i64 0) (wn.drewN nq) := fill_start (HBK.out ()) (HTS.out ()) (HFK.out ())
  obtain ⟨we, hwe⟩ : ∃ z, wn.drewN nq = z := ⟨_, rfl⟩
  rw [hwe] at hr1
  simp only [hwe]
  clear HBK HTS HFK d0 c3 hwe
  go_wp2
  go_loopw [50, 6] (fun i _ wr => FillRel w TB W H cv sv ms (.slice (some ⟨tg, 0, none⟩) 1 tcap) 1 tg i wr) (fun i _ _ => 64 - (intOf i).toNat)
  case atStart => exact hr1
  case round =>
    obtain ⟨k, hk, rfl, hb, ⟨cs, hcs, hcl⟩, hts, hf⟩ := hrel
    by_cases hk64 : k < 64
    · have hbw := (HB.out ()).frame hf hne
      have d0 := hbw.cell 0 (by rw [dqtBody_length (HQ.out ())]; omega)
      rw [dqtBody_0] at d0
      simp only [Nat.add_zero] at d0
      have dk := hbw.cell (0 + (k + 1)) (by rw [dqtBody_length (HQ.out ())]; omega)
      rw [Nat.zero_add] at dk
      obtain ⟨x, hx⟩ : ∃ x, (dqtBody qs).getD (k + 1) 0 = x := ⟨_, rfl⟩
      rw [hx] at dk
      have c3 := hb.cellv 3 rfl
      obtain ⟨n, hn⟩ : ∃ n, k + 1 = n := ⟨_, rfl⟩
      rw [hn] at dk
      have bw : IntKind.i64.wrap (1 + (k : Int)) = (n : Int) := by rw [show (1 + (k : Int)) = ((k + 1 : Nat) : Int) by push_cast; omega, hn]; exact wr64 n (by omega)
      have bn1 : (0 : Int) ≤ (n : Int) := by omega
      have bn2 : (n : Int) < 130 := by omega
      have b4 : (0 : Int) ≤ (k : Int) := by omega
      have b5 : (k : Int) < 64 := by omega
      obtain ⟨y, hy⟩ : ∃ y, wr.cell? ⟨tg, k, none⟩ = some y := ⟨_, hcs.cellv (k) (List.getElem?_eq_getElem (by omega))⟩
      have hz := hcs.frozen (k)
      have HFS := hu (fun v => fill_step (o := k) v rfl (HTB.out ()) hk64 hb hts hf)
      clear hbw hb hcs hcl hts hf hx hn
      go_upto_region 10 with (fail)
      refine wp_region_takes 17 17 (fun w' => w'.cell? ⟨TB, 3, none⟩ = some (.slice (some ⟨tg, 0, none⟩) 1 tcap) ∧ w'.cell? ⟨g, off, none⟩ = some (.int .u8 0) ∧ w'.cell? ⟨g, off + n, none⟩ = some (.int .u8 x)) (by kernel_rfl) (by kernel_rfl) (by kernel_rfl) (by kernel_rfl) (by decide) rfl (fun c a a' w e h => ⟨e.symm.trans h.1, h.2⟩) ⟨c3, d0, dk⟩ ?_
      simp only [List.take_succ_cons, List.take_zero]
      iterate 17
        refine chainY_cons (v := ?_) rfl (fun w' hS => ?_) ?_
        rotate_left
        · obtain ⟨s0, s1, s2⟩ := hS
          go_simp
          try with_reducible rfl
        simp only [Act.put, List.setIfInBounds_toArray, List.set_cons_zero, List.set_cons_succ]
      refine chainY_nil ?_
      refine wpAnyH_done (by kernel_rfl) ?_ 0
      simp only [Tail, List.drop_succ_cons, List.drop_zero]
      clear c3 d0 dk
      have y' : wr.drew.cell? _ = _ := hy
      go_wp2
      exact ⟨((HFS.out ()) _).drew, by simp [intOf]; omega⟩
    · obtain rfl : k = 64 := by omega
      have hr0 : TabRel w TB W H cv sv ms 1 wr := ⟨_, hb, hts.own, hf⟩
      clear hb hcs hcl hts hf
      go_wp2
      obtain ⟨wc, rfl⟩ : ∃ z, z = wr := ⟨_, rfl⟩
      obtain ⟨tv, hb, ⟨xs, hown⟩, hf⟩ := hr0
      obtain ⟨ta, tc, rfl⟩ := ownsRow_slice hown
      have hbw := (HB.out ()).frame hf hne
      have d0 := hbw.cell 65 (by rw [dqtBody_length (HQ.out ())]; omega)
      rw [dqtBody_65 (HQ.out ())] at d0
      have c3 := hb.cellv 3 rfl
      have HBK := hu hb
      have HOK := hu hown
      have HFK := hu hf
      clear hbw hb hown hf
      rw [rounds_succ]
      go_wp2
      refine wp_loop_rounds 3 ?_
      rw [rounds_succ]
      go_wp2
      go_quiet (fail)
      have hb2 : Blk (wc.drewN nq) TB (tblC W H cv (.slice ta 1 tc) ms sv) 66 := HBK.out ()
      have ho2 := ownsRow_of_block (w' := wc.drewN nq) (HOK.out ()) (fun _ _ => rfl)
      have hf2 := (HFK.out ()).drewN nq
      obtain ⟨wd, hwd⟩ : ∃ z, wc.drewN nq = z := ⟨_, rfl⟩
      rw [hwd] at hb2 ho2 hf2
      simp only [hwd]
      have c3 := hb2.cellv 3 rfl
      have RD := hu (tab_ready ho2 hb2 hf2)
      have ML := hu (show 1 + 1 ≤ maxLen by unfold maxLen; omega)
      have BL := hu (show (1 + 1) * 512 ≤ 140737488355328 by omega)
      obtain ⟨i0, hi3, hz0, hz1, hz2⟩ := info_parts info77
      clear HBK HOK HFK hb2 ho2 hf2 hwd d0
      go_upto_region 6 with (fail)
      go_wp2_with (at_builtin; refine wpList_append_moved _ rfl (.tmp 43) (.tmp 45) 34 rfl w.heap.size 77 i0 (.agg z77.toArray) 64 512 und34 hi3 hz0 hz1 hz2 rfl (by decide) _ _ _ rfl (RD.out ()).1 _ 1 1 z77 rfl rfl (RD.out ()).2.2.2.2 ?c1 (ML.out ()) (BL.out ()) (RD.out ()).2.1 ?_)
      case c1 => intro u hu; simp only [z77, List.mem_replicate] at hu; rw [hu.2]; rfl
      intro v' w1 hown hg _
      obtain ⟨a', c', rfl⟩ := ownsRow_slice hown
      have hgr := tab_grown (HTB.out ()) (RD.out ()).1 (RD.out ()).2.2.1 (RD.out ()).2.2.2.1 hg
      have y3 := hgr.1.cellv 3 rfl
      have z3 := hgr.1.frozen 3
      have hrn := tab_more (HTB.out ()) hgr.1 hgr.2 hown
      have HRN := hu hrn
      clear hgr hown hg hrn c3
      go_wp2
      clear RD ML BL y3 z3 hi3 hz0 hz1 hz2 i0
      obtain ⟨wn, hwn⟩ : ∃ z, w1.setCell ⟨TB, 3, none⟩ (.slice a' 2 c') = z := ⟨_, rfl⟩
      rw [hwn] at HRN
      simp only [hwn]
      clear hwn
      obtain ⟨tv, hb, ⟨ys, hown⟩, hf⟩ := HRN.out ()
      have hts := tabS_of hown (by omega)
      have hts2 := hts
      obtain ⟨tg, tcap, cs, rfl, htg, _, _, _, _⟩ := hts2
      have hbw := (HB.out ()).frame hf hne
      have d0 := hbw.cell 65 (by rw [dqtBody_length (HQ.out ())]; omega)
      rw [dqtBody_65 (HQ.out ())] at d0
      have c3 := hb.cellv 3 rfl
      have HBK := hu hb
      have HTS := hu hts
      have HFK := hu hf
      have hgt : g ≠ tg := by have := (HB.out ()).lt; omega
      have hTt : TB ≠ tg := by have := HTB.out (); omega
      clear HRN hown hbw hb hts hf
      rw [rounds_succ]
      go_wp2
      go_quiet (fail)
      have hr1 : FillRel w TB W H cv sv ms (.slice (some ⟨tg, 0, none⟩) 2 tcap) 2 tg (.int .i64 0) (wn.drewN nq) := fill_start (HBK.out ()) (HTS.out ()) (HFK.out ())
      obtain ⟨we, hwe⟩ : ∃ z, wn.drewN nq = z := ⟨_, rfl⟩
      rw [hwe] at hr1
      simp only [hwe]
      clear HBK HTS HFK d0 c3 hwe
      go_wp2
      go_loopw [50, 6] (fun i _ wr => FillRel w TB W H cv sv ms (.slice (some ⟨tg, 0, none⟩) 2 tcap) 2 tg i wr) (fun i _ _ => 64 - (intOf i).toNat)
      case atStart => exact hr1
      case round =>
        obtain ⟨k, hk, rfl, hb, ⟨cs, hcs, hcl⟩, hts, hf⟩ := hrel
        by_cases hk64 : k < 64
        · have hbw := (HB.out ()).frame hf hne
          have d0 := hbw.cell 65 (by rw [dqtBody_length (HQ.out ())]; omega)
          rw [dqtBody_65 (HQ.out ())] at d0
          have dk := hbw.cell (65 + (k + 1)) (by rw [dqtBody_length (HQ.out ())]; omega)
          rw [← Nat.add_assoc off 65 (k + 1)] at dk
          obtain ⟨x, hx⟩ : ∃ x, (dqtBody qs).getD (65 + (k + 1)) 0 = x := ⟨_, rfl⟩
          rw [hx] at dk
          have c3 := hb.cellv 3 rfl
          obtain ⟨n, hn⟩ : ∃ n, k + 1 = n := ⟨_, rfl⟩
          rw [hn] at dk
          have bw : IntKind.i64.wrap (1 + (k : Int)) = (n : Int) := by rw [show (1 + (k : Int)) = ((k + 1 : Nat) : Int) by push_cast; omega, hn]; exact wr64 n (by omega)
          have bn1 : (0 : Int) ≤ (n : Int) := by omega
          have bn2 : (n : Int) < 65 := by omega
          have b4 : (0 : Int) ≤ (k : Int) := by omega
          have b5 : (k : Int) < 64 := by omega
          obtain ⟨y, hy⟩ : ∃ y, wr.cell? ⟨tg, 64 + k, none⟩ = some y := ⟨_, hcs.cellv (64 + k) (List.getElem?_eq_getElem (by omega))⟩
          have hz := hcs.frozen (64 + k)
          have HFS := hu (fun v => fill_step (o := 64 + k) v rfl (HTB.out ()) hk64 hb hts hf)
          clear hbw hb hcs hcl hts hf hx hn
          go_upto_region 10 with (fail)
          refine wp_region_takes 17 17 (fun w' => w'.cell? ⟨TB, 3, none⟩ = some (.slice (some ⟨tg, 0, none⟩) 2 tcap) ∧ w'.cell? ⟨g, off + 65, none⟩ = some (.int .u8 1) ∧ w'.cell? ⟨g, off + 65 + n, none⟩ = some (.int .u8 x)) (by kernel_rfl) (by kernel_rfl) (by kernel_rfl) (by kernel_rfl) (by decide) rfl (fun c a a' w e h => ⟨e.symm.trans h.1, h.2⟩) ⟨c3, d0, dk⟩ ?_
          simp only [List.take_succ_cons, List.take_zero]
          iterate 17
            refine chainY_cons (v := ?_) rfl (fun w' hS => ?_) ?_
            rotate_left
            · obtain ⟨s0, s1, s2⟩ := hS
              go_simp
              try with_reducible rfl
            simp only [Act.put, List.setIfInBounds_toArray, List.set_cons_zero, List.set_cons_succ]
          refine chainY_nil ?_
          refine wpAnyH_done (by kernel_rfl) ?_ 0
          simp only [Tail, List.drop_succ_cons, List.drop_zero]
          clear c3 d0 dk
          have y' : wr.drew.cell? _ = _ := hy
          go_wp2
          exact ⟨((HFS.out ()) _).drew, by simp [intOf]; omega⟩
        · obtain rfl : k = 64 := by omega
          have hr0 : TabRel w TB W H cv sv ms 2 wr := ⟨_, hb, hts.own, hf⟩
          have hb0 := hb
          have hf0 := hf
          clear hb hcs hcl hts hf
          obtain ⟨tg2, tc2, hlast⟩ : ∃ tg2 tc2, Blk wr TB (tblC W H cv (.slice (some ⟨tg2, 0, none⟩) 2 tc2) ms sv) 66 ∧ w.heap.size ≤ tg2 ∧ Fr (· = TB) w wr := ⟨_, _, hb0, htg, hf0⟩
          go_wp2
          obtain ⟨wc, rfl⟩ : ∃ z, z = wr := ⟨_, rfl⟩
          all_goals
            rw [rounds_succ]
            go_wp2
            go_ret
            exact ⟨rfl, tg2, tc2, hlast⟩
end Go.Proofs.YtpophkigihfjoaaDoor
