/- The walk of impl.Encode. -/
import Derived.Test.YtpophkigihfjoaaDoorPxs
namespace Go.Proofs.YtpophkigihfjoaaDoor
open Go.RowKit Go.Great
set_option maxRecDepth 100000

/-- The package's tables in memory. -/
structure Tabs (w : World) : Prop where
  gl : GlobW w
  uq : ∀ i, i < 128 → w.cell? ⟨0, i, none⟩ = some (B8 (uqL.getD i 0))

theorem Tabs.frame {w w' : World} {S : Nat → Prop} (h : Tabs w) (hf : Fr S w w') (hS : ∀ k, k < 3 → ¬ S k) : Tabs w' := by
  have l := h.gl.lt2
  refine ⟨⟨fun i hi => ?_, fun i hi => ?_⟩, fun i hi => ?_⟩
  · rw [World.cell?_of_block (a := ⟨1, i, none⟩) (hf.block 1 (by omega) (hS 1 (by omega)))]; exact h.gl.uz i hi
  · rw [World.cell?_of_block (a := ⟨2, i, none⟩) (hf.block 2 (by omega) (hS 2 (by omega)))]; exact h.gl.bc i hi
  · rw [World.cell?_of_block (a := ⟨0, i, none⟩) (hf.block 0 (by omega) (hS 0 (by omega)))]; exact h.uq i hi

/-- The pixels that come in. -/
structure PixW (w : World) (g n : Nat) (pix : List Int) : Prop where
  len : pix.length = n
  cell : ∀ j, j < n → w.cell? ⟨g, j, none⟩ = some (B8 (pix.getD j 0))
  lt : g < w.heap.size
  byte : ∀ i, 0 ≤ pix.getD i 0 ∧ pix.getD i 0 ≤ 255

theorem PixW.frame {w w' : World} {S : Nat → Prop} {g n : Nat} {pix : List Int} (h : PixW w g n pix) (hf : Fr S w w') (hS : ¬ S g) : PixW w' g n pix :=
  ⟨h.len, fun j hj => (World.cell?_of_block (a := ⟨g, j, none⟩) (hf.block g h.lt hS)).trans (h.cell j hj), Nat.lt_of_lt_of_le h.lt hf.size, h.byte⟩

/-- What impl.Encode leaves: the file's bytes in a slice of its own, and true. -/
def ImpPost (w : World) (W H Q : Nat) (pix : List Int) (e : Ending) (w' : World) : Prop :=
  ∃ v', e = .returned (.tuple #[v', .bool true]) ∧ w'.ownsRow 0 5 1 v' (jpegP pix W H Q).length ((jpegP pix W H Q).map B8) ∧ (∀ k, v'.ownBlock = some k → w.heap.size ≤ k) ∧ Fr (fun _ => False) w w'

theorem splice_all (z p : List Int) (h : p.length = z.length) : splice (z.map B8) 0 (p.map B8) = p.map B8 := by
  rw [splice_map]
  unfold splice
  simp [h]

set_option maxHeartbeats 2000000 in
theorem imp_any {w : World} {W H Q g C : Nat} {q : Int} {pix : List Int} (hT : Tabs w) (hP : PixW w g (4 * W * H) pix) (w1 : 1 ≤ W) (w2 : W ≤ 40) (h1 : 1 ≤ H) (h2 : H ≤ 40) (hq : (q = 0 ∧ Q = 75) ∨ (q = Q ∧ 1 ≤ Q ∧ Q ≤ 100)) :
    Calls Tryd.prog 7 #[.slice (some ⟨g, 0, none⟩) (4 * W * H) C, .int .i64 W, .int .i64 H, .int .i64 q] w (ImpPost w W H Q pix) := by
  have HT := hu hT
  have HP := hu hP
  have HQ := hu hq
  have hb : 4 * W * H ≤ 160 * 40 := Nat.mul_le_mul (by omega) h2
  have hn1 : 0 < 4 * W * H := Nat.mul_pos (by omega) h1
  have hrg := fun w => rgba_new w W H w2 h2
  have HRG := hu hrg
  clear hT hP hq hrg
  go_enter Tryd.func7, Tryd.ntmps7
  go_wp2_with fail
  refine (rect_any _ W H (by omega) (by omega)).mono ?_
  rintro e wa ⟨rfl, fa⟩
  have FA := hu fa
  clear fa
  go_wp2_with fail
  refine (HRG.out () _).mono ?_
  rintro e wb ⟨IB, PX, rfl, hI⟩
  have HI := hu hI
  have i0 := hI.head.cellv 0 rfl
  obtain ⟨n, hn⟩ : ∃ n, 4 * W * H = n := ⟨_, rfl⟩
  rw [hn] at i0 HP
  simp only [hn]
  have FAB := hu ((FA.out ()).trans hI.fr (fun _ _ e => e))
  have HPb := hu ((HP.out ()).frame (FAB.out ()) (fun e => e))
  have bX := hI.body
  rw [hn] at bX
  have HBX := hu bX
  have HNN := hu hn
  have HHD := hu hI.head
  have HNE := hu hI.ne
  have HIS := hu (And.intro hI.ib hI.px)
  clear hI HI HRG bX hb hn1 hn
  have HC1 : Hid (Unit → (pix.map B8).length = Nat.min n n) := hu (by rw [List.length_map, (HP.out ()).len]; simp)
  have HC2 : Hid (Unit → 0 + (pix.map B8).length ≤ ((List.replicate n (0 : Int)).map B8).length) := hu (by simp [(HP.out ()).len])
  have HC3 : Hid (Unit → ∀ j u, (pix.map B8)[j]? = some u → wb.cell? ((⟨g, 0, none⟩ : Addr).add j) = some u) := hu (cellsAt (fun j hj => by rw [Nat.zero_add]; exact (HPb.out ()).cell j (by rw [← (HP.out ()).len]; exact hj)))
  go_wp2_with (refine wpList_copy_blk rfl (.tmp 21) (.tmp 22) 25 25 rfl 5 und25 size5 (some ⟨PX, 0, none⟩) (some ⟨g, 0, none⟩) n n n C rfl rfl PX 0 ((List.replicate n (0 : Int)).map B8) 5 (HBX.out ()) (pix.map B8) (HC1.out ()) (fun _ => ⟨rfl, _, rfl, HC3.out ()⟩) (HC2.out ()) (ints_oneCell .u8 pix) ?_)
  intro wk hbc hfc
  have HBC := hu (hbc.out)
  have HFC := hu (hfc.out)
  clear hbc hfc i0
  go_upto_region 3 with (fail)
  iterate 8 go_step
  go_cut [11] (fun o wx => OptW wx o Q ∧ Fr (fun _ => False) wk wx)
  case first =>
    rcases HQ.out () with ⟨rfl, rfl⟩ | ⟨rfl, q1, q2⟩
    · go_wp2
      go_meet
      exact ⟨.inl ⟨rfl, rfl⟩, Fr.refl _ _⟩
    · have d1 : ((Q : Int) != 0) = true := by simp; omega
      go_wp2
      go_meet
      exact ⟨.inr ⟨_, rfl, Blk.newA _ _ _⟩, (Fr.refl _ _).alloc _⟩
  case rest =>
    obtain ⟨hO, hFo⟩ := hcut
    have hFw : Fr (fun _ => False) w wc := by
      have e1 := (FA.out ()).size
      have e2 := (HIS.out ()).2
      exact ((FAB.out ()).trans (HFC.out ()) (fun k hk e => by omega)).trans hFo (fun _ _ e => e)
    have hImg : ImgW wc IB PX W H pix := by
      have e1 := (HIS.out ()).2
      have hh := hFo.blk ((HFC.out ()).blk (HHD.out ()) (by have := HNE.out (); omega)) (fun e => e)
      have hb := HBC.out ()
      rw [show List.replicate n (B8 0) = (List.replicate n (0 : Int)).map B8 from by rw [List.map_replicate], splice_all _ _ (by simp [(HP.out ()).len])] at hb
      exact ⟨hh, hFo.blk hb (fun e => e), by rw [(HP.out ()).len, HNN.out ()], (HP.out ()).byte⟩
    have hTc := (HT.out ()).frame hFw (fun _ _ e => e)
    have f1 := (Fr.refl (fun _ => False) wc).alloc (.cells #[.slice none 0 0] 55)
    have hOd : OptW (wc.alloc (.cells #[.slice none 0 0] 55)) u11 Q := by
      rcases hO with h | ⟨OB, h, hb⟩
      · exact .inl h
      · exact .inr ⟨OB, h, f1.blk hb (fun e => e)⟩
    have hTd := hTc.frame f1 (fun _ _ e => e)
    have hId := hImg.frame f1 (fun e => e) (fun e => e)
    have hWd := Blk.new wc [.slice none 0 0] 55
    have hFd := hFw.trans f1 (fun _ _ e => e)
    have l1 := hImg.head.lt
    have l2 := hImg.body.lt
    have l3 := hTc.gl.lt2
    have hq12 : 1 ≤ Q ∧ Q ≤ 100 := by
      rcases HQ.out () with ⟨_, rfl⟩ | ⟨_, a, b⟩
      · omega
      · exact ⟨a, b⟩
    have HWd := hu hWd
    have HId := hu hId
    have HOd := hu hOd
    have HTd := hu hTd
    have HFd := hu hFd
    have HLL := hu (And.intro l1 (And.intro l2 l3))
    have hfin : w.heap.size ≤ wc.heap.size := hFw.size
    clear hWd hId hOd hTd hFd l1 l2 l3 hO hFw hImg hTc f1 hFo
    obtain ⟨hq1, hq2⟩ := hq12
    go_step
    go_wp2_with fail
    refine (jenc_any (HWd.out ()) (HId.out ()) w1 w2 h1 h2 hq1 hq2 (HOd.out ()) (HTd.out ()).gl (HTd.out ()).uq (by have := (HLL.out ()).2.2; omega) (by have := (HLL.out ()).1; omega) (by have := (HLL.out ()).2.1; omega)).mono ?_
    rintro e we ⟨rfl, v', b1, b2, b3, b4⟩
    have c0 := b1.cellv 0 rfl
    have B2 := hu b2
    have B3 := hu b3
    have B4 := hu b4
    clear b1 b2 b3 b4
    go_wp2
    go_ret2
    refine ⟨v', rfl, B2.out (), fun k hk => Nat.le_trans (HFd.out ()).size (B3.out () k hk), ?_⟩
    exact (HFd.out ()).trans (B4.out ()) (fun k hk e => by omega)
end Go.Proofs.YtpophkigihfjoaaDoor
