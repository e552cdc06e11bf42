/- The walk of rgbaToYCbCr. -/
import Derived.Test.YtpophkigihfjoaaDoorRgb
import Derived.Test.YtpophkigihfjoaaDoorBlk
import Derived.Deep.DeepCutAuto
namespace Go.Proofs.YtpophkigihfjoaaDoor
open Go.RowKit
set_option maxRecDepth 100000

/-- The first n numbers from place o on are f's. -/
def fillAt (f : Nat → Int) (N : List Int) (o n : Nat) : List Int := N.take o ++ ((List.range n).map f ++ N.drop (o + n))

theorem fillAt_zero (f : Nat → Int) (N : List Int) (o : Nat) : fillAt f N o 0 = N := by simp [fillAt]

theorem length_fillAt (f : Nat → Int) (N : List Int) (o n : Nat) (h : o + n ≤ N.length) : (fillAt f N o n).length = N.length := by
  simp [fillAt]; omega

theorem fillAt_set (f : Nat → Int) (N : List Int) (o n : Nat) (h : o + n < N.length) : (fillAt f N o n).set (o + n) (f n) = fillAt f N o (n + 1) := by
  unfold fillAt
  have h1 : (N.take o).length = o := by simp; omega
  rw [List.set_append, if_neg (by omega), h1, List.set_append, if_neg (by simp)]
  simp only [List.length_map, List.length_range]
  rw [show o + n - o - n = 0 from by omega, List.drop_eq_getElem_cons (by omega)]
  simp [List.range_succ, Nat.add_assoc]

theorem rgb_q (r g b : Int) (w : World) (hr : 0 ≤ r) (hr2 : r ≤ 255) (hg : 0 ≤ g) (hg2 : g ≤ 255) (hb : 0 ≤ b) (hb2 : b ≤ 255) :
    Calls Tryd.prog 63 #[.int .u8 r, .int .u8 g, .int .u8 b] w fun e w' => e = .returned (.tuple #[.int .u8 (yP r g b), .int .u8 (cbP r g b), .int .u8 (crP r g b)]) ∧ w' = w :=
  (rgb_any r g b w hr hr2 hg hg2 hb hb2).mono fun _ _ ⟨h1, h2⟩ => ⟨h1, h2.symm⟩

/-- An RGBA image in memory. -/
structure ImgW (w : World) (IB PX wide high : Nat) (pix : List Int) : Prop where
  head : Blk w IB [.slice (some ⟨PX, 0, none⟩) (4 * wide * high) (4 * wide * high), .int .i64 ((4 * wide : Nat) : Int), .int .i64 0, .int .i64 0, .int .i64 wide, .int .i64 high] 49
  body : Blk w PX (pix.map B8) 5
  len : pix.length = 4 * wide * high
  byte : ∀ i, 0 ≤ pix.getD i 0 ∧ pix.getD i 0 ≤ 255

theorem ImgW.frame {w w' : World} {S : Nat → Prop} {IB PX wide high : Nat} {pix : List Int} (h : ImgW w IB PX wide high pix) (hf : Fr S w w') (h1 : ¬ S IB) (h2 : ¬ S PX) : ImgW w' IB PX wide high pix :=
  ⟨hf.blk h.head h1, hf.blk h.body h2, h.len, h.byte⟩

/-- The bounds as a struct. -/
def rectCells (wide high : Nat) : Array Value := #[.int .i64 0, .int .i64 0, .int .i64 wide, .int .i64 high]

theorem bounds_any {w : World} {IB wide high : Nat} (i2 : w.cell? ⟨IB, 2, none⟩ = some (.int .i64 0)) (i3 : w.cell? ⟨IB, 3, none⟩ = some (.int .i64 0)) (i4 : w.cell? ⟨IB, 4, none⟩ = some (.int .i64 wide)) (i5 : w.cell? ⟨IB, 5, none⟩ = some (.int .i64 high)) (l : IB < w.heap.size) :
    Calls Tryd.prog 62 #[.pointer (some ⟨IB, 0, none⟩)] w fun e w' => e = .returned (.agg #[.int .i64 0, .int .i64 0, .int .i64 wide, .int .i64 high]) ∧
      w.alloc (.cells #[.int .i64 0, .int .i64 0, .int .i64 wide, .int .i64 high] 46) = w' := by
  go_enter Tryd.func62, Tryd.ntmps62
  go_wp2
  exact bodyPost_ret (v := .agg #[.int .i64 0, .int .i64 0, .int .i64 wide, .int .i64 high]) (by simp [results, Tryd.results62, go_sem]) rfl ⟨rfl, rfl⟩

/-- Where the pixel k of a block at (x, y) lies, cut to the image. -/
def pixOff (wide high x y k : Nat) : Nat := min (y + k / 8) (high - 1) * (4 * wide) + min (x + k % 8) (wide - 1) * 4

def yAt (pix : List Int) (wide high x y k : Nat) : Int := yP (pix.getD (pixOff wide high x y k) 0) (pix.getD (pixOff wide high x y k + 1) 0) (pix.getD (pixOff wide high x y k + 2) 0)
def cbAt (pix : List Int) (wide high x y k : Nat) : Int := cbP (pix.getD (pixOff wide high x y k) 0) (pix.getD (pixOff wide high x y k + 1) 0) (pix.getD (pixOff wide high x y k + 2) 0)
def crAt (pix : List Int) (wide high x y k : Nat) : Int := crP (pix.getD (pixOff wide high x y k) 0) (pix.getD (pixOff wide high x y k + 1) 0) (pix.getD (pixOff wide high x y k + 2) 0)

/-- Behind n pixels: the three blocks, the point and the bounds as the call keeps them. -/
structure PixSt (w : World) (B CB CR o wide high x y : Nat) (pix M N R : List Int) (n : Nat) (wr : World) : Prop where
  yb : Blk wr B ((fillAt (yAt pix wide high x y) M 0 n).map I32) 135
  cb : Blk wr CB ((fillAt (cbAt pix wide high x y) N o n).map I32) 136
  cr : Blk wr CR ((fillAt (crAt pix wide high x y) R o n).map I32) 136
  p0 : wr.cell? ⟨w.heap.size, 0, none⟩ = some (.int .i64 x)
  p1 : wr.cell? ⟨w.heap.size, 1, none⟩ = some (.int .i64 y)
  b0 : wr.cell? ⟨w.heap.size + 1 + 1, 0, none⟩ = some (.int .i64 0)
  b1 : wr.cell? ⟨w.heap.size + 1 + 1, 1, none⟩ = some (.int .i64 0)
  b2 : wr.cell? ⟨w.heap.size + 1 + 1, 2, none⟩ = some (.int .i64 wide)
  b3 : wr.cell? ⟨w.heap.size + 1 + 1, 3, none⟩ = some (.int .i64 high)
  fr : Fr (fun k => k = B ∨ k = CB ∨ k = CR) w wr

theorem PixSt.step {w : World} {B CB CR o wide high x y : Nat} {pix M N R : List Int} {n : Nat} {wr : World} (h : PixSt w B CB CR o wide high x y pix M N R n wr)
    (hM : M.length = 64) (hN : N.length = 256) (hR : R.length = 256) (ho : o + 64 ≤ 256) (hn : n < 64) (n1 : B ≠ CB) (n2 : B ≠ CR) (n3 : CB ≠ CR) (hB : B < w.heap.size) (hCB : CB < w.heap.size) (hCR : CR < w.heap.size)
    (a b c : Value) (ha : a = I32 (yAt pix wide high x y n)) (hb : b = I32 (cbAt pix wide high x y n)) (hc : c = I32 (crAt pix wide high x y n)) :
    PixSt w B CB CR o wide high x y pix M N R (n + 1) (((wr.setCell ⟨B, n, none⟩ a).setCell ⟨CB, o + n, none⟩ b).setCell ⟨CR, o + n, none⟩ c) := by
  subst ha hb hc
  have keep : ∀ (j i : Nat), j ≠ B → j ≠ CB → j ≠ CR → ∀ (u1 u2 u3 : Value), (((wr.setCell ⟨B, n, none⟩ u1).setCell ⟨CB, o + n, none⟩ u2).setCell ⟨CR, o + n, none⟩ u3).cell? ⟨j, i, none⟩ = wr.cell? ⟨j, i, none⟩ := by
    intro j i h1 h2 h3 u1 u2 u3
    rw [World.cell?_setCell_other _ _ _ _ (by simp only [ne_eq, Addr.mk.injEq, not_and]; intro e; exact absurd e.symm h3), World.cell?_setCell_other _ _ _ _ (by simp only [ne_eq, Addr.mk.injEq, not_and]; intro e; exact absurd e.symm h2), World.cell?_setCell_other _ _ _ _ (by simp only [ne_eq, Addr.mk.injEq, not_and]; intro e; exact absurd e.symm h1)]
  refine ⟨?_, ?_, ?_, ?_, ?_, ?_, ?_, ?_, ?_, ?_⟩
  · have h1 := ((h.yb.set n (I32 (yAt pix wide high x y n))).setOther (a := ⟨CB, o + n, none⟩) n1 (I32 (cbAt pix wide high x y n))).setOther (a := ⟨CR, o + n, none⟩) n2 (I32 (crAt pix wide high x y n))
    have h2 := fillAt_set (yAt pix wide high x y) M 0 n (by omega)
    rw [Nat.zero_add] at h2
    rw [← List.map_set, h2] at h1
    exact h1
  · have h1 := ((h.cb.setOther (a := ⟨B, n, none⟩) (Ne.symm n1) (I32 (yAt pix wide high x y n))).set (o + n) (I32 (cbAt pix wide high x y n))).setOther (a := ⟨CR, o + n, none⟩) n3 (I32 (crAt pix wide high x y n))
    rw [← List.map_set, fillAt_set (cbAt pix wide high x y) N o n (by omega)] at h1
    exact h1
  · have h1 := ((h.cr.setOther (a := ⟨B, n, none⟩) (Ne.symm n2) (I32 (yAt pix wide high x y n))).setOther (a := ⟨CB, o + n, none⟩) (Ne.symm n3) (I32 (cbAt pix wide high x y n))).set (o + n) (I32 (crAt pix wide high x y n))
    rw [← List.map_set, fillAt_set (crAt pix wide high x y) R o n (by omega)] at h1
    exact h1
  · rw [keep _ _ (by omega) (by omega) (by omega)]; exact h.p0
  · rw [keep _ _ (by omega) (by omega) (by omega)]; exact h.p1
  · rw [keep _ _ (by omega) (by omega) (by omega)]; exact h.b0
  · rw [keep _ _ (by omega) (by omega) (by omega)]; exact h.b1
  · rw [keep _ _ (by omega) (by omega) (by omega)]; exact h.b2
  · rw [keep _ _ (by omega) (by omega) (by omega)]; exact h.b3
  · exact ((h.fr.setCell (a := ⟨B, n, none⟩) (fun _ => .inl rfl) _).setCell (a := ⟨CB, o + n, none⟩) (fun _ => .inr (.inl rfl)) _).setCell (a := ⟨CR, o + n, none⟩) (fun _ => .inr (.inr rfl)) _

theorem PixSt.drewN {w : World} {B CB CR o wide high x y : Nat} {pix M N R : List Int} {n : Nat} {wr : World} (h : PixSt w B CB CR o wide high x y pix M N R n wr) (m : Nat) : PixSt w B CB CR o wide high x y pix M N R n (wr.drewN m) :=
  ⟨h.yb, h.cb, h.cr, h.p0, h.p1, h.b0, h.b1, h.b2, h.b3, h.fr.drewN m⟩

def RowRelP (w : World) (B CB CR o wide high x y : Nat) (pix M N R : List Int) (j : Value) (wr : World) : Prop := ∃ k : Nat, k ≤ 8 ∧ j = .int .i64 k ∧ PixSt w B CB CR o wide high x y pix M N R (8 * k) wr
def ColRelP (w : World) (B CB CR o wide high x y : Nat) (pix M N R : List Int) (k : Nat) (i : Value) (wr : World) : Prop := ∃ i' : Nat, i' ≤ 8 ∧ i = .int .i64 i' ∧ PixSt w B CB CR o wide high x y pix M N R (8 * k + i') wr

set_option maxHeartbeats 600000 in
theorem pix_any {w : World} {IB PX wide high B CB CR o x y : Nat} {pix M N R : List Int} (hi : ImgW w IB PX wide high pix) (hw1 : 1 ≤ wide) (hw2 : wide ≤ 40) (hh1 : 1 ≤ high) (hh2 : high ≤ 40) (hx : x ≤ 100) (hy : y ≤ 100)
    (hb : Blk w B (M.map I32) 135) (hc : Blk w CB (N.map I32) 136) (hr : Blk w CR (R.map I32) 136) (hM : M.length = 64) (hN : N.length = 256) (hR : R.length = 256) (ho : o + 64 ≤ 256)
    (n1 : B ≠ CB) (n2 : B ≠ CR) (n3 : CB ≠ CR) (n4 : IB ≠ B) (n5 : IB ≠ CB) (n6 : IB ≠ CR) (n7 : PX ≠ B) (n8 : PX ≠ CB) (n9 : PX ≠ CR) :
    Calls Tryd.prog 49 #[.pointer (some ⟨IB, 0, none⟩), .agg #[.int .i64 x, .int .i64 y], .pointer (some ⟨B, 0, none⟩), .pointer (some ⟨CB, o, none⟩), .pointer (some ⟨CR, o, none⟩)] w fun e w' => e = .returned (.tuple #[]) ∧
      Blk w' B ((fillAt (yAt pix wide high x y) M 0 64).map I32) 135 ∧ Blk w' CB ((fillAt (cbAt pix wide high x y) N o 64).map I32) 136 ∧ Blk w' CR ((fillAt (crAt pix wide high x y) R o 64).map I32) 136 ∧
      Fr (fun k => k = B ∨ k = CB ∨ k = CR) w w' := by
  have i1 := hi.head.cellv 1 rfl
  have i2 := hi.head.cellv 2 rfl
  have i3 := hi.head.cellv 3 rfl
  have i4 := hi.head.cellv 4 rfl
  have i5 := hi.head.cellv 5 rfl
  have l1 := hi.head.lt
  have HI := hu hi
  have HB := hu hb
  have HC := hu hc
  have HR := hu hr
  have HM := hu hM
  have HN := hu hN
  have HR' := hu hR
  clear hi hb hc hr hM hN hR
  go_enter Tryd.func49, Tryd.ntmps49
  go_wp2_with fail
  have hA := (HI.out ()).head.alloc (.cells #[.int .i64 x, .int .i64 y] 44)
  refine (bounds_any (w := w.alloc (.cells #[.int .i64 x, .int .i64 y] 44)) (hA.cellv 2 rfl) (hA.cellv 3 rfl) (hA.cellv 4 rfl) (hA.cellv 5 rfl) hA.lt).mono ?_
  rintro e w1 ⟨rfl, rfl⟩
  clear hA
  have hstart : PixSt w B CB CR o wide high x y pix M N R 0 (((w.alloc (.cells #[.int .i64 x, .int .i64 y] 44)).alloc (.cells #[.int .i64 0, .int .i64 0, .int .i64 wide, .int .i64 high] 46)).alloc (.cells #[.int .i64 0, .int .i64 0, .int .i64 wide, .int .i64 high] 46)) := by
    have hp := ((Blk.newA w #[.int .i64 x, .int .i64 y] 44).alloc (.cells #[.int .i64 0, .int .i64 0, .int .i64 wide, .int .i64 high] 46)).alloc (.cells #[.int .i64 0, .int .i64 0, .int .i64 wide, .int .i64 high] 46)
    have hq := Blk.newA ((w.alloc (.cells #[.int .i64 x, .int .i64 y] 44)).alloc (.cells #[.int .i64 0, .int .i64 0, .int .i64 wide, .int .i64 high] 46)) #[.int .i64 0, .int .i64 0, .int .i64 wide, .int .i64 high] 46
    rw [World.size_alloc, World.size_alloc] at hq
    refine ⟨?_, ?_, ?_, hp.cellv 0 rfl, hp.cellv 1 rfl, hq.cellv 0 rfl, hq.cellv 1 rfl, hq.cellv 2 rfl, hq.cellv 3 rfl, (((Fr.refl _ w).alloc _).alloc _).alloc _⟩
    · rw [fillAt_zero]; exact (((HB.out ()).alloc _).alloc _).alloc _
    · rw [fillAt_zero]; exact (((HC.out ()).alloc _).alloc _).alloc _
    · rw [fillAt_zero]; exact (((HR.out ()).alloc _).alloc _).alloc _
  have HST := hu hstart
  have lB := (HB.out ()).lt
  have lC := (HC.out ()).lt
  have lR := (HR.out ()).lt
  obtain ⟨S, hS⟩ : ∃ S : Nat, 4 * wide = S := ⟨_, rfl⟩
  obtain ⟨L, hL⟩ : ∃ L : Nat, 4 * wide * high = L := ⟨_, rfl⟩
  have HS := hu hS
  have HL := hu hL
  clear hstart hS hL i1 i2 i3 i4 i5
  go_wp2
  go_loopw [13, 14, 15, 16, 17, 18, 19, 20, 21] (fun j _ _ _ _ _ _ _ _ wr => RowRelP w B CB CR o wide high x y pix M N R j wr) (fun j _ _ _ _ _ _ _ _ _ => 8 - (intOf j).toNat)
  case atStart => exact ⟨0, by omega, rfl, HST.out ()⟩
  case round =>
    obtain ⟨k, hk, rfl, hP⟩ := hrel
    have HP := hu hP
    have d1 := hP.p1
    have d0 := hP.b0
    have d01 := hP.b1
    have hI := (HI.out ()).frame hP.fr (by rintro (e | e | e); exact n4 e; exact n5 e; exact n6 e) (by rintro (e | e | e); exact n7 e; exact n8 e; exact n9 e)
    have i1 : wr.cell? ⟨IB, 1, none⟩ = some (.int .i64 S) := by rw [hI.head.cellv 1 rfl, HS.out ()]
    clear hP hI
    by_cases hlt : k < 8
    · obtain ⟨sy, hsy⟩ : ∃ sy : Nat, min (y + k) (high - 1) = sy := ⟨_, rfl⟩
      have HSY := hu hsy
      have hsy2 : sy ≤ 39 := by omega
      go_upto_if 42 with (fail)
      go_cut [14] (fun s wx => s = .int .i64 (sy : Int) ∧ wx = wr)
      case first =>
        by_cases hg : high - 1 < y + k
        · have hb : decide ((high : Int) - 1 < (y : Int) + k) = true := by simp; omega
          go_wp2
          go_meet
          exact ⟨by congr 1; omega, rfl⟩
        · have hb : decide ((high : Int) - 1 < (y : Int) + k) = false := by simp; omega
          go_wp2
          go_meet
          exact ⟨by congr 1; omega, rfl⟩
      case rest =>
        obtain ⟨rfl, rfl⟩ := hcut
        obtain ⟨wx0, rfl⟩ : ∃ wo : World, wo = wc := ⟨_, rfl⟩
        have hS160 : S ≤ 160 := by have := HS.out (); omega
        have hmul : sy * S ≤ 39 * 160 := Nat.mul_le_mul hsy2 hS160
        obtain ⟨base, hbase⟩ : ∃ b : Nat, sy * S = b := ⟨_, rfl⟩
        have hbi : (sy : Int) * (S : Int) = (base : Int) := by rw [← hbase]; push_cast; rfl
        have hb2 : base ≤ 6240 := by omega
        have HBASE := hu hbase
        clear hbase hmul hsy
        go_upto_region 10 with (fail)
        go_cut [15] (fun s wx => s = .int .i64 (base : Int) ∧ ∃ m, wx = wx0.drewN m)
        case first =>
          go_quiet (fail)
          go_wp2
          go_meet
          exact ⟨rfl, _, rfl⟩
        case rest =>
          obtain ⟨rfl, m0, rfl⟩ := hcut
          have HP2 := hu ((HP.out ()).drewN m0)
          clear d0 d01 d1 i1 hbi
          obtain ⟨w1, hw1e⟩ : ∃ x : World, wx0.drewN m0 = x := ⟨_, rfl⟩
          rw [hw1e]
          have HP3 := HP2.out ()
          rw [hw1e] at HP3
          have HP1 := hu HP3
          clear HP3 HP2 hw1e
          go_wp2
          go_loopw [16, 17, 18, 19, 20, 21] (fun i _ _ _ _ _ wr => ColRelP w B CB CR o wide high x y pix M N R k i wr) (fun i _ _ _ _ _ _ => 8 - (intOf i).toNat)
          case atStart => exact ⟨0, by omega, rfl, HP1.out ()⟩
          case round =>
            obtain ⟨i, hi8, rfl, hQ⟩ := hrel
            have HQ := hu hQ
            have e0 := hQ.p0
            have hI := (HI.out ()).frame hQ.fr (by rintro (e | e | e); exact n4 e; exact n5 e; exact n6 e) (by rintro (e | e | e); exact n7 e; exact n8 e; exact n9 e)
            have HI2 := hu hI
            clear hQ hI
            by_cases hlt2 : i < 8
            · obtain ⟨sx, hsx⟩ : ∃ sx : Nat, min (x + i) (wide - 1) = sx := ⟨_, rfl⟩
              have HSX := hu hsx
              have hsx2 : sx ≤ wide - 1 := by omega
              go_upto_if 69 with (fail)
              go_cut [17] (fun s wx => s = .int .i64 (sx : Int) ∧ wx = wr)
              case first =>
                by_cases hg : wide - 1 < x + i
                · have hb : decide ((wide : Int) - 1 < (x : Int) + i) = true := by simp; omega
                  go_wp2
                  go_meet
                  exact ⟨by congr 1; omega, rfl⟩
                · have hb : decide ((wide : Int) - 1 < (x : Int) + i) = false := by simp; omega
                  go_wp2
                  go_meet
                  exact ⟨by congr 1; omega, rfl⟩
              case rest =>
                obtain ⟨rfl, rfl⟩ := hcut
                obtain ⟨w2, rfl⟩ : ∃ wo : World, wo = wc := ⟨_, rfl⟩
                have hbd : base + sx * 4 + 4 ≤ L := by
                  have h1 := HBASE.out ()
                  have h2 := HSY.out ()
                  have h3 := HS.out ()
                  have h4 := HL.out ()
                  have h5 : sy ≤ high - 1 := by omega
                  have h6 : sy * S + S ≤ high * S := by
                    have := Nat.mul_le_mul_right S (show sy + 1 ≤ high by omega)
                    rw [Nat.add_mul, Nat.one_mul] at this
                    exact this
                  have h7 : high * S = L := by rw [← h4, ← h3, Nat.mul_comm]
                  omega
                have hoff : pixOff wide high x y (8 * k + i) = base + sx * 4 := by
                  unfold pixOff
                  rw [show (8 * k + i) / 8 = k from by omega, show (8 * k + i) % 8 = i from by omega, HSY.out (), HSX.out (), HS.out (), HBASE.out ()]
                have HOFF := hu hoff
                have c0 : w2.cell? ⟨IB, 0, none⟩ = some (.slice (some ⟨PX, 0, none⟩) L L) := by rw [(HI2.out ()).head.cellv 0 rfl, HL.out ()]
                have hlen : pix.length = L := by rw [(HI.out ()).len]; exact HL.out ()
                have q0 := int_cells (HI2.out ()).body (base + sx * 4) (by omega)
                have q1 := int_cells (HI2.out ()).body (base + sx * 4 + 1) (by omega)
                have q2 := int_cells (HI2.out ()).body (base + sx * 4 + 2) (by omega)
                obtain ⟨r0, r1⟩ := (HI.out ()).byte (base + sx * 4)
                obtain ⟨g0, g1⟩ := (HI.out ()).byte (base + sx * 4 + 1)
                obtain ⟨b0, b1⟩ := (HI.out ()).byte (base + sx * 4 + 2)
                obtain ⟨vr, hvr⟩ : ∃ v, pix.getD (base + sx * 4) 0 = v := ⟨_, rfl⟩
                obtain ⟨vg, hvg⟩ : ∃ v, pix.getD (base + sx * 4 + 1) 0 = v := ⟨_, rfl⟩
                obtain ⟨vb, hvb⟩ : ∃ v, pix.getD (base + sx * 4 + 2) 0 = v := ⟨_, rfl⟩
                rw [hvr] at q0 r0 r1
                rw [hvg] at q1 g0 g1
                rw [hvb] at q2 b0 b1
                have HVR := hu hvr
                have HVG := hu hvg
                have HVB := hu hvb
                have hne : ¬ (L = base + sx * 4) := by omega
                have hL6 : L ≤ 6400 := by
                  have h4 := HL.out ()
                  have : 4 * wide * high ≤ 160 * 40 := Nat.mul_le_mul (by omega) hh2
                  omega
                clear hvr hvg hvb hoff hlen hsx
                go_wp2_with (fail)
                obtain ⟨ln, hln⟩ : ∃ ln : Nat, L - (base + sx * 4) = ln := ⟨_, rfl⟩
                have hln4 : 4 ≤ ln := by omega
                have hln6 : ln ≤ 6400 := by omega
                rw [hln]
                have hl0 : (0 : Int) < (ln : Int) := by omega
                have hl1 : (1 : Int) < (ln : Int) := by omega
                have hl2 : (2 : Int) < (ln : Int) := by omega
                clear hln hbd hne
                go_cut [19, 20, 21] (fun s t u wx => s = .int .u8 (yP vr vg vb) ∧ t = .int .u8 (cbP vr vg vb) ∧ u = .int .u8 (crP vr vg vb) ∧ ∃ m, wx = w2.drewN m)
                case first =>
                  go_quiet ((go_at_call 63; exact Calls.quiet_of_same (rgb_q _ _ _ _ r0 r1 g0 g1 b0 b1)))
                  go_wp2
                  go_meet
                  exact ⟨rfl, rfl, rfl, _, rfl⟩
                case rest =>
                  obtain ⟨rfl, rfl, rfl, m1, rfl⟩ := hcut
                  have HQ2 := hu ((HQ.out ()).drewN m1)
                  have f1 := fun j => (HQ2.out ()).yb.frozen j
                  have f2 := fun j => (HQ2.out ()).cb.frozen j
                  have f3 := fun j => (HQ2.out ()).cr.frozen j
                  have s1 := int_cells (HQ2.out ()).yb (8 * k + i) (by rw [length_fillAt _ _ _ _ (by rw [HM.out ()]; omega), HM.out ()]; omega)
                  have s2 := int_cells (HQ2.out ()).cb (o + (8 * k + i)) (by rw [length_fillAt _ _ _ _ (by rw [HN.out ()]; omega), HN.out ()]; omega)
                  have s3 := int_cells (HQ2.out ()).cr (o + (8 * k + i)) (by rw [length_fillAt _ _ _ _ (by rw [HR'.out ()]; omega), HR'.out ()]; omega)
                  obtain ⟨w3, hw3⟩ : ∃ x : World, w2.drewN m1 = x := ⟨_, rfl⟩
                  have HQ3 := HQ2.out ()
                  rw [hw3] at HQ3 f1 f2 f3 s1 s2 s3 ⊢
                  have HQ4 := hu HQ3
                  have by0 := yP_byte vr vg vb r0 r1 g0 g1 b0 b1
                  have by1 := by0.1
                  have by2 := by0.2
                  obtain ⟨bc1, bc2⟩ : 0 ≤ cbP vr vg vb ∧ cbP vr vg vb ≤ 255 := chroma_byte _
                  obtain ⟨bd1, bd2⟩ : 0 ≤ crP vr vg vb ∧ crP vr vg vb ≤ 255 := chroma_byte _
                  obtain ⟨zy, hzy⟩ : ∃ z, yP vr vg vb = z := ⟨_, rfl⟩
                  obtain ⟨zb, hzb⟩ : ∃ z, cbP vr vg vb = z := ⟨_, rfl⟩
                  obtain ⟨zr, hzr⟩ : ∃ z, crP vr vg vb = z := ⟨_, rfl⟩
                  rw [hzy] at by1 by2 ⊢
                  rw [hzb] at bc1 bc2 ⊢
                  rw [hzr] at bd1 bd2 ⊢
                  have HZY := hu hzy
                  have HZB := hu hzb
                  have HZR := hu hzr
                  clear HQ3 hw3 by0 hzy hzb hzr e0 c0 q0 q1 q2 r0 r1 g0 g1 b0 b1 hl0 hl1 hl2 hln4 hln6
                  have n1' := Ne.symm n1
                  have n2' := Ne.symm n2
                  have n3' := Ne.symm n3
                  go_wp2
                  go_roundw
                  case rel =>
                    refine ⟨i + 1, by omega, by go_num, ?_⟩
                    refine (HQ4.out ()).step (HM.out ()) (HN.out ()) (HR'.out ()) ho (by omega) n1 n2 n3 lB lC lR _ _ _ ?_ ?_ ?_
                    · rw [← HZY.out ()]; unfold yAt; rw [HOFF.out (), HVR.out (), HVG.out (), HVB.out ()]
                    · rw [← HZB.out ()]; unfold cbAt; rw [HOFF.out (), HVR.out (), HVG.out (), HVB.out ()]
                    · rw [← HZR.out ()]; unfold crAt; rw [HOFF.out (), HVR.out (), HVG.out (), HVB.out ()]
                  case measure => simp [intOf]; omega
            · obtain rfl : i = 8 := by omega
              have HQ5 := hu (show PixSt w B CB CR o wide high x y pix M N R (8 * (k + 1)) wr from HQ.out ())
              clear e0
              go_wp2
              go_roundw
              case rel =>
                have hrel2 : RowRelP w B CB CR o wide high x y pix M N R (.int .i64 ((k : Int) + 1)) wr := ⟨k + 1, by omega, by go_num, HQ5.out ()⟩
                first | exact hrel2 | ((repeat apply Exists.intro); exact ⟨hrel2, rfl⟩)
              case measure => simp [intOf]; omega
    · obtain rfl : k = 8 := by omega
      have hd8 : decide ((8 : Int) < 8) = false := by decide
      clear d0 d01 d1 i1
      go_wp2
      go_end0
      exact ⟨rfl, (HP.out ()).yb, (HP.out ()).cb, (HP.out ()).cr, (HP.out ()).fr⟩

end Go.Proofs.YtpophkigihfjoaaDoor
