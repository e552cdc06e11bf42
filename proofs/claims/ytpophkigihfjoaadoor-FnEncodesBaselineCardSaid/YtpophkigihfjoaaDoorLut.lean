/- The walk of huffmanLUT.init, and the tables that it makes. -/
import Derived.Test.YtpophkigihfjoaaDoorSpec
namespace Go.Proofs.YtpophkigihfjoaaDoor
open Go.RowKit
set_option maxRecDepth 100000

/-- The greatest of the first k values. -/
def maxAt (val : List Int) : Nat → Int
  | 0 => 0
  | k + 1 => if maxAt val k < val.getD k 0 then val.getD k 0 else maxAt val k

/-- How many values stand ahead of those of length i + 1; the first code of that length. -/
def kAt (cnt : List Int) : Nat → Nat
  | 0 => 0
  | i + 1 => kAt cnt i + (cnt.getD i 0).toNat
def cAt (cnt : List Int) : Nat → Nat
  | 0 => 0
  | i + 1 => (cAt cnt i + (cnt.getD i 0).toNat) * 2

def lutIn (val : List Int) (i c k : Nat) (l : List Nat) : Nat → List Nat
  | 0 => l
  | j + 1 => (lutIn val i c k l j).set (val.getD (k + j) 0).toNat (((i + 1) * 16777216) ||| (c + j))

def lutOut (cnt val : List Int) (m : Nat) : Nat → List Nat
  | 0 => List.replicate (m + 1) 0
  | i + 1 => lutIn val i (cAt cnt i) (kAt cnt i) (lutOut cnt val m i) (cnt.getD i 0).toNat

theorem length_lutIn (val : List Int) (i c k : Nat) (l : List Nat) (j : Nat) : (lutIn val i c k l j).length = l.length := by
  induction j with
  | zero => rfl
  | succ j ih => simp [lutIn, ih]

theorem length_lutOut (cnt val : List Int) (m i : Nat) : (lutOut cnt val m i).length = m + 1 := by
  induction i with
  | zero => simp [lutOut]
  | succ i ih => simp [lutOut, length_lutIn, ih]

structure LOk (cnt val : List Int) (m : Nat) : Prop where
  cl : cnt.length = 16
  cb : ∀ i, i < 16 → 0 ≤ cnt.getD i 0 ∧ cnt.getD i 0 ≤ 255
  vb : ∀ i, i < val.length → 0 ≤ val.getD i 0 ∧ val.getD i 0 ≤ 255 ∧ val.getD i 0 ≤ m
  mx : maxAt val val.length = m
  mb : m ≤ 255
  kb : ∀ i, i < 16 → kAt cnt i + (cnt.getD i 0).toNat ≤ val.length
  cc : ∀ i, i < 16 → cAt cnt i + (cnt.getD i 0).toNat ≤ 65536
  vl : val.length ≤ 255

theorem ok0 : LOk cnt0 val0 11 := ⟨by decide, by decide +kernel, by decide +kernel, by decide +kernel, by decide, by decide +kernel, by decide +kernel, by decide +kernel⟩
theorem ok1 : LOk cnt1 val1 250 := ⟨by decide, by decide +kernel, by decide +kernel, by decide +kernel, by decide, by decide +kernel, by decide +kernel, by decide +kernel⟩
theorem ok2 : LOk cnt2 val2 11 := ⟨by decide, by decide +kernel, by decide +kernel, by decide +kernel, by decide, by decide +kernel, by decide +kernel, by decide +kernel⟩
theorem ok3 : LOk cnt3 val3 250 := ⟨by decide, by decide +kernel, by decide +kernel, by decide +kernel, by decide, by decide +kernel, by decide +kernel, by decide +kernel⟩

theorem spec_at {w : World} {B VB n : Nat} {cnt : List Int} {t : TypeId} (h : Blk w B (specC cnt VB n) t) (hc : cnt.length = 16) :
    w.cell? ⟨B, 16, none⟩ = some (.slice (some ⟨VB, 0, none⟩) n n) ∧ ∀ i, i < 16 → w.cell? ⟨B, i, none⟩ = some (B8 (cnt.getD i 0)) := by
  refine ⟨?_, fun i hi => ?_⟩
  · refine h.cellv 16 ?_
    unfold specC
    rw [List.getElem?_append_right (by simp [hc])]
    simp [hc]
  · refine h.cellv i ?_
    unfold specC
    rw [List.getElem?_append_left (by simp [hc, hi]), List.getElem?_map, List.getD_eq_getElem?_getD, List.getElem?_eq_getElem (by omega)]
    rfl

theorem maxAt_mono (val : List Int) (k n : Nat) (h : k ≤ n) : maxAt val k ≤ maxAt val n := by
  induction n with
  | zero => rw [show k = 0 by omega]; exact Int.le_refl _
  | succ n ih =>
    rcases Nat.lt_or_ge n k with h' | h'
    · rw [show k = n + 1 by omega]; exact Int.le_refl _
    · refine Int.le_trans (ih h') ?_
      rw [maxAt]
      split <;> omega

theorem maxAt_pos (val : List Int) (k : Nat) : 0 ≤ maxAt val k := maxAt_mono val 0 k (Nat.zero_le _)

theorem made_cells {P : Program} {t e : TypeId} {z : Value} {b : Nat} (w : World) (n : Int) (m : Nat) (hn : n = m) (ht : P.underlying t = some (.slice e)) (hz : (P.info? e).bind (·.zero) = some z) (hs : (P.info? e).map (·.size) = some 1)
    (hb : (P.info? e).map (·.bytes) = some b) (h1 : z.cells = #[z]) (hm : b * m ≤ 281474976710656) (hm2 : m ≤ 281474976710656) :
    (Instr.makeSlice t (.int .i64 n) (.int .i64 n)).run P w = .ok (.slice (some ⟨w.heap.size, 0, none⟩) m m) (w.alloc (.cells (Array.replicate m z) e)) := by
  subst hn
  cases hi : P.info? e with
  | none => simp [hi] at hs
  | some i =>
    simp only [hi, Option.map_some, Option.some.injEq, Option.bind_some] at hz hs hb
    subst hb
    have := run_make (P := P) w t e i z ht hi hz .i64 .i64 (m : Int) (m : Int) (by omega) (Int.le_refl _) (by rw [← Int.natCast_mul]; omega) (by omega)
    rw [Int.toNat_natCast, hs, Nat.mul_one, h1] at this
    rw [this, show madeCells #[z] m = Array.replicate m z by rw [← Array.toList_inj, toList_madeCells_one, Array.toList_replicate]]

theorem mk91 (w : World) (m : Nat) (hm : m ≤ 255) : (Instr.makeSlice 94 (.int .i64 ((m : Int) + 1)) (.int .i64 ((m : Int) + 1))).run Tryd.prog w = .ok (.slice (some ⟨w.heap.size, 0, none⟩) (m + 1) (m + 1)) (w.alloc (.cells (Array.replicate (m + 1) (W32 0)) 91)) := by
  exact made_cells (z := .int .u32 0) (b := 4) w _ (m + 1) (by omega) (by kernel_rfl) (by kernel_rfl) (by kernel_rfl) (by kernel_rfl) rfl (by omega) (by omega)

/-- The state of the first loop, and of the others: the blocks that matter. -/
structure LutA (w : World) (B VB LB : Nat) (cs : List Value) (t : TypeId) (cnt val : List Int) (wr : World) : Prop where
  bx : Blk wr B (specC cnt VB val.length) 122
  vb : Blk wr VB (val.map B8) 5
  lb : Blk wr LB cs t
  fr : Fr (· = LB) w wr

def LutV (w : World) (B VB LB : Nat) (cs : List Value) (t : TypeId) (cnt val : List Int) (x i : Value) (wr : World) : Prop :=
  ∃ k : Nat, k ≤ val.length ∧ i = .int .i64 k ∧ x = .int .i64 (maxAt val k) ∧ LutA w B VB LB cs t cnt val wr

structure LutB (w : World) (B VB LB b o : Nat) (cs : List Value) (t : TypeId) (cnt val : List Int) (m : Nat) (l : List Nat) (wr : World) : Prop where
  bx : Blk wr B (specC cnt VB val.length) 122
  vb : Blk wr VB (val.map B8) 5
  lb : Blk wr LB (cs.set o (.slice (some ⟨b, 0, none⟩) (m + 1) (m + 1))) t
  tb : Blk wr b (l.map W32) 91
  fr : Fr (· = LB) w wr

def LutI (w : World) (B VB LB b o : Nat) (cs : List Value) (t : TypeId) (cnt val : List Int) (m : Nat) (c k i : Value) (wr : World) : Prop :=
  ∃ n : Nat, n ≤ 16 ∧ i = .int .i64 n ∧ c = .int .u32 (cAt cnt n) ∧ k = .int .i64 (kAt cnt n) ∧ LutB w B VB LB b o cs t cnt val m (lutOut cnt val m n) wr

def LutJ (w : World) (B VB LB b o : Nat) (cs : List Value) (t : TypeId) (cnt val : List Int) (m n : Nat) (c k j : Value) (wr : World) : Prop :=
  ∃ a : Nat, (a : Int) ≤ cnt.getD n 0 ∧ j = .int .u8 a ∧ c = .int .u32 ((cAt cnt n + a : Nat)) ∧ k = .int .i64 ((kAt cnt n + a : Nat)) ∧ LutB w B VB LB b o cs t cnt val m (lutIn val n (cAt cnt n) (kAt cnt n) (lutOut cnt val m n) a) wr

set_option maxHeartbeats 1000000 in
theorem lut_init {w : World} {VB LB o n m : Nat} {cs : List Value} {t : TypeId} {cnt val : List Int} (hk : LOk cnt val m) (hn : n = val.length) (hv : Blk w VB (val.map B8) 5) (hl : Blk w LB cs t) (ho : o < cs.length) (hne : VB ≠ LB) :
    Calls Tryd.prog 40 #[.pointer (some ⟨LB, o, none⟩), .agg (specC cnt VB n).toArray] w fun e w' => e = .returned (.tuple #[]) ∧
      ∃ b, w.heap.size ≤ b ∧ Blk w' b ((lutOut cnt val m 16).map W32) 91 ∧ Blk w' LB (cs.set o (.slice (some ⟨b, 0, none⟩) (m + 1) (m + 1))) t ∧ Fr (· = LB) w w' := by
  subst hn
  have HK := hu hk
  have HV := hu hv
  have HL := hu hl
  have HO := hu ho
  have vlt := hv.lt
  have llt := hl.lt
  clear hk hv hl ho
  go_enter Tryd.func40, Tryd.ntmps40
  go_upto_region 2 with (fail)
  have h0 : LutA w w.heap.size VB LB cs t cnt val (w.alloc (.cells (specC cnt VB val.length).toArray 122)) := ⟨Blk.new _ _ _, (HV.out ()).alloc _, (HL.out ()).alloc _, (Fr.refl _ w).alloc _⟩
  obtain ⟨B, hB⟩ : ∃ B, w.heap.size = B := ⟨_, rfl⟩
  obtain ⟨wb, hwb⟩ : ∃ z, w.alloc (.cells (specC cnt VB val.length).toArray 122) = z := ⟨_, rfl⟩
  rw [hwb, hB] at h0
  simp only [hwb, hB]
  have H0 := hu h0
  clear h0 hwb
  obtain ⟨s16, si⟩ := spec_at (H0.out ()).bx (HK.out ()).cl
  have H1 := hu si
  clear si
  go_wp2
  go_loopw [4, 6, 15, 16, 17, 18, 19, 20, 21, 22, 23, 24] (fun x _ i _ _ _ _ _ _ _ _ _ wr => LutV w B VB LB cs t cnt val x i wr) (fun _ _ i _ _ _ _ _ _ _ _ _ _ => val.length - (intOf i).toNat)
  case atStart => exact ⟨0, by omega, rfl, rfl, H0.out ()⟩
  case round =>
    obtain ⟨k, hk, rfl, rfl, hR⟩ := hrel
    have HR := hu hR
    clear hR
    have x0 := maxAt_pos val k
    have x1 : maxAt val k ≤ 255 := by
      have := maxAt_mono val k val.length hk
      have := (HK.out ()).mx
      have := (HK.out ()).mb
      omega
    have vl := (HK.out ()).vl
    by_cases hlt : k < val.length
    · have hc : wr.cell? ⟨VB, k, none⟩ = some (B8 (val.getD k 0)) := by
        refine (HR.out ()).vb.cellv k ?_
        rw [List.getElem?_map, List.getD_eq_getElem?_getD, List.getElem?_eq_getElem hlt]
        rfl
      obtain ⟨y0, y1, _⟩ := (HK.out ()).vb k hlt
      have hstep : maxAt val (k + 1) = if maxAt val k < val.getD k 0 then val.getD k 0 else maxAt val k := rfl
      obtain ⟨y, hy⟩ : ∃ y, val.getD k 0 = y := ⟨_, rfl⟩
      obtain ⟨x, hx⟩ : ∃ x, maxAt val k = x := ⟨_, rfl⟩
      rw [hy] at y0 y1 hc hstep
      rw [hx] at x0 x1 hstep ⊢
      have HS := hu hstep
      clear hstep hx hy
      have dk : decide ((k : Int) < val.length) = true := by simp; omega
      by_cases hgt : x < y
      · have dg : decide (x < y) = true := by simp [hgt]
        go_wp2
        go_roundw
        case rel =>
          have hrel2 : LutV w B VB LB cs t cnt val (.int .i64 y) (.int .i64 ((k : Int) + 1)) wr := ⟨k + 1, by omega, by go_num, by rw [HS.out (), if_pos hgt], HR.out ()⟩
          first | exact hrel2 | ((repeat apply Exists.intro); exact ⟨hrel2, rfl⟩)
        case measure => simp [intOf]; omega
      · have dg : decide (x < y) = false := by simp; omega
        go_wp2
        go_roundw
        case rel =>
          have hrel2 : LutV w B VB LB cs t cnt val (.int .i64 x) (.int .i64 ((k : Int) + 1)) wr := ⟨k + 1, by omega, by go_num, by rw [HS.out (), if_neg hgt], HR.out ()⟩
          first | exact hrel2 | ((repeat apply Exists.intro); exact ⟨hrel2, rfl⟩)
        case measure => simp [intOf]; omega
    · obtain rfl : k = val.length := by omega
      have hmk := mk91 wr m (HK.out ()).mb
      have dk : decide ((val.length : Int) < val.length) = false := by simp
      rw [(HK.out ()).mx] at x0 x1 ⊢
      have HL2 := (HR.out ()).lb.alloc (.cells (Array.replicate (m + 1) (W32 0)) 91)
      have cl := HL2.cell o
      rw [List.getElem?_eq_getElem (HO.out ())] at cl
      have fl := HL2.frozen o
      have hb : Blk ((wr.alloc (.cells (Array.replicate (m + 1) (W32 0)) 91)).setCell ⟨LB, o, none⟩ (.slice (some ⟨wr.heap.size, 0, none⟩) (m + 1) (m + 1))) wr.heap.size ((List.replicate (m + 1) 0).map W32) 91 := by
        have h1 := Blk.newA wr (Array.replicate (m + 1) (W32 0)) 91
        rw [Array.toList_replicate, ← List.map_replicate] at h1
        exact h1.setOther (a := ⟨LB, o, none⟩) (fun e => by have := (HR.out ()).fr.size; simp at e; omega) _
      have hstart : LutB w B VB LB wr.heap.size o cs t cnt val m (lutOut cnt val m 0) ((wr.alloc (.cells (Array.replicate (m + 1) (W32 0)) 91)).setCell ⟨LB, o, none⟩ (.slice (some ⟨wr.heap.size, 0, none⟩) (m + 1) (m + 1))) :=
        ⟨((HR.out ()).bx.alloc _).setOther (a := ⟨LB, o, none⟩) (fun e => by simp at e; omega) _, ((HR.out ()).vb.alloc _).setOther (a := ⟨LB, o, none⟩) hne _, HL2.set _ _, hb, ((HR.out ()).fr.alloc _).setCell (a := ⟨LB, o, none⟩) (fun _ => rfl) _⟩
      have hbig := (HR.out ()).fr.size
      have hBb := (HR.out ()).bx.lt
      have HST := hu hstart
      clear HL2 hb hstart
      go_upto_region 8 with (fail)
      go_wp2
      obtain ⟨b, hbe⟩ : ∃ b, wr.heap.size = b := ⟨_, rfl⟩
      obtain ⟨w2, hw2⟩ : ∃ z, (wr.alloc (.cells (Array.replicate (m + 1) (W32 0)) 91)).setCell ⟨LB, o, none⟩ (.slice (some ⟨wr.heap.size, 0, none⟩) (m + 1) (m + 1)) = z := ⟨_, rfl⟩
      have hst2 := HST.out ()
      rw [hw2, hbe] at hst2
      rw [hbe] at hbig hBb
      have HST2 := hu hst2
      rw [hbe] at hw2
      simp only [hbe, hw2]
      clear HST hst2 hw2 cl fl hmk hbe
      go_loopw [7, 8, 9, 10, 11, 31, 32, 33, 34, 35, 36, 37, 38, 39, 40, 41, 42, 43, 44, 45, 46, 47, 48, 49, 50, 51, 52, 53, 54, 55, 56, 57, 58, 59, 60, 61, 62, 63, 64] (fun c k i _ _ _ _ _ _ _ _ _ _ _ _ _ _ _ _ _ _ _ _ _ _ _ _ _ _ _ _ _ _ _ _ _ _ _ _ wr => LutI w B VB LB b o cs t cnt val m c k i wr) (fun _ _ i _ _ _ _ _ _ _ _ _ _ _ _ _ _ _ _ _ _ _ _ _ _ _ _ _ _ _ _ _ _ _ _ _ _ _ _ _ => 16 - (intOf i).toNat)
      case atStart => exact ⟨0, by omega, rfl, rfl, rfl, HST2.out ()⟩
      case round =>
        obtain ⟨n, hn, rfl, rfl, rfl, hR2⟩ := hrel
        have HR2 := hu hR2
        clear hR2
        by_cases hlt2 : n < 16
        · have dn : decide ((n : Int) < 16) = true := by simp; omega
          have HY := hu ((spec_at (HR2.out ()).bx (HK.out ()).cl).2 n hlt2)
          obtain ⟨Y0, Y1⟩ := (HK.out ()).cb n hlt2
          have KB := hu ((HK.out ()).kb n hlt2)
          have CC := hu ((HK.out ()).cc n hlt2)
          have hY0 : ∃ Y : Nat, cnt.getD n 0 = Y := ⟨(cnt.getD n 0).toNat, by omega⟩
          obtain ⟨Y, hY⟩ := hY0
          have HYe := hu hY
          have Y2 : Y ≤ 255 := by omega
          clear Y0 Y1 hY
          go_wp2
          go_loopw [7, 8, 11, 39, 40, 41, 42, 43, 44, 45, 46, 47, 48, 49, 50, 51, 52, 53, 54, 55, 56, 57, 58, 59, 60, 61, 62] (fun c k j _ _ _ _ _ _ _ _ _ _ _ _ _ _ _ _ _ _ _ _ _ _ _ _ wr => LutJ w B VB LB b o cs t cnt val m n c k j wr) (fun _ _ j _ _ _ _ _ _ _ _ _ _ _ _ _ _ _ _ _ _ _ _ _ _ _ _ _ => Y - (intOf j).toNat)
          case atStart => exact ⟨0, by rw [HYe.out ()]; omega, rfl, rfl, rfl, HR2.out ()⟩
          case round =>
            obtain ⟨a, ha, rfl, rfl, rfl, hR3⟩ := hrel
            rw [HYe.out ()] at ha
            have HR3 := hu hR3
            clear hR3
            have hs := spec_at (HR3.out ()).bx (HK.out ()).cl
            have g16 := hs.1
            have gY := hs.2 n hlt2
            rw [HYe.out ()] at gY
            clear hs
            have CL := hu (show cAt cnt n + a ≤ 65536 by have := CC.out (); rw [HYe.out ()] at this; simp at this; omega)
            by_cases hlt3 : a < Y
            · have da : decide ((a : Int) < (Y : Int)) = true := by simp; omega
              have klt : kAt cnt n + a < val.length := by have := KB.out (); rw [HYe.out ()] at this; simp at this; omega
              have clt : cAt cnt n + a < 65536 := by have := CC.out (); rw [HYe.out ()] at this; simp at this; omega
              obtain ⟨y0, y1, y2⟩ := (HK.out ()).vb _ klt
              have gv : wr.cell? ⟨VB, kAt cnt n + a, none⟩ = some (B8 (val.getD (kAt cnt n + a) 0)) := by
                refine (HR3.out ()).vb.cellv _ ?_
                rw [List.getElem?_map, List.getD_eq_getElem?_getD, List.getElem?_eq_getElem klt]
                rfl
              have hnext : lutIn val n (cAt cnt n) (kAt cnt n) (lutOut cnt val m n) (a + 1) = (lutIn val n (cAt cnt n) (kAt cnt n) (lutOut cnt val m n) a).set (val.getD (kAt cnt n + a) 0).toNat (((n + 1) * 16777216) ||| (cAt cnt n + a)) := rfl
              obtain ⟨y, hy⟩ : ∃ y : Nat, val.getD (kAt cnt n + a) 0 = y := ⟨(val.getD (kAt cnt n + a) 0).toNat, by omega⟩
              rw [hy] at y0 y1 y2 gv hnext
              rw [Int.toNat_natCast] at hnext
              have HN := hu hnext
              have hml : (lutIn val n (cAt cnt n) (kAt cnt n) (lutOut cnt val m n) a).length = m + 1 := by rw [length_lutIn, length_lutOut]
              have gt : wr.cell? ⟨b, y, none⟩ = some (W32 ((lutIn val n (cAt cnt n) (kAt cnt n) (lutOut cnt val m n) a).getD y 0)) := by
                refine (HR3.out ()).tb.cellv _ ?_
                rw [List.getElem?_map, List.getD_eq_getElem?_getD, List.getElem?_eq_getElem (by omega)]
                rfl
              have ft := (HR3.out ()).tb.frozen y
              have gl : wr.cell? ⟨LB, o, none⟩ = some (.slice (some ⟨b, 0, none⟩) (m + 1) (m + 1)) := by
                refine (HR3.out ()).lb.cellv _ ?_
                rw [List.getElem?_set_self (HO.out ())]
              have y3 : y < m + 1 := by omega
              obtain ⟨kk, hkk⟩ : ∃ z, kAt cnt n + a = z := ⟨_, rfl⟩
              obtain ⟨cc, hcc⟩ : ∃ z, cAt cnt n + a = z := ⟨_, rfl⟩
              rw [hkk] at klt gv
              rw [hcc] at clt HN
              have hor : bits BinOp.or IntKind.u32 (((n : Int) + 1) * 16777216) (cc : Int) = (((n + 1) * 16777216 ||| cc : Nat) : Int) := by
                have := bits_or_u32 ((n + 1) * 16777216) cc (by omega) (by omega)
                rwa [Int.natCast_mul, Int.natCast_add] at this
              simp only [hkk, hcc]
              have HKK := hu hkk
              have HCC := hu hcc
              clear hkk hcc hml hnext hy y1 y2
              have dk : decide ((kk : Int) < (val.length : Int)) = true := by simp; omega
              go_upto_region 17 with (fail)
              go_region
              go_wp2
              refine ⟨⟨a + 1, by rw [HYe.out ()]; omega, by go_num, by rw [← HCC.out ()]; go_num, by rw [← HKK.out ()]; go_num, ?_⟩, by simp [intOf]; omega⟩
              have hR := HR3.out ()
              refine ⟨(hR.bx.setOther (a := ⟨b, y, none⟩) (fun e => by simp at e; omega) _).drew, (hR.vb.setOther (a := ⟨b, y, none⟩) (fun e => by simp at e; omega) _).drew, (hR.lb.setOther (a := ⟨b, y, none⟩) (fun e => by simp at e; omega) _).drew, ?_, (hR.fr.setCell (a := ⟨b, y, none⟩) (fun e => by simp at e; omega) _).drew⟩
              have h1 := hR.tb.set y (.int .u32 ((((n + 1) * 16777216 ||| cc : Nat)) : Int))
              rw [HN.out (), List.map_set]
              exact h1.drew
            · obtain rfl : a = Y := by omega
              have da : decide ((a : Int) < (a : Int)) = false := by simp
              have hnx : cAt cnt (n + 1) = (cAt cnt n + a) * 2 := by rw [cAt, HYe.out (), Int.toNat_natCast]
              have hkx : kAt cnt (n + 1) = kAt cnt n + a := by rw [kAt, HYe.out (), Int.toNat_natCast]
              have hlx : lutOut cnt val m (n + 1) = lutIn val n (cAt cnt n) (kAt cnt n) (lutOut cnt val m n) a := by rw [lutOut, HYe.out (), Int.toNat_natCast]
              have clt := CL.out ()
              have hst3 : LutB w B VB LB b o cs t cnt val m (lutOut cnt val m (n + 1)) wr := by rw [hlx]; exact HR3.out ()
              have HST3 := hu hst3
              have HCX := hu hnx
              have HKX := hu hkx
              obtain ⟨kk, hkk⟩ : ∃ z, kAt cnt n + a = z := ⟨_, rfl⟩
              obtain ⟨cc, hcc⟩ : ∃ z, cAt cnt n + a = z := ⟨_, rfl⟩
              have HKK := hu hkk
              have HCC := hu hcc
              rw [hcc] at clt
              simp only [hkk, hcc]
              clear hnx hkx hlx hst3 hkk hcc
              go_wp2
              exact ⟨⟨n + 1, by omega, by go_num, by rw [HCX.out (), HCC.out ()]; go_num, by rw [HKX.out (), HKK.out ()], HST3.out ()⟩, by simp [intOf]; omega⟩
        · obtain rfl : n = 16 := by omega
          go_wp2
          go_end0
          exact ⟨rfl, b, hbig, (HR2.out ()).tb, (HR2.out ()).lb, (HR2.out ()).fr⟩
end Go.Proofs.YtpophkigihfjoaaDoor
