/- The walks of up, Most, Units, Size, codes, turned. -/
import Derived.Test.YtpophkigihfjoaaDoorTwoA
import Derived.Test.YtpophkigihfjoaaDoorTwoB
import Derived.Maps.Own
import Derived.Maps.RangeWalk
import Derived.Test.YtpophkigihfjoaaDoorDht
/- The walks of up, Most, Units and Size on the frame that is read. -/
namespace Go.Proofs.YtpophkigihfjoaaDoor
open Go.RowKit
set_option maxRecDepth 100000

/-- The frame of three components in memory: in block TB from its first cell on; its components in block CB (five cells each; the fifth: the blocks' slice). -/
structure FrmW (w : World) (TB CB W H : Nat) (v0 v1 v2 : Value) : Prop where
  c0 : w.cell? ⟨TB, 0, none⟩ = some (.int .i64 W)
  c1 : w.cell? ⟨TB, 1, none⟩ = some (.int .i64 H)
  c2 : ∃ cap, w.cell? ⟨TB, 2, none⟩ = some (.slice (some ⟨CB, 0, none⟩) 3 cap)
  lt : TB < w.heap.size
  comps : ∃ more : List Value, Blk w CB ([.int .i64 1, .int .i64 2, .int .i64 2, .int .i64 0, v0, .int .i64 2, .int .i64 1, .int .i64 1, .int .i64 1, v1, .int .i64 3, .int .i64 1, .int .i64 1, .int .i64 1, v2] ++ more) 38

theorem up_any (a b : Nat) (w : World) (ha : a ≤ 1000) (hb : b ≤ 1000) (hb0 : 1 ≤ b) : Calls Tryd.prog 35 #[.int .i64 a, .int .i64 b] w fun e w' => e = .returned (.int .i64 (((a + b - 1) / b : Nat) : Int)) ∧ w' = w := by
  have hv : ((a : Int) + (b : Int) - 1) / (b : Int) = (((a + b - 1) / b : Nat) : Int) := by
    have : (a : Int) + (b : Int) - 1 = ((a + b - 1 : Nat) : Int) := by omega
    rw [this]; push_cast; rfl
  have HV := hu hv
  have hne : ((b : Int) == 0) = false := by simp; omega
  clear hv
  go_enter Tryd.func35, Tryd.ntmps35
  go_wp2
  go_ret
  rw [HV.out ()]
  exact ⟨rfl, rfl⟩

theorem FrmW.frame {w w' : World} {S : Nat → Prop} {TB CB W H : Nat} {v0 v1 v2 : Value} (h : FrmW w TB CB W H v0 v1 v2) (hf : Fr S w w') (h1 : ¬ S TB) (h2 : ¬ S CB) : FrmW w' TB CB W H v0 v1 v2 := by
  obtain ⟨cap, c2⟩ := h.c2
  obtain ⟨more, hc⟩ := h.comps
  have e : ∀ i, w'.cell? ⟨TB, i, none⟩ = w.cell? ⟨TB, i, none⟩ := fun i => World.cell?_of_block (a := ⟨TB, i, none⟩) (hf.block TB h.lt h1)
  exact ⟨(e 0).trans h.c0, (e 1).trans h.c1, ⟨cap, (e 2).trans c2⟩, Nat.lt_of_lt_of_le h.lt hf.size, ⟨more, hf.blk hc h2⟩⟩

set_option maxHeartbeats 1000000 in
theorem most_any {w : World} {TB CB W H : Nat} {v0 v1 v2 : Value} (h : FrmW w TB CB W H v0 v1 v2) (hs0 : ∃ a l c, v0 = .slice a l c) (hs1 : ∃ a l c, v1 = .slice a l c) (hs2 : ∃ a l c, v2 = .slice a l c) :
    Calls Tryd.prog 34 #[.pointer (some ⟨TB, 0, none⟩)] w fun e w' => e = .returned (.tuple #[.int .i64 2, .int .i64 2]) ∧ Fr (fun _ => False) w w' := by
  obtain ⟨cap, c2⟩ := h.c2
  obtain ⟨more, hc⟩ := h.comps
  obtain ⟨a0, l0, k0, rfl⟩ := hs0
  obtain ⟨a1, l1, k1, rfl⟩ := hs1
  obtain ⟨a2, l2, k2, rfl⟩ := hs2
  have d0 := hc.cellv 0 rfl
  have d1 := hc.cellv 1 rfl
  have d2 := hc.cellv 2 rfl
  have d3 := hc.cellv 3 rfl
  have d4 := hc.cellv 4 rfl
  have d5 := hc.cellv 5 rfl
  have d6 := hc.cellv 6 rfl
  have d7 := hc.cellv 7 rfl
  have d8 := hc.cellv 8 rfl
  have d9 := hc.cellv 9 rfl
  have d10 := hc.cellv 10 rfl
  have d11 := hc.cellv 11 rfl
  have d12 := hc.cellv 12 rfl
  have d13 := hc.cellv 13 rfl
  have d14 := hc.cellv 14 rfl
  have lC := hc.lt
  clear h hc
  go_enter Tryd.func34, Tryd.ntmps34
  go_wp2
  refine wp_loop_rounds 4 ?_
  iterate 3 (rw [rounds_succ]; go_wp2; go_quiet (fail); go_wp2)
  rw [rounds_succ]
  go_wp2
  go_ret2
  exact ⟨rfl, by repeat (first | exact Fr.refl _ _ | apply Fr.alloc | apply Fr.drewN | apply Fr.drew)⟩

/-- The three slices of blocks are slices. -/
structure Sl3 (v0 v1 v2 : Value) : Prop where
  s0 : ∃ a l c, v0 = .slice a l c
  s1 : ∃ a l c, v1 = .slice a l c
  s2 : ∃ a l c, v2 = .slice a l c

theorem up16 (a : Nat) (w : World) (ha : a ≤ 1000) : Calls Tryd.prog 35 #[.int .i64 a, .int .i64 16] w fun e w' => e = .returned (.int .i64 (((a + 15) / 16 : Nat) : Int)) ∧ w' = w := up_any a 16 w ha (by omega) (by omega)

set_option maxHeartbeats 1000000 in
theorem units_any {w : World} {TB CB W H : Nat} {v0 v1 v2 : Value} (h : FrmW w TB CB W H v0 v1 v2) (hs : Sl3 v0 v1 v2) (hW : W ≤ 40) (hH : H ≤ 40) :
    Calls Tryd.prog 14 #[.pointer (some ⟨TB, 0, none⟩)] w fun e w' => e = .returned (.tuple #[.int .i64 (((W + 15) / 16 : Nat) : Int), .int .i64 (((H + 15) / 16 : Nat) : Int)]) ∧ Fr (fun _ => False) w w' := by
  have HH := hu h
  have HS := hu hs
  clear h hs
  go_enter Tryd.func14, Tryd.ntmps14
  go_wp2_with fail
  refine (most_any (HH.out ()) (HS.out ()).s0 (HS.out ()).s1 (HS.out ()).s2).mono ?_
  rintro e w1 ⟨rfl, f1⟩
  have h1 := (HH.out ()).frame f1 (fun e => e) (fun e => e)
  have c0 := h1.c0
  have c1 := h1.c1
  have F1 := hu f1
  clear h1 f1
  go_wp2
  go_quiet ((go_at_call 35; exact Calls.quiet_of_same (up16 _ _ (by omega))))
  go_wp2
  go_ret2
  exact ⟨rfl, (F1.out ()).drewN _⟩

set_option maxHeartbeats 1000000 in
theorem size_rd0 {w : World} {TB CB W H : Nat} {v0 v1 v2 : Value} (h : FrmW w TB CB W H v0 v1 v2) (hs : Sl3 v0 v1 v2) (hW : W ≤ 40) (hH : H ≤ 40) :
    Calls Tryd.prog 16 #[.pointer (some ⟨TB, 0, none⟩), .int .i64 0] w fun e w' => e = .returned (.tuple #[.int .i64 (((W + 15) / 16 * 2 : Nat) : Int), .int .i64 (((H + 15) / 16 * 2 : Nat) : Int)]) ∧ Fr (fun _ => False) w w' := by
  have HH := hu h
  have HS := hu hs
  obtain ⟨X, hX⟩ : ∃ X, (W + 15) / 16 = X := ⟨_, rfl⟩
  obtain ⟨Y, hY⟩ : ∃ Y, (H + 15) / 16 = Y := ⟨_, rfl⟩
  have hX3 : X ≤ 3 := by omega
  have hY3 : Y ≤ 3 := by omega
  rw [hX, hY]
  have HX := hu hX
  have HY := hu hY
  clear h hs hX hY
  go_enter Tryd.func16, Tryd.ntmps16
  go_wp2_with fail
  refine (units_any (HH.out ()) (HS.out ()) hW hH).mono ?_
  rintro e w1 ⟨rfl, f1⟩
  rw [HX.out (), HY.out ()]
  have h1 := (HH.out ()).frame f1 (fun e => e) (fun e => e)
  obtain ⟨cap, c2⟩ := h1.c2
  obtain ⟨more, hc⟩ := h1.comps
  have d1 := hc.cellv 1 rfl
  have d2 := hc.cellv 2 rfl
  have F1 := hu f1
  clear h1 f1 hc
  go_wp2
  go_quiet (fail)
  go_wp2
  go_ret2
  exact ⟨rfl, (F1.out ()).drewN _⟩

set_option maxHeartbeats 1000000 in
theorem size_rd1 {w : World} {TB CB W H : Nat} {v0 v1 v2 : Value} (h : FrmW w TB CB W H v0 v1 v2) (hs : Sl3 v0 v1 v2) (hW : W ≤ 40) (hH : H ≤ 40) :
    Calls Tryd.prog 16 #[.pointer (some ⟨TB, 0, none⟩), .int .i64 1] w fun e w' => e = .returned (.tuple #[.int .i64 (((W + 15) / 16 : Nat) : Int), .int .i64 (((H + 15) / 16 : Nat) : Int)]) ∧ Fr (fun _ => False) w w' := by
  have HH := hu h
  have HS := hu hs
  obtain ⟨X, hX⟩ : ∃ X, (W + 15) / 16 = X := ⟨_, rfl⟩
  obtain ⟨Y, hY⟩ : ∃ Y, (H + 15) / 16 = Y := ⟨_, rfl⟩
  have hX3 : X ≤ 3 := by omega
  have hY3 : Y ≤ 3 := by omega
  rw [hX, hY]
  have HX := hu hX
  have HY := hu hY
  clear h hs hX hY
  go_enter Tryd.func16, Tryd.ntmps16
  go_wp2_with fail
  refine (units_any (HH.out ()) (HS.out ()) hW hH).mono ?_
  rintro e w1 ⟨rfl, f1⟩
  rw [HX.out (), HY.out ()]
  have h1 := (HH.out ()).frame f1 (fun e => e) (fun e => e)
  obtain ⟨cap, c2⟩ := h1.c2
  obtain ⟨more, hc⟩ := h1.comps
  have d1 := hc.cellv 6 rfl
  have d2 := hc.cellv 7 rfl
  have F1 := hu f1
  clear h1 f1 hc
  go_wp2
  go_quiet (fail)
  go_wp2
  go_ret2
  exact ⟨rfl, (F1.out ()).drewN _⟩

set_option maxHeartbeats 1000000 in
theorem size_rd2 {w : World} {TB CB W H : Nat} {v0 v1 v2 : Value} (h : FrmW w TB CB W H v0 v1 v2) (hs : Sl3 v0 v1 v2) (hW : W ≤ 40) (hH : H ≤ 40) :
    Calls Tryd.prog 16 #[.pointer (some ⟨TB, 0, none⟩), .int .i64 2] w fun e w' => e = .returned (.tuple #[.int .i64 (((W + 15) / 16 : Nat) : Int), .int .i64 (((H + 15) / 16 : Nat) : Int)]) ∧ Fr (fun _ => False) w w' := by
  have HH := hu h
  have HS := hu hs
  obtain ⟨X, hX⟩ : ∃ X, (W + 15) / 16 = X := ⟨_, rfl⟩
  obtain ⟨Y, hY⟩ : ∃ Y, (H + 15) / 16 = Y := ⟨_, rfl⟩
  have hX3 : X ≤ 3 := by omega
  have hY3 : Y ≤ 3 := by omega
  rw [hX, hY]
  have HX := hu hX
  have HY := hu hY
  clear h hs hX hY
  go_enter Tryd.func16, Tryd.ntmps16
  go_wp2_with fail
  refine (units_any (HH.out ()) (HS.out ()) hW hH).mono ?_
  rintro e w1 ⟨rfl, f1⟩
  rw [HX.out (), HY.out ()]
  have h1 := (HH.out ()).frame f1 (fun e => e) (fun e => e)
  obtain ⟨cap, c2⟩ := h1.c2
  obtain ⟨more, hc⟩ := h1.comps
  have d1 := hc.cellv 11 rfl
  have d2 := hc.cellv 12 rfl
  have F1 := hu f1
  clear h1 f1 hc
  go_wp2
  go_quiet (fail)
  go_wp2
  go_ret2
  exact ⟨rfl, (F1.out ()).drewN _⟩
end Go.Proofs.YtpophkigihfjoaaDoor

/- The walk of the book's codes: a map from each symbol to its code and length. -/
namespace Go.Proofs.YtpophkigihfjoaaDoor
open Go.RowKit Go.Maps
set_option maxRecDepth 100000

/-- How a code with its length reads. -/
def pairR (v : Value) : Option (DataW Unit × List MemPlace) :=
  match v with
  | .agg ⟨[.int .i64 a, .int .i64 b]⟩ => some (.agg [.lit (.int .i64 a), .lit (.int .i64 b)], [])
  | _ => none

/-- The map of some entries. -/
def putAll (es : List (Nat × Nat × Nat)) : DataW Unit := es.foldl (fun D e => D.put (.int .i64 e.1) (.agg [.lit (.int .i64 e.2.1), .lit (.int .i64 e.2.2)])) (.map [])

theorem putAll_snoc (es : List (Nat × Nat × Nat)) (s c n : Nat) : putAll (es ++ [(s, c, n)]) = (putAll es).put (.int .i64 s) (.agg [.lit (.int .i64 c), .lit (.int .i64 n)]) := by
  unfold putAll
  rw [List.foldl_append]
  rfl

/-- A book in cells: the counts (of length 0 to 16), the symbols. -/
def bookC (cnt : List Int) (SB n cap : Nat) : List Value := (0 :: cnt).map I64 ++ [.slice (some ⟨SB, 0, none⟩) n cap]

structure BookW (w : World) (SB n : Nat) (val : List Int) : Prop where
  len : val.length = n
  cell : ∀ j, j < n → w.cell? ⟨SB, j, none⟩ = some (I64 (val.getD j 0))
  lt : SB < w.heap.size

theorem BookW.frame {w w' : World} {S : Nat → Prop} {SB n : Nat} {val : List Int} (h : BookW w SB n val) (hf : Fr S w w') (hS : ¬ S SB) : BookW w' SB n val :=
  ⟨h.len, fun j hj => (World.cell?_of_block (a := ⟨SB, j, none⟩) (hf.block SB h.lt hS)).trans (h.cell j hj), Nat.lt_of_lt_of_le h.lt hf.size⟩

theorem keyOf3 (n : Nat) (h : n < 4294967296) : keyOf Tryd.prog 3 (.int .i64 n) = some (.int .i64 n) := keyOf_int_mk Tryd.underlying3 (wf64 n h)

def CodPost (w : World) (es : List (Nat × Nat × Nat)) (e : Ending) (w' : World) : Prop := ∃ M n, e = .returned (.map (some M)) ∧ w.heap.size ≤ M ∧ n ≤ 255 ∧ w'.ownsMap Tryd.prog 3 pairR M n (putAll es) ∧ Fr (fun _ => False) w w'

def CodO (w0 : World) (M : Nat) (cnt val : List Int) (c a l : Value) (wr : World) : Prop := ∃ i : Nat, i ≤ 16 ∧ l = .int .i64 ((i : Int) + 1) ∧ c = .int .i64 (cAt cnt i) ∧ a = .int .i64 (kAt cnt i) ∧ wr.ownsMap Tryd.prog 3 pairR M (kAt cnt i) (putAll (entOut cnt val i)) ∧ Fr (· = M) w0 wr
def CodI (w0 : World) (M : Nat) (cnt val : List Int) (i : Nat) (c a j : Value) (wr : World) : Prop := ∃ k : Nat, k ≤ (cnt.getD i 0).toNat ∧ j = .int .i64 k ∧ c = .int .i64 ((cAt cnt i + k : Nat) : Int) ∧ a = .int .i64 ((kAt cnt i + k : Nat) : Int) ∧
  wr.ownsMap Tryd.prog 3 pairR M (kAt cnt i + k) (putAll (entOut cnt val i ++ entIn val i (cAt cnt i) (kAt cnt i) k)) ∧ Fr (· = M) w0 wr

set_option maxHeartbeats 1000000 in
theorem codes_any {w : World} {SB n cap m : Nat} {cnt val : List Int} (hk : LOk cnt val m) (hb : BookW w SB n val) :
    Calls Tryd.prog 54 #[.agg (bookC cnt SB n cap).toArray] w (CodPost w (entOut cnt val 16)) := by
  have HB := hu hb
  have HK := hu hk
  have hmm := @run_makeMap Tryd.prog
  go_enter Tryd.func54, Tryd.ntmps54
  go_upto_region 2 with (fail)
  have bX := (Blk.newA w (bookC cnt SB n cap).toArray 111).alloc (.map #[] 0)
  have hM := World.ownsMap_made (w.alloc (.cells (bookC cnt SB n cap).toArray 111)) Tryd.prog 3 pairR
  have hF := ((Fr.refl (fun _ => False) w).alloc (.cells (bookC cnt SB n cap).toArray 111)).alloc (.map #[] 0)
  rw [World.size_alloc] at hM
  obtain ⟨w0, hw0⟩ : ∃ z, (w.alloc (.cells (bookC cnt SB n cap).toArray 111)).alloc (.map #[] 0) = z := ⟨_, rfl⟩
  rw [hw0] at bX hM hF
  simp only [hw0]
  obtain ⟨BX, hBX⟩ : ∃ z, w.heap.size = z := ⟨_, rfl⟩
  rw [hBX] at bX hM
  simp only [hBX]
  have hSB : SB < BX := by rw [← hBX]; exact hb.lt
  have hB0 := hb.frame hF (fun e => e)
  have cc : ∀ i, i < 16 → w0.cell? ⟨BX, i + 1, none⟩ = some (I64 (cnt.getD i 0)) := fun i hi => by
    have hcl := hk.cl
    refine bX.cellv (i + 1) ?_
    unfold bookC
    rw [List.getElem?_append_left (by simp [hcl]; omega), List.getElem?_map, List.getElem?_cons_succ, List.getD_eq_getElem?_getD, List.getElem?_eq_getElem (by omega)]
    rfl
  have cs : w0.cell? ⟨BX, 17, none⟩ = some (.slice (some ⟨SB, 0, none⟩) n cap) := by
    have hcl := hk.cl
    refine bX.cellv 17 ?_
    unfold bookC
    rw [List.getElem?_append_right (by simp [hcl])]
    simp [hcl]
  have HCC := hu cc
  have HCS := hu cs
  have HB0 := hu hB0
  have HM := hu hM
  have HF := hu hF
  have HBXL := hu bX.lt
  have HBX := hu hBX
  clear hb hk bX hM hF hB0 cc cs hw0 hBX HB
  go_wp2
  go_loopw [4, 5, 6] (fun c a l wr => CodO w0 (BX + 1) cnt val c a l wr) (fun _ _ l _ => 17 - (intOf l).toNat)
  case atStart => exact ⟨0, by omega, rfl, rfl, rfl, HM.out (), Fr.refl _ _⟩
  case round =>
    obtain ⟨i, hi, rfl, rfl, rfl, hO, hFr⟩ := hrel
    have HO := hu hO
    have HFr := hu hFr
    by_cases hi16 : i < 16
    · have hcc := (HK.out ()).cc i hi16
      have hkb := (HK.out ()).kb i hi16
      have hcb := (HK.out ()).cb i hi16
      have hvl := (HK.out ()).vl
      have hlen := (HB0.out ()).len
      have cci : wr.cell? ⟨BX, i + 1, none⟩ = some (I64 (cnt.getD i 0)) := (World.cell?_of_block (a := ⟨BX, i + 1, none⟩) (hFr.block BX (HBXL.out ()) (by omega))).trans (HCC.out () i hi16)
      obtain ⟨q, hq⟩ : ∃ q : Nat, cnt.getD i 0 = (q : Int) := ⟨(cnt.getD i 0).toNat, by omega⟩
      have hq2 : (cnt.getD i 0).toNat = q := by omega
      rw [hq] at cci
      rw [hq2] at hcc hkb
      obtain ⟨c0, hc0⟩ : ∃ z, cAt cnt i = z := ⟨_, rfl⟩
      obtain ⟨a0, ha0⟩ : ∃ z, kAt cnt i = z := ⟨_, rfl⟩
      rw [hc0] at hcc ⊢
      rw [ha0] at hkb ⊢
      have HQ := hu hq2
      have HC0 := hu hc0
      have HA0 := hu ha0
      have hO0 := HO.out ()
      rw [ha0] at hO0
      have HO0 := hu hO0
      have hn255 : a0 + q ≤ 255 := by omega
      have HLEN := hu hlen
      have hdi : decide ((i : Int) + 1 ≤ 16) = true := by simp; omega
      clear hq hq2 hc0 ha0 hO hFr hcb hO0 hlen
      go_wp2
      clear cci
      go_loopw [4, 5, 16] (fun c a j wr => CodI w0 (BX + 1) cnt val i c a j wr) (fun _ _ j _ => q - (intOf j).toNat)
      case atStart => exact ⟨0, by omega, rfl, by rw [HC0.out ()]; rfl, by rw [HA0.out ()]; rfl, by rw [HA0.out ()]; simpa [entIn] using HO0.out (), HFr.out ()⟩
      case round =>
        obtain ⟨k, hk, rfl, rfl, rfl, hO, hFr⟩ := hrel
        rw [HQ.out ()] at hk
        rw [HC0.out (), HA0.out ()] at hO ⊢
        have HO1 := hu hO
        have HFr1 := hu hFr
        by_cases hkq : k < q
        · have hvb := (HK.out ()).vb (a0 + k) (by have := HLEN.out (); omega)
          have hn : a0 + k < n := by have := HLEN.out (); omega
          have csl : wr.cell? ⟨BX, 17, none⟩ = some (.slice (some ⟨SB, 0, none⟩) n cap) := (World.cell?_of_block (a := ⟨BX, 17, none⟩) (hFr.block BX (HBXL.out ()) (by omega))).trans (HCS.out ())
          have csy : wr.cell? ⟨SB, a0 + k, none⟩ = some (I64 (val.getD (a0 + k) 0)) := ((HB0.out ()).frame hFr (by omega)).cell (a0 + k) hn
          obtain ⟨sy, hsy⟩ : ∃ sy : Nat, val.getD (a0 + k) 0 = (sy : Int) := ⟨(val.getD (a0 + k) 0).toNat, by omega⟩
          have hsy2 : (val.getD (a0 + k) 0).toNat = sy := by omega
          have hsy3 : sy ≤ 255 := by omega
          rw [hsy] at csy
          have HSY := hu hsy2
          have hkey := keyOf3 sy (by omega)
          have HKEY := hu hkey
          have HMAX := hu (show a0 + k < maxLen by unfold maxLen; omega)
          have i1 : (0 : Int) ≤ ((a0 + k : Nat) : Int) := by omega
          have i2 : ((a0 + k : Nat) : Int) < (n : Int) := by omega
          obtain ⟨at_, hat⟩ : ∃ z, a0 + k = z := ⟨_, rfl⟩
          obtain ⟨cd, hcd⟩ : ∃ z, c0 + k = z := ⟨_, rfl⟩
          rw [hat] at i1 i2 csy HO1 HMAX hn ⊢
          rw [hcd]
          have hcd2 : cd ≤ 65536 := by omega
          have hat2 : at_ ≤ 255 := by omega
          have HAT := hu hat
          have HCD := hu hcd
          clear hO hFr hvb hsy hsy2 hat hcd hkey
          go_wp2_with (at_mapUpdate; refine wpList_mapUpdate_own _ rfl _ _ _ 152 rfl 3 154 law3 Tryd.underlying152 pairR (BX + 1) at_ _ rfl (HO1.out ()) (HMAX.out ()) _ _ (.int .i64 sy) rfl rfl (HKEY.out ()) (.agg [.lit (.int .i64 cd), .lit (.int .i64 ((i : Int) + 1))]) [] rfl ?_)
          intro w1 hown1 hgrow1
          have HW1 := hu hown1
          have HG1 := hu hgrow1
          clear hown1 hgrow1 csl csy
          go_wp2
          go_roundw
          case rel =>
            have hrel2 : CodI w0 (BX + 1) cnt val i (.int .i64 ((cd : Int) + 1)) (.int .i64 ((at_ : Int) + 1)) (.int .i64 ((k : Int) + 1)) w1 := by
              refine ⟨k + 1, by rw [HQ.out ()]; omega, by go_num, ?_, ?_, ?_, (HFr1.out ()).grown (HG1.out ()) (fun b _ e => by injection e with e; exact e.symm)⟩
              · rw [HC0.out ()]; have := HCD.out (); congr 1; omega
              · rw [HA0.out ()]; have := HAT.out (); congr 1; omega
              · rw [HC0.out (), HA0.out (), entIn, HSY.out (), ← List.append_assoc, putAll_snoc, HCD.out (), show a0 + (k + 1) = at_ + 1 by have := HAT.out (); omega]
                exact HW1.out ()
            first | exact hrel2 | ((repeat apply Exists.intro); exact ⟨hrel2, rfl⟩)
          case measure => simp [intOf]; omega
        · obtain rfl : k = q := by omega
          go_wp2
          go_roundw
          case rel =>
            have hrel2 : CodO w0 (BX + 1) cnt val (.int .i64 (((c0 + k : Nat) : Int) * 2)) (.int .i64 ((a0 + k : Nat) : Int)) (.int .i64 ((i : Int) + 1 + 1)) wr := by
              refine ⟨i + 1, by omega, by go_num, ?_, ?_, ?_, HFr1.out ()⟩
              · rw [cAt, HQ.out (), HC0.out ()]; first | rfl | (congr 1; omega)
              · rw [kAt, HQ.out (), HA0.out ()]
              · rw [kAt, entOut, HQ.out (), HA0.out (), HC0.out ()]
                exact HO1.out ()
            first | exact hrel2 | ((repeat apply Exists.intro); exact ⟨hrel2, rfl⟩)
          case measure => simp [intOf]; omega
    · obtain rfl : i = 16 := by omega
      go_wp2
      go_ret
      have hkb := (HK.out ()).kb 15 (by omega)
      have hvl := (HK.out ()).vl
      have e : kAt cnt 16 = kAt cnt 15 + (cnt.getD 15 0).toNat := rfl
      refine ⟨BX + 1, kAt cnt 16, rfl, by have := HBX.out (); omega, by omega, HO.out (), ?_⟩
      exact (HF.out ()).trans (HFr.out ()) (fun k hk e => by have := HBX.out (); omega)
end Go.Proofs.YtpophkigihfjoaaDoor

/- A map turned round, in plain data: from codes to symbols. -/
namespace Go.Proofs.YtpophkigihfjoaaDoor
open Go.RowKit Go.Maps
set_option maxRecDepth 100000

theorem nodup_inj {α β : Type} {f : α → β} : ∀ {l : List α}, (l.map f).Nodup → ∀ {a b : α}, a ∈ l → b ∈ l → f a = f b → a = b
  | [], _, _, _, ha, _, _ => by cases ha
  | x :: l, h, a, b, ha, hb, hab => by
    rw [List.map_cons, List.nodup_cons] at h
    rcases List.mem_cons.1 ha with ha1 | ha1 <;> rcases List.mem_cons.1 hb with hb1 | hb1
    · rw [ha1, hb1]
    · subst ha1; exact absurd (hab ▸ List.mem_map_of_mem hb1) h.1
    · subst hb1; exact absurd (hab ▸ List.mem_map_of_mem ha1) h.1
    · exact nodup_inj h.2 ha1 hb1 hab

theorem rev_ind {α : Type} {P : List α → Prop} (h0 : P []) (h1 : ∀ l a, P l → P (l ++ [a])) (l : List α) : P l := by
  have : ∀ r : List α, P r.reverse := by
    intro r
    induction r with
    | nil => exact h0
    | cons a r ih => rw [List.reverse_cons]; exact h1 _ _ ih
  have h := this l.reverse
  rwa [List.reverse_reverse] at h

theorem symOf_mem {es : List (Nat × Nat × Nat)} {c k s : Nat} (h : symOf es c k = some s) : (s, c, k) ∈ es := by
  unfold symOf at h
  rw [Option.map_eq_some_iff] at h
  obtain ⟨⟨s', c', k'⟩, h1, h2⟩ := h
  have hm := List.mem_of_find?_eq_some h1
  have hp := List.find?_some h1
  simp only [Bool.and_eq_true, beq_iff_eq] at hp
  obtain ⟨rfl, rfl⟩ := hp
  have : s' = s := h2
  subst this
  exact hm

theorem eok_code {es : List (Nat × Nat × Nat)} (h : EOk es) {e e' : Nat × Nat × Nat} (he : e ∈ es) (he' : e' ∈ es) (heq : e.2 = e'.2) : e = e' := by
  exact nodup_inj h.codes he he' heq

theorem eok_sym {es : List (Nat × Nat × Nat)} (h : EOk es) {e e' : Nat × Nat × Nat} (he : e ∈ es) (he' : e' ∈ es) (heq : e.1 = e'.1) : e = e' :=
  nodup_inj h.syms he he' heq

theorem mem_symOf {es : List (Nat × Nat × Nat)} (h : EOk es) {c k s : Nat} (hm : (s, c, k) ∈ es) : symOf es c k = some s := by
  cases hs : symOf es c k with
  | none =>
    unfold symOf at hs
    rw [Option.map_eq_none_iff, List.find?_eq_none] at hs
    have := hs _ hm
    simp at this
  | some s' =>
    have := eok_code h (symOf_mem hs) hm rfl
    have e : s' = s := congrArg (·.1) this
    rw [e]

theorem isKey_int (x : Int) : WideAt.IsKeyLit (.int .i64 x) := by trivial

theorem putAll_isMap (es : List (Nat × Nat × Nat)) : IsMap (putAll es) := by
  have : ∀ (l : List (Nat × Nat × Nat)) (D : DataW Unit), IsMap D → IsMap (l.foldl (fun D e => D.put (.int .i64 e.1) (.agg [.lit (.int .i64 e.2.1), .lit (.int .i64 e.2.2)])) D) := by
    intro l
    induction l with
    | nil => intro D h; exact h
    | cons e l ih => intro D h; exact ih _ (h.put _ _)
  exact this es _ isMap_empty

/-- What the map of some entries holds at a symbol. -/
theorem putAll_at (es : List (Nat × Nat × Nat)) (hn : (es.map (·.1)).Nodup) : (∀ e ∈ es, Maps.has (putAll es) (.int .i64 (e.1 : Int)) = true ∧ ∀ z, (putAll es).atKey (.int .i64 (e.1 : Int)) z = .agg [.lit (.int .i64 e.2.1), .lit (.int .i64 e.2.2)]) ∧
    ∀ l, Maps.has (putAll es) l = true → ∃ e ∈ es, l = .int .i64 (e.1 : Int) := by
  revert hn
  refine rev_ind (P := fun es => (es.map (·.1)).Nodup → (∀ e ∈ es, Maps.has (putAll es) (.int .i64 (e.1 : Int)) = true ∧ ∀ z, (putAll es).atKey (.int .i64 (e.1 : Int)) z = .agg [.lit (.int .i64 e.2.1), .lit (.int .i64 e.2.2)]) ∧
    ∀ l, Maps.has (putAll es) l = true → ∃ e ∈ es, l = .int .i64 (e.1 : Int)) ?_ ?_ es
  · intro _
    refine ⟨fun e he => (by cases he), fun l hl => ?_⟩
    simp [putAll, Maps.has_eq] at hl
  · intro es e ih hn
    obtain ⟨s, c, k⟩ := e
    rw [List.map_append, List.nodup_append] at hn
    obtain ⟨n1, _, n3⟩ := hn
    obtain ⟨i1, i2⟩ := ih n1
    rw [putAll_snoc]
    refine ⟨fun e he => ?_, fun l hl => ?_⟩
    · rcases List.mem_append.1 he with he | he
      · have hne : (.int .i64 (e.1 : Int) : Lit) ≠ .int .i64 (s : Int) := by
          intro h
          injection h with _ h
          have h : e.1 = s := by omega
          exact n3 e.1 (List.mem_map_of_mem he) s (by simp) h
        rw [has_put_other hne]
        refine ⟨(i1 e he).1, fun z => ?_⟩
        rw [atKey_put_other hne]
        exact (i1 e he).2 z
      · have : e = (s, c, k) := by simpa using he
        subst this
        exact ⟨has_put_same (putAll_isMap es) (isKey_int _) _, fun z => atKey_put_same (putAll_isMap es) (isKey_int _) _ z⟩
    · by_cases h : l = .int .i64 (s : Int)
      · exact ⟨(s, c, k), by simp, h⟩
      · rw [has_put_other h] at hl
        obtain ⟨e, he, hl⟩ := i2 l hl
        exact ⟨e, by simp [he], hl⟩

/-- What has been turned so far. -/
def TurI (es : List (Nat × Nat × Nat)) (left : Lit → Bool) (Dout : DataW Unit) : Prop := IsMap Dout ∧ ∀ c k, c < 4294967296 → k < 4294967296 →
  (symOf es c k = none → Maps.has Dout (kl c k) = false) ∧
  ∀ s, symOf es c k = some s → (left (.int .i64 (s : Int)) = true → Maps.has Dout (kl c k) = false) ∧ (left (.int .i64 (s : Int)) = false → Maps.has Dout (kl c k) = true ∧ ∀ z, Dout.atKey (kl c k) z = .lit (.int .i64 (s : Int)))

theorem turI_start (es : List (Nat × Nat × Nat)) (h : EOk es) : TurI es (Maps.has (putAll es)) (.map []) := by
  refine ⟨isMap_empty, fun c k hc hk => ⟨fun _ => by simp [Maps.has_eq], fun s hs => ⟨fun _ => by simp [Maps.has_eq], fun hl => ?_⟩⟩⟩
  have := ((putAll_at es h.syms).1 _ (symOf_mem hs)).1
  rw [this] at hl
  cases hl

theorem turI_step {es : List (Nat × Nat × Nat)} (h : EOk es) {left : Lit → Bool} {Dout : DataW Unit} (hI : TurI es left Dout) {s c k : Nat} (hm : (s, c, k) ∈ es) (hl : left (.int .i64 (s : Int)) = true) :
    TurI es (fun z => left z && !z.sameKey (.int .i64 (s : Int))) (Dout.put (kl c k) (.lit (.int .i64 (s : Int)))) := by
  obtain ⟨hs1, hs2, hs3, hs4⟩ := h.small _ hm
  have hc32 : c < 4294967296 := by have : c < 65536 := hs2; omega
  have hk32 : k < 4294967296 := by have : k ≤ 16 := hs4; omega
  have hself : (.int .i64 (s : Int) : Lit).sameKey (.int .i64 (s : Int)) = true := WideAt.sameKey_self (isKey_int _)
  refine ⟨hI.1.put _ _, fun c' k' hc hk => ?_⟩
  by_cases hck : c' = c ∧ k' = k
  · obtain ⟨rfl, rfl⟩ := hck
    have hsym := mem_symOf h hm
    refine ⟨fun hn => (by rw [hsym] at hn; cases hn), fun s' hs' => ?_⟩
    rw [hsym] at hs'
    obtain rfl := Option.some.inj hs'
    refine ⟨fun hl' => ?_, fun _ => ⟨has_put_same hI.1 (kl_key _ _ hc32 hk32) _, fun z => atKey_put_same hI.1 (kl_key _ _ hc32 hk32) _ z⟩⟩
    simp [hself] at hl'
  · have hne : kl c' k' ≠ kl c k := fun e => hck (kl_inj hc hk hc32 hk32 e)
    obtain ⟨a1, a2⟩ := hI.2 c' k' hc hk
    refine ⟨fun hn => (by rw [has_put_other hne]; exact a1 hn), fun s' hs' => ?_⟩
    have hss : s' ≠ s := by
      rintro rfl
      have := eok_sym h (symOf_mem hs') hm rfl
      simp only [Prod.mk.injEq, true_and] at this
      exact hck this
    have hsk : (.int .i64 (s' : Int) : Lit).sameKey (.int .i64 (s : Int)) = false := sameKey_ne (by intro e; injection e with _ e; omega)
    obtain ⟨b1, b2⟩ := a2 s' hs'
    refine ⟨fun hl' => ?_, fun hl' => ?_⟩
    · rw [has_put_other hne]; exact b1 (by simpa [hsk] using hl')
    · rw [has_put_other hne]
      have := b2 (by simpa [hsk] using hl')
      exact ⟨this.1, fun z => by rw [atKey_put_other hne]; exact this.2 z⟩

theorem turI_end {es : List (Nat × Nat × Nat)} {left : Lit → Bool} {Dout : DataW Unit} (hI : TurI es left Dout) (hl : ∀ l, left l = false) : ∀ c k, c < 4294967296 → k < 4294967296 →
    Maps.has Dout (kl c k) = (symOf es c k).isSome ∧ Dout.atKey (kl c k) (.lit (.int .i64 0)) = .lit (.int .i64 (((symOf es c k).getD 0 : Nat) : Int)) := by
  intro c k hc hk
  obtain ⟨a1, a2⟩ := hI.2 c k hc hk
  cases hs : symOf es c k with
  | none =>
    have := a1 hs
    exact ⟨this, by rw [atKey_of_not_has this]; rfl⟩
  | some s =>
    have := (a2 s hs).2 (hl _)
    exact ⟨this.1, this.2 _⟩
end Go.Proofs.YtpophkigihfjoaaDoor

/- The walk of turned. -/
namespace Go.Proofs.YtpophkigihfjoaaDoor
open Go.RowKit Go.Maps Go.Great
set_option maxRecDepth 100000

theorem und111 : ∃ fs, Tryd.prog.underlying 111 = some (.struct fs) := by
  have h : (match Tryd.prog.underlying 111 with | some (.struct _) => true | _ => false) = true := by kernel_rfl
  split at h
  · exact ⟨_, by assumption⟩
  · cases h

theorem size111 (cnt : List Int) (SB n cap : Nat) (h : cnt.length = 16) : (Tryd.prog.info? 111).map (·.size) = some (bookC cnt SB n cap).toArray.size := by
  have h2 : (Tryd.prog.info? 111).map (·.size) = some 18 := by kernel_rfl
  rw [h2]; simp [bookC, h]

def TurPost (w : World) (es : List (Nat × Nat × Nat)) (e : Ending) (w' : World) : Prop := ∃ M, e = .returned (.map (some M)) ∧ w.heap.size ≤ M ∧ MapIs w' M es ∧ Fr (fun _ => False) w w'

/-- Between two entries. -/
def TurRel (w0 : World) (B r M n : Nat) (es : List (Nat × Nat × Nat)) (wr : World) : Prop :=
  ∃ (left : Lit → Bool) (cnt : Nat) (Dout : DataW Unit) (n' : Nat), wr.ranges Tryd.prog 3 pairR B r n (putAll es) left cnt ∧ n' + cnt ≤ 255 ∧ wr.ownsMap Tryd.prog 154 (plainElem (H := Unit) Tryd.prog 3) M n' Dout ∧ TurI es left Dout ∧ Fr (fun k => k = M ∨ k = r) w0 wr

theorem ownsMap_heap {H : Type} {P : Program} {k : TypeId} {R : Value → Option (DataW H × List MemPlace)} {w w' : World} {b n : Nat} {D : DataW H} (h : w.ownsMap P k R b n D) (e : w'.heap[b]? = w.heap[b]?) : w'.ownsMap P k R b n D := by
  obtain ⟨es, clock, hb, r⟩ := h
  exact ⟨es, clock, by rw [e]; exact hb, r⟩

def mkP (p : Int × Int) : Value := .agg #[.int .i64 p.1, .int .i64 p.2]

theorem invK3 (key : Value) (kl : Lit) (h : keyOf Tryd.prog 3 key = some kl) : ∃ x, key = .int .i64 x := by
  obtain ⟨x, rfl, _⟩ := Maps.keyOf_int_inv Tryd.underlying3 h
  exact ⟨x, rfl⟩

theorem pairR_inv {v : Value} {y : DataW Unit × List MemPlace} (h : pairR v = some y) : ∃ p : Int × Int, v = mkP p ∧ y = (.agg [.lit (.int .i64 p.1), .lit (.int .i64 p.2)], []) := by
  unfold pairR at h
  split at h
  · rename_i a b
    exact ⟨(a, b), rfl, (Option.some.inj h).symm⟩
  · cases h

/-- The entry that has come is one of es. -/
theorem entry_is {es : List (Nat × Nat × Nat)} (he : EOk es) {x : Int} {p : Int × Int} {kl : Lit} {y : DataW Unit × List MemPlace} (hkey : keyOf Tryd.prog 3 (.int .i64 x) = some kl) (hv : pairR (mkP p) = some y) (hat : ∀ zd, (putAll es).atKey kl zd = y.1) :
    ∃ s c k : Nat, (s, c, k) ∈ es ∧ x = s ∧ p = ((c : Int), (k : Int)) ∧ kl = .int .i64 (s : Int) := by
  have hh : Maps.has (putAll es) kl = true := has_true_of_atKey hat
  obtain ⟨⟨s, c, k⟩, hm, hkl⟩ := (putAll_at es he.syms).2 kl hh
  obtain ⟨x', hx, hkl', _⟩ := Maps.keyOf_int_inv Tryd.underlying3 hkey
  injection hx with _ hx
  subst hx
  rw [hkl] at hkl'
  injection hkl' with _ hxs
  have h1 := ((putAll_at es he.syms).1 _ hm).2 .nil
  have h2 := hat .nil
  rw [hkl, h1] at h2
  obtain ⟨p', hp, hy⟩ := pairR_inv hv
  have hpp : p' = p := by
    have := Value.agg.inj hp
    simp only [Array.mk.injEq, List.cons.injEq, Value.int.injEq, true_and, and_true] at this
    exact Prod.ext this.1.symm this.2.symm
  subst hpp
  rw [hy] at h2
  simp only [DataW.agg.injEq, List.cons.injEq, DataW.lit.injEq, Lit.int.injEq, true_and, and_true] at h2
  exact ⟨s, c, k, hm, hxs.symm, Prod.ext h2.1.symm h2.2.symm, hkl⟩

set_option maxHeartbeats 1000000 in
theorem turned_any {w : World} {SB n cap m : Nat} {cnt val : List Int} (hk : LOk cnt val m) (hb : BookW w SB n val) (he : EOk (entOut cnt val 16)) :
    Calls Tryd.prog 32 #[.agg (bookC cnt SB n cap).toArray] w (TurPost w (entOut cnt val 16)) := by
  have HK := hu hk
  have HEO := hu he
  have hmm := @run_makeMap Tryd.prog
  obtain ⟨fs, und⟩ := und111
  go_enter Tryd.func32, Tryd.ntmps32
  go_upto_region 2 with (fail)
  have bX := (Blk.newA w (bookC cnt SB n cap).toArray 111).alloc (.map #[] 0)
  have hM := World.ownsMap_made (w.alloc (.cells (bookC cnt SB n cap).toArray 111)) Tryd.prog 154 (plainElem (H := Unit) Tryd.prog 3)
  have hF := ((Fr.refl (fun _ => False) w).alloc (.cells (bookC cnt SB n cap).toArray 111)).alloc (.map #[] 0)
  rw [World.size_alloc] at hM
  obtain ⟨w0, hw0⟩ : ∃ z, (w.alloc (.cells (bookC cnt SB n cap).toArray 111)).alloc (.map #[] 0) = z := ⟨_, rfl⟩
  rw [hw0] at bX hM hF
  simp only [hw0]
  obtain ⟨BX, hBX⟩ : ∃ z, w.heap.size = z := ⟨_, rfl⟩
  rw [hBX] at bX hM
  simp only [hBX]
  have hB0 := hb.frame hF (fun e => e)
  rename_i K2
  apply wp_region_lit
  refine wpList_load_row rfl 111 _ rfl BX rfl 111 (bookC cnt SB n cap).toArray (0, 0) (.struct fs) bX und rfl (size111 cnt SB n cap hk.cl) ?_
  refine wpList_callWith rfl (some 8) rfl 54 _ (by kernel_rfl) (codes_any (cap := cap) hk hB0) ?_
  rintro e w1 ⟨M, n1, rfl, hM1, hn1, hown, f1⟩
  refine ⟨_, rfl, ?_⟩
  refine wpList_range_own _ rfl _ 152 rfl 3 154 law3 Tryd.underlying152 pairR M n1 _ rfl hown ?_
  intro w2 hrg hg hs
  apply wpList_nil
  refine K2 _ _ ?_
  go_frame
  have hr := hrg.lt
  have hMlt := hown.lt
  have hszD := hown.size_le
  have f01 := f1
  have hBX1 : BX + 1 < w0.heap.size := by rw [← hw0, World.size_alloc, World.size_alloc, hBX]; omega
  have hout2 : w2.ownsMap Tryd.prog 154 (plainElem (H := Unit) Tryd.prog 3) (BX + 1) 0 (.map []) := ownsMap_heap hM (by rw [hg.block (BX + 1) (by have := f1.size; omega) (by simp), f1.block (BX + 1) hBX1 (fun e => e)])
  have hF2 : Fr (fun _ => False) w w2 := (hF.trans f1 (fun _ _ e => e)).grown hg (fun k _ e => by cases e)
  obtain ⟨r, hre⟩ : ∃ r, w1.heap.size = r := ⟨_, rfl⟩
  rw [hre] at hrg hMlt ⊢
  have hs0 := f1.size
  rw [hre] at hs0
  have hMr : BX + 1 < M := by
    have : w0.heap.size ≤ M := hM1
    omega
  have HRG := hu hrg
  have HOUT := hu hout2
  have HF2 := hu hF2
  have HSZ := hu (show Maps.size (putAll (entOut cnt val 16)) ≤ 255 by omega)
  have HBX := hu hBX
  have hrBX : BX + 1 < r := by omega
  clear hk hb he bX hM hF hB0 hown f1 f01 hM1 hn1 hszD hrg hg hs hout2 hF2 hre hs0 hr hBX hw0 hBX1 und
  go_wp2
  go_loopw [4, 5] (fun _ _ wr => TurRel w2 M r (BX + 1) n1 (entOut cnt val 16) wr) (fun _ _ wr => wr.rangeLeft M r)
  case atStart => exact ⟨_, _, .map [], 0, HRG.out (), by have := HSZ.out (); omega, HOUT.out (), turI_start _ (HEO.out ()), Fr.refl _ _⟩
  case round =>
    obtain ⟨left, cnt1, Dout, n', hrg, hcn, hout, hI, hFr⟩ := hrel
    have HRG1 := hu hrg
    have HO := hu hout
    have HI := hu hI
    have HFr := hu hFr
    clear hrg hout hI hFr
    go_wp2_with (at_next; refine wpList_next_ranges _ rfl _ rfl 3 law3 pairR (Value.int .i64) mkP invK3 (fun v y h => by obtain ⟨p, h1, _⟩ := pairR_inv h; exact ⟨p, h1⟩) M r n1 _ _ _ rfl (HRG1.out ()) ?_ ?_)
    · intro hc0 hl0
      have HL0 := hu hl0
      clear hl0 hc0
      go_wp2
      go_ret
      refine ⟨BX + 1, rfl, by have := HBX.out (); omega, ⟨n', Dout, HO.out (), turI_end (HI.out ()) (HL0.out ())⟩, ?_⟩
      exact (HF2.out ()).trans (HFr.out ()) (fun k hk e => by have := HBX.out (); omega)
    · intro x p1 p2 kl y1 y2 w3 cnt3 hkey hlk hv hat hrg1 hlt hg1 hs1 hen
      obtain ⟨s, c, k, hm, rfl, hp, rfl⟩ := entry_is (p := (p1, p2)) (y := (y1, y2)) (HEO.out ()) hkey hv hat
      obtain ⟨rfl, rfl⟩ : p1 = (c : Int) ∧ p2 = (k : Int) := ⟨congrArg (·.1) hp, congrArg (·.2) hp⟩
      clear hp
      have hsm := (HEO.out ()).small _ hm
      obtain ⟨hs256, hc16, hk1, hk16⟩ := hsm
      have hs256 : s < 256 := hs256
      have hc16 : c < 65536 := hc16
      have hk16 : k ≤ 16 := hk16
      have hk1 : 1 ≤ k := hk1
      have HRG3 := hu hrg1
      have HG1 := hu hg1
      have HLK := hu hlk
      have HM := hu hm
      have HLT := hu hlt
      have ho3 : w3.ownsMap Tryd.prog 154 (plainElem (H := Unit) Tryd.prog 3) (BX + 1) n' Dout := ownsMap_heap (HO.out ()) (hg1.block (BX + 1) (HO.out ()).lt (by intro e; injection e with e; omega))
      have HO3 := hu ho3
      have hkey2 := keyOf154 c k (by omega) (by omega)
      have HKEY := hu hkey2
      have HMAX := hu (show n' < maxLen by unfold maxLen; omega)
      clear hkey hlk hv hat hrg1 hlt hg1 hs1 hm ho3 hkey2
      unfold mkP at hen ⊢
      go_wp2_with (at_mapUpdate; refine wpList_mapUpdate_own _ rfl _ _ _ 63 rfl 154 3 law154 Tryd.underlying63 (plainElem (H := Unit) Tryd.prog 3) (BX + 1) n' _ rfl ((HO3.out ()).alloc _) (HMAX.out ()) _ _ (kl c k) rfl rfl (HKEY.out ()) (.lit (.int .i64 (s : Int))) [] (plainElem_int Tryd.underlying3 (wf64 s (by omega))) ?_; intro w4 hown4 hg4; go_frame)
      have hrg4 := ((HRG3.out ()).alloc (.cells #[.int .i64 (c : Int), .int .i64 (k : Int)] 154)).kept hg4 (by intro e; injection e with e; omega) (by intro e; injection e with e; omega)
      refine ⟨⟨_, cnt3, _, n' + 1, hrg4, by have := HLT.out (); omega, hown4, turI_step (HEO.out ()) (HI.out ()) (HM.out ()) (HLK.out ()), ?_⟩, ?_⟩
      · exact ((((HFr.out ()).grown (HG1.out ()) (fun b _ e => by injection e with e; exact .inr e.symm)).alloc _).grown hg4 (fun b _ e => by injection e with e; exact .inl e.symm))
      · rw [hrg4.left_eq, (HRG1.out ()).left_eq]; exact HLT.out ()
end Go.Proofs.YtpophkigihfjoaaDoor
