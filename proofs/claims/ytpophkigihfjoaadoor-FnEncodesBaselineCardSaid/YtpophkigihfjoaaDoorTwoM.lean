/- FnEncodesBaseline, for every input: what is encoded is a baseline stream with one scan: three components, the second and the third with halves in both directions. No condition. -/
import Derived.Test.YtpophkigihfjoaaDoorTwoL
import Derived.Maps.OwnOps
import Derived.Test.YtpophkigihfjoaaDoorLaid
import Derived.Test.YtpophkigihfjoaaDoorCards
import Derived.SevenTiedAt
/- The walk of FnEncodesBaseline's loop over the components. -/
namespace Go.Proofs.YtpophkigihfjoaaDoor
open Go.RowKit Go.Great Go.Maps
set_option maxRecDepth 100000

noncomputable def lb0 : Code := blkOf 0 Tryd.f4.body

/-- A map literal's entry: 'm[k] = v' by another name. -/
theorem wpList_insert_own {H : Type} {P : Program} (w : World) {ops : Array Oper} {rest : List Oper} {o : Oper} {a : Act} {Q : Exit → Act → World → Prop}
    (hg : o.guard = none) (m x v : Operand) (t : TypeId) (hop : o.op = Op.insert t m x v)
    (k e : TypeId) (K : Keyed P k) (ht : P.underlying t = some (.map k e)) (R : Value → Option (DataW H × List MemPlace)) (b n : Nat) (D : DataW H)
    (hm : a.eval m = .map (some b)) (hown : w.ownsMap P k R b n D) (hn : n < maxLen) (key val : Value) (kl : Lit) (hx : a.eval x = key) (hv : a.eval v = val) (hkey : keyOf P k key = some kl)
    (d : DataW H) (ps : List MemPlace) (hval : R val = some (d, ps))
    (hK : ∀ w', w'.ownsMap P k R b (n + 1) (D.put kl d) → w.grownBy w' (some b) → wpList P ops Q rest (a.put o.dst undef) w') :
    wpList P ops Q (o :: rest) a w := by
  refine wpList_plain hg fun K' hK' => ?_
  obtain ⟨w', hrun, r1, r2⟩ := hown.update K ht hn hkey hval
  unfold Oper.wp
  simp [execOp, hop, hm, hx, hv, hrun, Result.andThen]
  exact hK' _ _ (hK w' r1 r2)

theorem u4b : Tryd.prog.underlying 4 = some .bool := by kernel_rfl
theorem u39 : Tryd.prog.underlying 39 = some (.map 4 3) := by kernel_rfl
theorem u3i : Tryd.prog.underlying 3 = some (.int .i64) := by kernel_rfl
theorem zeroE3 (w : World) : (zeroValue 3).run Tryd.prog w = .ok (.int .i64 0) w := by kernel_rfl

/-- The map of the law, as data. -/
def lawD : DataW Unit := ((DataW.map []).put (.bool true) (.lit (.int .i64 2))).put (.bool false) (.lit (.int .i64 1))

theorem at_true {c : Int} (h : lawD.atKey (.bool true) (.lit (.int .i64 0)) = .lit (.int .i64 c)) : c = 2 := by
  have h2 : (DataW.lit (Lit.int .i64 2) : DataW Unit) = .lit (.int .i64 c) := (by kernel_rfl : lawD.atKey (.bool true) (.lit (.int .i64 0)) = (DataW.lit (Lit.int .i64 2) : DataW Unit)).symm.trans h
  injection h2 with h3
  injection h3 with h4 h5
  exact h5.symm
theorem at_false {c : Int} (h : lawD.atKey (.bool false) (.lit (.int .i64 0)) = .lit (.int .i64 c)) : c = 1 := by
  have h2 : (DataW.lit (Lit.int .i64 1) : DataW Unit) = .lit (.int .i64 c) := (by kernel_rfl : lawD.atKey (.bool false) (.lit (.int .i64 0)) = (DataW.lit (Lit.int .i64 1) : DataW Unit)).symm.trans h
  injection h2 with h3
  injection h3 with h4 h5
  exact h5.symm

/-- A component's five cells. -/
theorem comp_row {w : World} {TB CB W H : Nat} {v0 v1 v2 : Value} (h : FrmW w TB CB W H v0 v1 v2) :
    w.rangeAt CB 0 [.int .i64 1, .int .i64 2, .int .i64 2, .int .i64 0, v0] ∧ w.rangeAt CB 5 [.int .i64 2, .int .i64 1, .int .i64 1, .int .i64 1, v1] ∧ w.rangeAt CB 10 [.int .i64 3, .int .i64 1, .int .i64 1, .int .i64 1, v2] := by
  obtain ⟨more, hc⟩ := h.comps
  have key : ∀ (o : Nat) (l : List Value), l.length = 5 → (∀ j, j < 5 → ([.int .i64 1, .int .i64 2, .int .i64 2, .int .i64 0, v0, .int .i64 2, .int .i64 1, .int .i64 1, .int .i64 1, v1, .int .i64 3, .int .i64 1, .int .i64 1, .int .i64 1, v2] ++ more : List Value)[o + j]? = l[j]?) → w.rangeAt CB o l := by
    intro o l hl hh j v hv
    have hj : j < 5 := by rw [← hl]; exact (List.getElem?_eq_some_iff.1 hv).1
    rw [hc.cell, hh j hj, hv]
  refine ⟨key 0 _ rfl ?_, key 5 _ rfl ?_, key 10 _ rfl ?_⟩
  all_goals (intro j hj; obtain rfl | rfl | rfl | rfl | rfl : j = 0 ∨ j = 1 ∨ j = 2 ∨ j = 3 ∨ j = 4 := by omega) <;> rfl

set_option maxHeartbeats 2000000 in
theorem lb_loop {w : World} {TB CB W H cap : Nat} {v0 v1 v2 : Value} {dl : List Deferred}
    {x0 x1 x2 x3 x4 x5 x6 x7 x8 x9 x10 x11 x12 x13 x14 x15 x16 x17 x18 x19 x20 x21 x22 x23 x24 x25 x26 x27 x28 x29 x30 x31 x32 x33 x34 x35 x36 x37 x38 x39 x40 x41 x42 x43 x44 x45 x46 x47 x48 x49 x50 x51 x52 x53 x54 x55 x56 x57 x58 x59 x60 x61 x62 x63 x64 x65 x66 x67 x68 x69 x70 x71 x72 x73 x74 x75 x79 x80 x81 x82 x83 x84 x85 x86 x87 x88 x89 x90 x91 x92 x93 x94 x95 x96 x97 x98 : Value}
    (h : FrmW w TB CB W H v0 v1 v2) (hs : Sl3 v0 v1 v2) :
    Code.wp Tryd.prog lb0 (fun e a' w' => e = .normal ∧ FrX (fun f => #[x0, x1, x2, x3, x4, x5, x6, x7, f 8, x9, x10, x11, x12, f 13, f 14, f 15, x16, x17, x18, x19, x20, x21, x22, x23, x24, x25, x26, x27, x28, x29, x30, x31, x32, x33, x34, x35, x36, x37, x38, x39, x40, x41, x42, x43, x44, x45, x46, x47, x48, x49, x50, x51, x52, x53, x54, x55, x56, x57, x58, x59, x60, x61, x62, x63, x64, x65, x66, x67, x68, x69, x70, x71, x72, x73, x74, x75, .slice (some ⟨CB, 0, none⟩) 3 cap, .int .i64 3, f 78, f 79, f 80, f 81, f 82, f 83, f 84, f 85, f 86, f 87, f 88, f 89, f 90, f 91, f 92, f 93, f 94, f 95, f 96, f 97, f 98]) dl (fun w' => Fr (fun _ => False) w w') a' w')
      ⟨#[x0, x1, x2, x3, x4, x5, x6, x7, x8, x9, x10, x11, x12, x13, x14, x15, x16, x17, x18, x19, x20, x21, x22, x23, x24, x25, x26, x27, x28, x29, x30, x31, x32, x33, x34, x35, x36, x37, x38, x39, x40, x41, x42, x43, x44, x45, x46, x47, x48, x49, x50, x51, x52, x53, x54, x55, x56, x57, x58, x59, x60, x61, x62, x63, x64, x65, x66, x67, x68, x69, x70, x71, x72, x73, x74, x75, .slice (some ⟨CB, 0, none⟩) 3 cap, .int .i64 3, .int .i64 0, x79, x80, x81, x82, x83, x84, x85, x86, x87, x88, x89, x90, x91, x92, x93, x94, x95, x96, x97, x98], dl⟩ w := by
  dsimp only [lb0, blkOf, got, blkAt, Tryd.f4, Nat.reduceBEq, cond_true, cond_false]
  obtain ⟨⟨a0, n0, k0, rfl⟩, ⟨a1, n1, k1, rfl⟩, ⟨a2, n2, k2, rfl⟩⟩ := hs
  have HF0 := hu h
  have HB0 := hu (Fr.refl (fun _ => False) w)
  obtain ⟨fs, hfs⟩ := und38
  have HU := hu hfs
  clear h hfs
  have hmm := @run_makeMap Tryd.prog
  go_wp2_with (fail)
  refine wp_loop_rounds 4 ?_
  rw [rounds_succ]
  go_upto_region 11 with (refine wpList_load_mid rfl 38 (.tmp 81) rfl CB 0 rfl [.int .i64 1, .int .i64 2, .int .i64 2, .int .i64 0, .slice a0 n0 k0] _ (comp_row (HF0.out ())).1 (HU.out ()) rfl size38 ?_)
  have hfa : Fr (fun _ => False) w (w.alloc (.cells (List.toArray [.int .i64 1, .int .i64 2, .int .i64 2, .int .i64 0, .slice a0 n0 k0]) 38)) := (Fr.refl _ w).alloc _
  have hnb := Blk.new w [.int .i64 1, .int .i64 2, .int .i64 2, .int .i64 0, .slice a0 n0 k0] 38
  obtain ⟨CC, hCC⟩ : ∃ z, w.heap.size = z := ⟨_, rfl⟩
  simp only [hCC] at hnb ⊢
  obtain ⟨wa0, hwa⟩ : ∃ z, w.alloc (.cells #[.int .i64 1, .int .i64 2, .int .i64 2, .int .i64 0, .slice a0 n0 k0] 38) = z := ⟨_, rfl⟩
  simp only [hwa] at hfa hnb ⊢
  have HFA := hu ((HB0.out ()).trans hfa (fun _ _ e => e))
  have HFB := hu hfa
  have HNB := hu hnb
  clear hfa hnb hwa hCC
  go_upto_region 12 with (first | (refine wpList_insert_own (H := Unit) _ rfl _ _ _ 39 rfl 4 3 (bool_keyed u4b) u39 (plainElem Tryd.prog 3) wa0.heap.size 0 _ rfl (World.ownsMap_made wa0 _ _ _) (by unfold maxLen; omega) _ _ _ rfl rfl (keyOf_bool_mk u4b true) _ [] (plainElem_int u3i (by decide)) ?_; intro w1 hown1 hgrow1) | (refine wpList_insert_own (H := Unit) _ rfl _ _ _ 39 rfl 4 3 (bool_keyed u4b) u39 (plainElem Tryd.prog 3) wa0.heap.size 1 _ rfl hown1 (by unfold maxLen; omega) _ _ _ rfl rfl (keyOf_bool_mk u4b false) _ [] (plainElem_int u3i (by decide)) ?_; intro w2 hown2 hgrow2) | (refine wpList_lookup_own_int (H := Unit) _ rfl _ _ 39 rfl 4 3 .i64 (bool_keyed u4b) u39 u3i (zeroE3 _) wa0.heap.size 2 _ rfl hown2 _ _ rfl (keyOf_bool_mk u4b true) ?_; intro c hat hwc))
  obtain rfl := at_true hat
  have hf2 : Fr (fun _ => False) wa0 w2 := (((Fr.refl (fun _ => False) wa0).alloc (.map #[] 0)).grown hgrow1 (fun g hg e => by injection e with e; omega)).grown hgrow2 (fun g hg e => by injection e with e; omega)
  have q1 := (hf2.blk (HNB.out ()) (fun e => e)).cellv 1 rfl
  have q2 := (hf2.blk (HNB.out ()) (fun e => e)).cellv 2 rfl
  have HF1 := hu (((HF0.out ()).frame (HFB.out ()) (fun e => e) (fun e => e)).frame hf2 (fun e => e) (fun e => e))
  have HB1 := hu ((HFA.out ()).trans hf2 (fun _ _ e => e))
  clear hf2 hat hwc hown1 hown2 hgrow1 hgrow2 HFA HFB HNB HF0 HB0 w1
  obtain ⟨wn0, hwn⟩ : ∃ z, z = w2 := ⟨_, rfl⟩
  subst hwn
  go_wp2
  clear q1 q2
  rw [rounds_succ]
  go_upto_region 11 with (refine wpList_load_mid rfl 38 (.tmp 81) rfl CB 5 rfl [.int .i64 2, .int .i64 1, .int .i64 1, .int .i64 1, .slice a1 n1 k1] _ (comp_row (HF1.out ())).2.1 (HU.out ()) rfl size38 ?_)
  have hfa : Fr (fun _ => False) wn0 (wn0.alloc (.cells (List.toArray [.int .i64 2, .int .i64 1, .int .i64 1, .int .i64 1, .slice a1 n1 k1]) 38)) := (Fr.refl _ wn0).alloc _
  have hnb := Blk.new wn0 [.int .i64 2, .int .i64 1, .int .i64 1, .int .i64 1, .slice a1 n1 k1] 38
  obtain ⟨CC, hCC⟩ : ∃ z, wn0.heap.size = z := ⟨_, rfl⟩
  simp only [hCC] at hnb ⊢
  obtain ⟨wa1, hwa⟩ : ∃ z, wn0.alloc (.cells #[.int .i64 2, .int .i64 1, .int .i64 1, .int .i64 1, .slice a1 n1 k1] 38) = z := ⟨_, rfl⟩
  simp only [hwa] at hfa hnb ⊢
  have HFA := hu ((HB1.out ()).trans hfa (fun _ _ e => e))
  have HFB := hu hfa
  have HNB := hu hnb
  clear hfa hnb hwa hCC
  go_upto_region 12 with (first | (refine wpList_insert_own (H := Unit) _ rfl _ _ _ 39 rfl 4 3 (bool_keyed u4b) u39 (plainElem Tryd.prog 3) wa1.heap.size 0 _ rfl (World.ownsMap_made wa1 _ _ _) (by unfold maxLen; omega) _ _ _ rfl rfl (keyOf_bool_mk u4b true) _ [] (plainElem_int u3i (by decide)) ?_; intro w1 hown1 hgrow1) | (refine wpList_insert_own (H := Unit) _ rfl _ _ _ 39 rfl 4 3 (bool_keyed u4b) u39 (plainElem Tryd.prog 3) wa1.heap.size 1 _ rfl hown1 (by unfold maxLen; omega) _ _ _ rfl rfl (keyOf_bool_mk u4b false) _ [] (plainElem_int u3i (by decide)) ?_; intro w2 hown2 hgrow2) | (refine wpList_lookup_own_int (H := Unit) _ rfl _ _ 39 rfl 4 3 .i64 (bool_keyed u4b) u39 u3i (zeroE3 _) wa1.heap.size 2 _ rfl hown2 _ _ rfl (keyOf_bool_mk u4b false) ?_; intro c hat hwc))
  obtain rfl := at_false hat
  have hf2 : Fr (fun _ => False) wa1 w2 := (((Fr.refl (fun _ => False) wa1).alloc (.map #[] 0)).grown hgrow1 (fun g hg e => by injection e with e; omega)).grown hgrow2 (fun g hg e => by injection e with e; omega)
  have q1 := (hf2.blk (HNB.out ()) (fun e => e)).cellv 1 rfl
  have q2 := (hf2.blk (HNB.out ()) (fun e => e)).cellv 2 rfl
  have HF2 := hu (((HF1.out ()).frame (HFB.out ()) (fun e => e) (fun e => e)).frame hf2 (fun e => e) (fun e => e))
  have HB2 := hu ((HFA.out ()).trans hf2 (fun _ _ e => e))
  clear hf2 hat hwc hown1 hown2 hgrow1 hgrow2 HFA HFB HNB HF1 HB1 w1
  obtain ⟨wn1, hwn⟩ : ∃ z, z = w2 := ⟨_, rfl⟩
  subst hwn
  go_wp2
  clear q1 q2
  rw [rounds_succ]
  go_upto_region 11 with (refine wpList_load_mid rfl 38 (.tmp 81) rfl CB 10 rfl [.int .i64 3, .int .i64 1, .int .i64 1, .int .i64 1, .slice a2 n2 k2] _ (comp_row (HF2.out ())).2.2 (HU.out ()) rfl size38 ?_)
  have hfa : Fr (fun _ => False) wn1 (wn1.alloc (.cells (List.toArray [.int .i64 3, .int .i64 1, .int .i64 1, .int .i64 1, .slice a2 n2 k2]) 38)) := (Fr.refl _ wn1).alloc _
  have hnb := Blk.new wn1 [.int .i64 3, .int .i64 1, .int .i64 1, .int .i64 1, .slice a2 n2 k2] 38
  obtain ⟨CC, hCC⟩ : ∃ z, wn1.heap.size = z := ⟨_, rfl⟩
  simp only [hCC] at hnb ⊢
  obtain ⟨wa2, hwa⟩ : ∃ z, wn1.alloc (.cells #[.int .i64 3, .int .i64 1, .int .i64 1, .int .i64 1, .slice a2 n2 k2] 38) = z := ⟨_, rfl⟩
  simp only [hwa] at hfa hnb ⊢
  have HFA := hu ((HB2.out ()).trans hfa (fun _ _ e => e))
  have HFB := hu hfa
  have HNB := hu hnb
  clear hfa hnb hwa hCC
  go_upto_region 12 with (first | (refine wpList_insert_own (H := Unit) _ rfl _ _ _ 39 rfl 4 3 (bool_keyed u4b) u39 (plainElem Tryd.prog 3) wa2.heap.size 0 _ rfl (World.ownsMap_made wa2 _ _ _) (by unfold maxLen; omega) _ _ _ rfl rfl (keyOf_bool_mk u4b true) _ [] (plainElem_int u3i (by decide)) ?_; intro w1 hown1 hgrow1) | (refine wpList_insert_own (H := Unit) _ rfl _ _ _ 39 rfl 4 3 (bool_keyed u4b) u39 (plainElem Tryd.prog 3) wa2.heap.size 1 _ rfl hown1 (by unfold maxLen; omega) _ _ _ rfl rfl (keyOf_bool_mk u4b false) _ [] (plainElem_int u3i (by decide)) ?_; intro w2 hown2 hgrow2) | (refine wpList_lookup_own_int (H := Unit) _ rfl _ _ 39 rfl 4 3 .i64 (bool_keyed u4b) u39 u3i (zeroE3 _) wa2.heap.size 2 _ rfl hown2 _ _ rfl (keyOf_bool_mk u4b false) ?_; intro c hat hwc))
  obtain rfl := at_false hat
  have hf2 : Fr (fun _ => False) wa2 w2 := (((Fr.refl (fun _ => False) wa2).alloc (.map #[] 0)).grown hgrow1 (fun g hg e => by injection e with e; omega)).grown hgrow2 (fun g hg e => by injection e with e; omega)
  have q1 := (hf2.blk (HNB.out ()) (fun e => e)).cellv 1 rfl
  have q2 := (hf2.blk (HNB.out ()) (fun e => e)).cellv 2 rfl
  have HF3 := hu (((HF2.out ()).frame (HFB.out ()) (fun e => e) (fun e => e)).frame hf2 (fun e => e) (fun e => e))
  have HB3 := hu ((HFA.out ()).trans hf2 (fun _ _ e => e))
  clear hf2 hat hwc hown1 hown2 hgrow1 hgrow2 HFA HFB HNB HF2 HB2 w1
  obtain ⟨wn2, hwn⟩ : ∃ z, z = w2 := ⟨_, rfl⟩
  subst hwn
  go_wp2
  clear q1 q2
  rw [rounds_succ]
  go_wp2
  first | exact ex_frame (HB3.out ()) rfl | exact ⟨rfl, ex_frame (HB3.out ()) rfl⟩
end Go.Proofs.YtpophkigihfjoaaDoor

/- The walk of FnEncodesBaseline. -/
namespace Go.Proofs.YtpophkigihfjoaaDoor
open Go.RowKit Go.Great
set_option maxRecDepth 100000

/-- A slice of bytes that the call owns, opened; its capacity. -/
theorem own_cap {w : World} {v : Value} {xs : List Int} {base : Nat} (h : w.ownsRow base 5 1 v xs.length (xs.map B8)) (hx : 0 < xs.length) :
    ∃ g cap, v = .slice (some ⟨g, 0, none⟩) xs.length cap ∧ g < w.heap.size ∧ xs.length ≤ cap ∧ ∀ j, j < xs.length → w.cell? ⟨g, j, none⟩ = some (B8 (xs.getD j 0)) := by
  obtain ⟨g, cap, hv, _, hl, hc⟩ := own_open h hx
  refine ⟨g, cap, hv, hl, ?_, hc⟩
  rcases h.2 with ⟨_, h0⟩ | ⟨g', cap', cur, hv', _, _, hn, _⟩
  · omega
  · rw [hv] at hv'
    injection hv' with e1 e2 e3
    omega

/-- What the encoder writes, as the reader meets it. -/
structure FileOf (p : Par) (W H : Nat) (qs : List Int) (D : List Nat) (E pad : List Bool) (bs : List Int) : Prop where
  eq : bs = fileB (dqtBody qs) (sofBody W H) dhtBody scanB (stuff D)
  ql : qs.length = 128
  pt : ParT p
  byte : ∀ d ∈ D, d < 256
  bits : bitsOf D = E ++ pad
  coded : CodedN p 0 (6 * ((W + 15) / 16 * ((H + 15) / 16))) E []
  pl : pad.length ≤ 7
  ones : ∀ b ∈ pad, b = true
  len : bs.length ≤ 300000

theorem file_of (pix : List Int) (W H Q : Nat) (w1 : 1 ≤ W) (w2 : W ≤ 40) (h1 : 1 ≤ H) (h2 : H ≤ 40) (hb : ∀ i, 0 ≤ pix.getD i 0 ∧ pix.getD i 0 ≤ 255) : ∃ p qs D E pad, FileOf p W H qs D E pad (jpegP pix W H Q) := by
  have ok := parOf_ok pix W H Q w1 w2 h1 h2 hb
  obtain ⟨D, hD, hbyte, E, pad, hE, hc, hpl, hpt⟩ := sosP_coded (parOf pix W H Q) ok (headBytes W H Q)
  have hlen := sosP_length (parOf pix W H Q) ok ⟨headBytes W H Q, 0, 0⟩ (by show 0 < 2 ^ 0; decide) (by show 0 ≤ 7; omega)
  have hh := headBytes_length W H Q
  have e : jpegP pix W H Q = (sosP (parOf pix W H Q) ⟨headBytes W H Q, 0, 0⟩).c ++ [255, 217] := rfl
  refine ⟨parOf pix W H Q, qTo Q 128, D, E, pad, ⟨?_, qTo_length Q 128, ⟨rfl, rfl, rfl, rfl⟩, hbyte, hE, hc, hpl, hpt, ?_⟩⟩
  · rw [e, hD, ← headBytes_file]
    rfl
  · rw [e, List.length_append]
    have : (⟨headBytes W H Q, 0, 0⟩ : BS).c.length = (headBytes W H Q).length := rfl
    rw [this, hh] at hlen
    have : ([255, 217] : List Int).length = 2 := rfl
    omega

set_option maxHeartbeats 400000 in
theorem lawB_big {w : World} {a : Option Addr} {x y z : Int} {L C : Nat} (hL : 2147483647 < L) : Calls Tryd.prog 4 #[.int .i64 x, .int .i64 y, .int .i64 z, .slice a L C] w (LawPost w) := by
  have d1 : decide (2147483647 < (L : Int)) = true := by simp; omega
  go_enter Tryd.func4, Tryd.ntmps4
  go_wp2
  go_ret
  exact ⟨rfl, Fr.refl _ _⟩

set_option maxHeartbeats 2000000 in
theorem lawB_small {w : World} {a : Option Addr} {x y z : Int} {L C : Nat} (hT : Tabs w) (hN : NumsIn w a L) (hL : L ≤ 2147483647) : Calls Tryd.prog 4 #[.int .i64 x, .int .i64 y, .int .i64 z, .slice a L C] w (LawPost w) := by
  have d1 : decide (2147483647 < (L : Int)) = false := by simp; omega
  have HT := hu hT
  have HN := hu (NumsW.mk hN.cell hN.blk hL)
  clear hT hN hL
  go_enter Tryd.func4, Tryd.ntmps4
  go_wp2_with fail
  refine (meas_any w x y z).mono ?_
  rintro e w1 ⟨W, H, Q, rfl, rfl, w1, w2, h1, h2, q1, q2⟩
  go_wp2_with fail
  refine (pixels_any (C := C) (HN.out ()) w1 w2 h1 h2).mono ?_
  rintro e wp ⟨v, rfl, pix, hl, hb, hown, hf⟩
  rw [← hl] at hown
  obtain ⟨g, cap, rfl, hg1, hg2, hgc⟩ := own_open hown (by rw [hl]; exact Nat.mul_pos (by omega) h1)
  have HP := hu (PixW.mk (w := wp) (g := g) (n := 4 * W * H) hl (fun j hj => hgc j (by rw [hl]; exact hj)) hg2 hb)
  have HTp := hu ((HT.out ()).frame hf (fun _ _ e => e))
  have HF := hu hf
  have hbx := hb
  rw [hl]
  clear hl hb hown hf hgc
  go_wp2_with fail
  refine (imp_any (q := Q) (Q := Q) (C := cap) (HTp.out ()) (HP.out ()) w1 w2 h1 h2 (.inr ⟨rfl, q1, q2⟩)).mono ?_
  rintro e wq ⟨v1, rfl, o1, _, f1⟩
  obtain ⟨g1, cap1, rfl, hg1lt, hcap, hc1⟩ := own_cap o1 (jpegP_pos _ _ _ _)
  obtain ⟨p, qs, D, E, pad, hfo⟩ := file_of pix W H Q w1 w2 h1 h2 hbx
  obtain ⟨bs, hbs⟩ : ∃ z, jpegP pix W H Q = z := ⟨_, rfl⟩
  simp only [hbs] at hcap hc1 hfo ⊢
  have hlen := hfo.len
  have heq := hfo.eq
  subst heq
  have hbody : BodyW wq g1 0 (fileB (dqtBody qs) (sofBody W H) dhtBody scanB (stuff D)) := ⟨fun j hj => by rw [Nat.zero_add]; exact hc1 j hj, hg1lt⟩
  have hL : FileL (dqtBody qs) (sofBody W H) dhtBody scanB := ⟨dqtBody_length hfo.ql, rfl, dhtBody_length, rfl⟩
  have hN := (file_length (st := stuff D) hL).symm
  obtain ⟨N, hNe⟩ : ∃ N, (fileB (dqtBody qs) (sofBody W H) dhtBody scanB (stuff D)).length = N := ⟨_, rfl⟩
  rw [hNe] at hcap hlen hN
  have HBD := hu hbody
  have HFO := hu hfo
  have HNN := hu (And.intro hN (And.intro hlen hcap))
  have HF1 := hu ((HF.out ()).trans f1 (fun _ _ e => e))
  have HD := hu (And.intro (And.intro w1 w2) (And.intro h1 h2))
  rw [hNe]
  clear hlen hbody hL hN hcap hc1 hfo f1 o1 hbs hbx hNe HP HTp HF w1 w2 h1 h2 q1 q2
  go_wp2_with fail
  refine (read_any (C := cap1) (HBD.out ()) (HFO.out ()).ql (HNN.out ()).1 (HNN.out ()).2.1 (HNN.out ()).2.2 (HD.out ()).1.1 (HD.out ()).1.2 (HD.out ()).2.1 (HD.out ()).2.2 (HFO.out ()).pt (HFO.out ()).byte (HFO.out ()).bits (HFO.out ()).coded (HFO.out ()).pl (HFO.out ()).ones).mono ?_
  rintro e wr ⟨TB, CB, v0, v1, v2, rfl, hfr, hsl, hf2⟩
  have c0 := hfr.c0
  have c1 := hfr.c1
  obtain ⟨cp, c2⟩ := hfr.c2
  have HFR := hu hfr
  have HSL := hu hsl
  have HF2 := hu ((HF1.out ()).trans hf2 (fun _ _ e => e))
  clear hfr hsl hf2 HBD HFO HNN HF1
  go_upto_block 0 with (fail)
  refine wp_mono (c := lb0) (lb_loop (HFR.out ()) (HSL.out ())) ?_
  rintro e a' ws ⟨rfl, f, rfl, hf3⟩
  have HF3 := hu ((HF2.out ()).trans hf3 (fun _ _ e => e))
  clear c0 c1 c2 HFR HSL HF2 hf3
  go_wp2
  go_ret
  exact ⟨rfl, HF3.out ()⟩
end Go.Proofs.YtpophkigihfjoaaDoor

/- FnEncodesBaseline, for every input: what is encoded is a baseline stream with one scan and three components, the second and the third with halves in both directions, all codes by the standard. The row, and its tied card. -/
namespace Go.Proofs.YtpophkigihfjoaaDoor
open Go.ChangeShapes Go.WideShapes Go.ChangeAt Go.RowKit
set_option maxRecDepth 100000

theorem lawB_any {w : World} {a : Option Addr} {x y z : Int} {L C : Nat} (hT : Tabs w) (hN : NumsIn w a L) : Calls Tryd.prog 4 #[.int .i64 x, .int .i64 y, .int .i64 z, .slice a L C] w (LawPost w) := by
  by_cases h : L ≤ 2147483647
  · exact lawB_small hT hN h
  · exact lawB_big (by omega)

theorem lawB_lifted (os : Os) (started : os.Started) (H : Type) (enc : TypeId × Value → H) :
    ReturnsInHanded {} Tryd.checked os 4 .any (fun w args => (Rows.fnEncodesBaselineSpec.pre enc Tryd.prog Tryd.f4 [] false w args ∧ laidMetH Tryd.prog laid3 w) ∧ sizedMet enc Tryd.prog Tryd.f4 (OpenSpec.ofChange Rows.fnEncodesBaselineSpec) false w args)
      (Rows.fnEncodesBaselineSpec.post enc Tryd.prog Tryd.f4 false true false false) := by
  refine returnsInHanded_of_change_and (C := Tryd.checked) (X := fun w _ => laidMetH Tryd.prog laid3 w) (fun _ _ _ hh h => h.of_heap hh) own started (by kernel_rfl) Tryd.func4
    (ChangeSpec.witness_shaped (enc := enc) (C := Tryd.checked) (os := os) (X := fun w _ => laidMetH Tryd.prog laid3 w) false (World.laidAll Tryd.prog os laid3) #[.int .i64 0, .int .i64 0, .int .i64 0, .slice none 0 0] 8 (World.laidAll_os _ _ _)
      (World.shaped_of_ZipB (by kernel_rfl) (by kernel_rfl)) (by kernel_rfl) (by kernel_rfl) (by kernel_rfl)
      (by rw [MakeChecks.laidMetH_plain _ _ _ (by kernel_rfl)]; exact laidMet_laidAll _ (by kernel_rfl) (by kernel_rfl))) ?_
  intro W base args ds gs before hval0 hW hc _ hL _
  have hval : ∀ (j : Nat) t v, Tryd.f4.params[j]? = some t → args[j]? = some v → Value.okWide Tryd.prog W .any base t v := hval0
  have hW' := hW
  obtain ⟨p, q, hA0, hV, rfl, _, _⟩ := hW
  have hA : DataW.TrodAll enc Tryd.prog W 0 (fun _ => true) true Tryd.f4.params.toList args.toList ds p := hA0
  rw [Tryd.params4] at hA hval
  obtain ⟨rfl, rfl⟩ := trodVars_none hV
  obtain ⟨v0, v1, v2, v3, d0, d1, d2, d3, p0, p1, p2, p3, rfl, rfl, rfl, h0, h1, h2, h3⟩ := trodAll_four hA
  obtain ⟨x, rfl, rfl, rfl, wx⟩ := open_int Tryd.underlying3 (hval 0 3 v0 rfl rfl) h0
  obtain ⟨y, rfl, rfl, rfl, wy⟩ := open_int Tryd.underlying3 (hval 1 3 v1 rfl rfl) h1
  obtain ⟨z, rfl, rfl, rfl, wz⟩ := open_int Tryd.underlying3 (hval 2 3 v2 rfl rfl) h2
  have h3k := h3
  obtain ⟨fuel, hf⟩ := h3
  obtain ⟨a, L, C, rfl, hN⟩ := nums_of (okWide_slice Tryd.underlying22 (hval 3 22 v3 rfl rfl)) (fun _ => rfl) hf
  simp only [List.append_nil, List.nil_append] at hW'
  have hlt : ∀ x ∈ p3, x.block < W.heap.size := fun x hx => by simpa using hW'.lt x hx
  refine (lawB_any (C := C) (tabs_of_laid hL) hN).mono fun e W' ⟨he, hw⟩ => ?_
  subst he
  have hB : Below W.heap.size W W' := hw.below (Nat.le_refl _) (fun _ _ e => e)
  have hargs : DataW.Trod enc Tryd.prog W' 0 (fun b => decide (b < W.heap.size)) true 22 (.slice a L C) d3 p3 :=
    Below.trod laidOut (by kernel_rfl) (of_decide_eq_true (by kernel_rfl)) h3k hB hlt
  exact ⟨_, rfl, ⟨_, _, _, [], [] ++ ([] ++ ([] ++ p3)), [], hW', trodAll_mk1 (shut_bool Tryd.underlying4 _), trodAll_mk4 (shut_int Tryd.underlying3 wx) (shut_int Tryd.underlying3 wy) (shut_int Tryd.underlying3 wz) hargs, rfl, hB.frame _, fun h => by cases h⟩⟩

theorem fnEncodesBaseline_row : Rows.FnEncodesBaselineSaid :=
  OpenClaim.holds_of_wide 4 Tryd.f4 rfl rfl rfl rfl rfl rfl rfl ⟨rfl, rfl, rfl, rfl, rfl⟩ rfl rfl rfl rfl rfl (by kernel_rfl) Tryd.func4 (by kernel_rfl)
    (of_decide_eq_true (by kernel_rfl)) (by unfold Func.isWrapper; first | (rw [if_pos (by decide +kernel)]; kernel_rfl) | (rw [if_neg (by decide +kernel)]; exact ⟨rfl, rfl⟩))
    (fun os started H enc _ => lawB_lifted os started H enc)

/-- THE TIED CARD OF FnEncodesBaseline. -/
theorem fnEncodesBaseline_holds : Rows.FnEncodesBaselineCardSaid :=
  Claim7.holds_tied_plain_at .later [] [.data, .data, .data] true (true, "d88b9d58bbb3bdb0043bb186411395ba43b6aeb2a12ee603779a538f24325d86") true
    fnEncodesBaseline_row (fun _ h => by cases h) (by kernel_rfl) (fun _ h => by cases h) fnEncodesBaseline_row_tie rfl ⟨rfl, rfl⟩ (by kernel_rfl) rfl
    (fun f fn hf hfn => by
      obtain rfl : f = 4 := Option.some.inj ((show Tryd.prog.funcNamed "jpegstreams/laws.FnEncodesBaseline" = some 4 by kernel_rfl).symm.trans hf) |>.symm
      obtain rfl : fn = Tryd.f4 := (Option.some.inj (Tryd.func4.symm.trans hfn)).symm
      exact ⟨by kernel_rfl, fun j t ht => by
        rw [Tryd.params4] at ht
        have hm : t ∈ [3, 3, 3, 22] := by simpa using Array.mem_of_getElem? ht
        have hall : ([3, 3, 3, 22].all fun u => !Tryd.prog.wantsStandIn u) = true := by kernel_rfl
        exact (show Tryd.prog.wantsStandIn t = false by simpa using List.all_eq_true.1 hall t hm)⟩)
    (by kernel_rfl)
#print axioms fnEncodesBaseline_holds
end Go.Proofs.YtpophkigihfjoaaDoor
