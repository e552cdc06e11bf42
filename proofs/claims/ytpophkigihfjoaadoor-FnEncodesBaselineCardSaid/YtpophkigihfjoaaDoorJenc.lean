/- The walk of jpeg.Encode. -/
import Derived.Test.YtpophkigihfjoaaDoorJpeg
import Derived.Test.YtpophkigihfjoaaDoorSosP
import Derived.Stop.Asserts
namespace Go.Proofs.YtpophkigihfjoaaDoor
open Go.RowKit Go.Great
set_option maxRecDepth 100000

theorem ta_w89 (a : Addr) (w : World) : (Instr.typeAssert (.iface 53 (.pointer (some a))) 83 89 true).run Tryd.prog w = .ok (.tuple #[.nilIface, .bool false]) w := run_typeAssert_lacksB Tryd.underlying89 (by kernel_rfl) (by kernel_rfl) _ 83 w

/-- What Encode has in memory once its encoder stands. -/
structure JS (w : World) (I : Ids) (BD WW W H : Nat) (wx : World) : Prop where
  enc : EncW wx I (.slice none 0 0) [] 0 0 (List.replicate 16 0) (List.replicate 128 0)
  lut : LutW wx I (.slice none 0 0) lutL0 lutL1 lutL2 lutL3
  rect : Blk wx BD [.int .i64 0, .int .i64 0, .int .i64 W, .int .i64 H] 46
  fr : Fr (fun _ => False) w wx
  ww : I.WW = WW
  e : w.heap.size ≤ I.E
  bw : w.heap.size ≤ I.BW
  bf : w.heap.size ≤ I.BF
  bd : w.heap.size ≤ BD
  ebd : BD < I.E
  ew : I.E < I.BW ∧ I.E < I.BF
  el : I.E < I.L0 ∧ I.E < I.L1 ∧ I.E < I.L2 ∧ I.E < I.L3

theorem zero98 : (Tryd.zeroCells98).toList = [.nilIface, .nilIface] ++ ((List.replicate 16 (0 : Int)).map B8 ++ ([W32 (0 * 2 ^ (32 - 0)), W32 0] ++ ((List.replicate 128 (0 : Int)).map B8 ++ [.slice none 0 0, .slice none 0 0, .slice none 0 0, .slice none 0 0]))) := by kernel_rfl

/-- What the options say: none (75), or a quality. -/
def OptW (w : World) (o : Value) (Q : Nat) : Prop := (o = .pointer none ∧ Q = 75) ∨ ∃ OB, o = .pointer (some ⟨OB, 0, none⟩) ∧ Blk w OB [.int .i64 Q] 52

/-- What Encode leaves. -/
def JPost (w : World) (WW W H Q : Nat) (pix : List Int) (e : Ending) (w' : World) : Prop :=
  e = .returned .nilIface ∧ ∃ v', Blk w' WW [v'] 55 ∧ w'.ownsRow 0 5 1 v' (jpegP pix W H Q).length ((jpegP pix W H Q).map B8) ∧ (∀ k, v'.ownBlock = some k → w.heap.size ≤ k) ∧ Fr (· = WW) w w'

/-- The encoder's cells behind the first stores. -/
def encPre (E b0 b1 b2 b3 : Nat) : List Value := ((((([.nilIface, .nilIface] : List Value) ++ ((List.replicate 16 (0 : Int)).map B8 ++ ([W32 (0 * 2 ^ (32 - 0)), W32 0] ++ ((List.replicate 128 (0 : Int)).map B8 ++ [Value.slice none 0 0, Value.slice none 0 0, Value.slice none 0 0, Value.slice none 0 0])))).set 148 (Value.slice (some ⟨b0, 0, none⟩) 12 12)).set 149 (Value.slice (some ⟨b1, 0, none⟩) 251 251)).set 150 (Value.slice (some ⟨b2, 0, none⟩) 12 12)).set 151 (Value.slice (some ⟨b3, 0, none⟩) 251 251)

theorem encPre_set (E BF WW b0 b1 b2 b3 : Nat) : (encPre E b0 b1 b2 b3).set 0 (.iface 101 (.pointer (some ⟨BF + 1, 0, none⟩))) = encCells ⟨E, BF + 1, BF, WW, b0, b1, b2, b3⟩ 0 0 (List.replicate 16 0) (List.replicate 128 0) := rfl

theorem js_start {w wc we : World} {E BF BD WW W H b0 b1 b2 b3 z : Nat} (hs : Blk w WW [.slice none 0 0] 55) (F : Fr (fun _ => False) w wc) (hE : Blk we E (encPre E b0 b1 b2 b3) 98) (hFd : Fr (· = E) wc we)
    (hh : Blk we (BF + 1) [.nilIface, .slice (some ⟨BF, 0, none⟩) 4096 4096, .int .i64 0, .iface 53 (.pointer (some ⟨WW, 0, none⟩))] 162) (hb : ∃ buf : List Int, buf.length = 4096 ∧ Blk we BF (buf.map B8) 5)
    (hl : z ≤ b0 ∧ z ≤ b1 ∧ z ≤ b2 ∧ z ≤ b3) (k0 : Blk wc b0 ((lutOut cnt0 val0 11 16).map W32) 91) (k1 : Blk wc b1 ((lutOut cnt1 val1 250 16).map W32) 91) (k2 : Blk wc b2 ((lutOut cnt2 val2 11 16).map W32) 91) (k3 : Blk wc b3 ((lutOut cnt3 val3 250 16).map W32) 91)
    (hD : Blk wc BD [.int .i64 0, .int .i64 0, .int .i64 W, .int .i64 H] 46) (hbd : BD = w.heap.size + 1) (hsa : E = w.heap.size + 4) (hz : z = E + 1) (hsc : z ≤ wc.heap.size) (hsd : BF = wc.heap.size) :
    JS w ⟨E, BF + 1, BF, WW, b0, b1, b2, b3⟩ BD WW W H (we.setCell ⟨E, 0, none⟩ (.iface 101 (.pointer (some ⟨BF + 1, 0, none⟩)))) := by
  obtain ⟨l0, l1, l2, l3⟩ := hl
  obtain ⟨buf, hbl, hb⟩ := hb
  have m0 := k0.lt
  have m1 := k1.lt
  have m2 := k2.lt
  have m3 := k3.lt
  have mw := hs.lt
  have fw := F.size
  have mh := hh.lt
  have ns : ∀ {b : Nat} {cs : List Value} {t : TypeId}, Blk wc b cs t → b ≠ E → Blk (we.setCell ⟨E, 0, none⟩ (.iface 101 (.pointer (some ⟨BF + 1, 0, none⟩)))) b cs t := fun hb hne => (hFd.blk hb hne).setOther hne _
  have ws : Blk (we.setCell ⟨E, 0, none⟩ (.iface 101 (.pointer (some ⟨BF + 1, 0, none⟩)))) WW [.slice none 0 0] 55 := ns (F.blk hs (fun e => e)) (by omega)
  have hout : ∀ {n : Nat}, n ≠ E → n ≠ BF + 1 → n ≠ BF → n ≠ WW → ¬ OutE ⟨E, BF + 1, BF, WW, b0, b1, b2, b3⟩ (.slice none 0 0) n := by
    intro n h1 h2 h3 h4
    rintro (e | e | e | e | e)
    · exact h1 e
    · exact h2 e
    · exact h3 e
    · exact h4 e
    · cases e
  have hsz : (we.setCell ⟨E, 0, none⟩ (.iface 101 (.pointer (some ⟨BF + 1, 0, none⟩)))).heap.size = we.heap.size := by simp
  refine ⟨⟨?_, by simp, by simp, ⟨[], buf, 0, ⟨hh.setOther (by show BF + 1 ≠ E; omega) _, hb.setOther (by show BF ≠ E; omega) _, hbl, by omega, ws, ?_, ?_, ?_, ?_, ?_, ?_, ?_, ?_⟩, rfl, .inl rfl⟩, ?_⟩,
    ⟨ns k0 (by show b0 ≠ E; omega), ns k1 (by show b1 ≠ E; omega), ns k2 (by show b2 ≠ E; omega), ns k3 (by show b3 ≠ E; omega), ⟨?_, ?_⟩, ⟨?_, ?_⟩, ⟨?_, ?_⟩, ⟨?_, ?_⟩⟩, ns hD (by omega), ?_, rfl, ?_, ?_, ?_, ?_, ?_, ⟨?_, ?_⟩, ⟨?_, ?_, ?_, ?_⟩⟩
  · have := hE.set 0 (.iface 101 (.pointer (some ⟨BF + 1, 0, none⟩)))
    rw [encPre_set E BF WW b0 b1 b2 b3] at this
    exact this
  · exact ⟨rfl, .inl ⟨rfl, rfl⟩⟩
  · show BF + 1 ≠ BF; omega
  · show BF + 1 ≠ WW; omega
  · show BF ≠ WW; omega
  · intro e; cases e
  · intro e; cases e
  · intro e; cases e
  · exact Nat.zero_le _
  · rintro (e | e | e | e)
    · have : E = BF + 1 := e; omega
    · have : E = BF := e; omega
    · have : E = WW := e; omega
    · cases e
  · show b0 < _; rw [hsz]; omega
  · exact hout (by show b0 ≠ E; omega) (by show b0 ≠ _; omega) (by show b0 ≠ _; omega) (by show b0 ≠ _; omega)
  · show b1 < _; rw [hsz]; omega
  · exact hout (by show b1 ≠ E; omega) (by show b1 ≠ _; omega) (by show b1 ≠ _; omega) (by show b1 ≠ _; omega)
  · show b2 < _; rw [hsz]; omega
  · exact hout (by show b2 ≠ E; omega) (by show b2 ≠ _; omega) (by show b2 ≠ _; omega) (by show b2 ≠ _; omega)
  · show b3 < _; rw [hsz]; omega
  · exact hout (by show b3 ≠ E; omega) (by show b3 ≠ _; omega) (by show b3 ≠ _; omega) (by show b3 ≠ _; omega)
  · exact (F.trans hFd (fun k hk e => by omega)).setCell (a := ⟨E, 0, none⟩) (fun hk => by have : E < w.heap.size := hk; omega) _
  · show _ ≤ E; omega
  · show _ ≤ BF + 1; omega
  · show _ ≤ BF; omega
  · omega
  · show BD < E; omega
  · show E < BF + 1; omega
  · show E < BF; omega
  · show E < b0; omega
  · show E < b1; omega
  · show E < b2; omega
  · show E < b3; omega

/-- Between two numbers of the quantization tables. -/
def QRel (w0 : World) (I : Ids) (Q n : Nat) (wr : World) : Prop := Blk wr I.E (encCells I 0 0 (List.replicate 16 0) (qTo Q n)) 98 ∧ Fr (· = I.E) w0 wr

theorem encCells_setQ (I : Ids) (A nb : Nat) (sc q : List Int) (hs : sc.length = 16) (hq : q.length = 128) (i a : Nat) (hi : i < 128) (ha : a = 20 + i) (b : Int) : (encCells I A nb sc q).set a (B8 b) = encCells I A nb sc (q.set i b) := by
  subst ha
  unfold encCells
  rw [List.set_append, if_neg (by simp; omega), List.set_append, if_neg (by simp; omega), List.set_append, if_neg (by simp [hs]; omega), List.set_append, if_pos (by simp [hs, hq]; omega)]
  simp only [List.length_cons, List.length_nil, List.length_map, hs]
  rw [show 20 + i - (0 + 1 + 1) - 16 - (0 + 1 + 1) = i from by omega, List.map_set]

theorem QRel.step {w0 wr : World} {I : Ids} {Q n : Nat} (h : QRel w0 I Q n wr) (hn : n < 128) (a : Nat) (ha : a = 20 + n) (b : Int) (hb : b = qAt Q n) : QRel w0 I Q (n + 1) (wr.setCell ⟨I.E, a, none⟩ (.int .u8 b)) := by
  refine ⟨?_, h.2.setCell (a := ⟨I.E, a, none⟩) (fun _ => rfl) _⟩
  have := h.1.set a (B8 b)
  rw [encCells_setQ I 0 0 _ _ (by simp) (qTo_length Q n) n a hn ha, hb] at this
  rw [hb]
  exact this

theorem QRel.cell {w0 wr : World} {I : Ids} {Q n : Nat} (h : QRel w0 I Q n wr) (i a : Nat) (hi : i < 128) (ha : a = 20 + i) : ∃ z, wr.cell? ⟨I.E, a, none⟩ = some z := by
  have hl : (encCells I 0 0 (List.replicate 16 0) (qTo Q n)).length = 152 := by simp [encCells, qTo_length]
  rw [h.1.cell]
  exact ⟨_, List.getElem?_eq_getElem (by rw [hl]; omega)⟩

/-- What Encode has in memory when it begins to write. -/
structure JB (w : World) (I : Ids) (BD WW W H IB PX : Nat) (p : Par) (w1 : World) : Prop where
  enc : EncW w1 I (.slice none 0 0) [] 0 0 (List.replicate 16 0) p.q
  lut : LutW w1 I (.slice none 0 0) p.l0 p.l1 p.l2 p.l3
  gl : GlobW w1
  a1 : Apart w1 I (.slice none 0 0) 1
  a2 : Apart w1 I (.slice none 0 0) 2
  img : ImgW w1 IB PX p.wide p.high p.pix
  ai : Apart w1 I (.slice none 0 0) IB
  ap : Apart w1 I (.slice none 0 0) PX
  rect : Blk w1 BD [.int .i64 0, .int .i64 0, .int .i64 W, .int .i64 H] 46
  ad : Apart w1 I (.slice none 0 0) BD
  fr : Fr (fun _ => False) w w1
  ww : I.WW = WW
  e : w.heap.size ≤ I.E
  bw : w.heap.size ≤ I.BW
  bf : w.heap.size ≤ I.BF

theorem GlobW.lt2 {w : World} (h : GlobW w) : 2 < w.heap.size := by
  have := h.bc 0 (by omega)
  apply Classical.byContradiction
  intro hn
  have e : w.heap[2]? = none := Array.getElem?_eq_none (by omega)
  rw [World.cell?] at this
  simp [e] at this

/-- The parameters, part by part. -/
structure ParIs (p : Par) (pix : List Int) (W H Q : Nat) : Prop where
  px : pix = p.pix
  wd : W = p.wide
  hg : H = p.high
  q : qTo Q 128 = p.q
  l0 : lutL0 = p.l0
  l1 : lutL1 = p.l1
  l2 : lutL2 = p.l2
  l3 : lutL3 = p.l3

theorem parIs (pix : List Int) (W H Q : Nat) : ParIs (parOf pix W H Q) pix W H Q := by
  constructor <;> simp only [parOf]

theorem jb_of {w w0 w1 : World} {p : Par} {I : Ids} {BD WW W H Q IB PX : Nat} {pix : List Int} (hP : ParIs p pix W H Q) (h : JS w I BD WW W H w0) (hq : QRel w0 I Q 128 w1) (hg : GlobW w) (hi : ImgW w IB PX W H pix) (hw3 : 3 ≤ WW) (hne1 : WW ≠ IB) (hne2 : WW ≠ PX) (hs : WW < w.heap.size) :
    JB w I BD WW W H IB PX p w1 := by
  obtain ⟨hb, hf⟩ := hq
  have hlut := h.lut
  have hqt := qTo_length Q 128
  rw [hP.q] at hb hqt
  rw [hP.l0, hP.l1, hP.l2, hP.l3] at hlut
  have hi2 := hi
  rw [hP.px, hP.wd, hP.hg] at hi2
  have hF : Fr (fun _ => False) w w1 := h.fr.trans hf (fun k hk e => by have := h.e; omega)
  have n0 : ¬ False := fun e => e
  have lt2 := hg.lt2
  have li := hi.head.lt
  have lp := hi.body.lt
  have hz := hF.size
  have hz0 := h.fr.size
  have he := h.e
  have hbw := h.bw
  have hbf := h.bf
  have hww := h.ww
  have hebd := h.ebd
  obtain ⟨ew1, ew2⟩ := h.ew
  have lD := h.rect.lt
  have lD1 := hf.size
  have out : ∀ n, n < w1.heap.size → n ≠ I.E → n ≠ I.BW → n ≠ I.BF → n ≠ WW → Apart w1 I (.slice none 0 0) n := by
    intro n hn h1 h2 h3 h4
    refine ⟨hn, ?_⟩
    rintro (e | e | e | e | e)
    · exact h1 e
    · exact h2 e
    · exact h3 e
    · rw [hww] at e; exact h4 e
    · cases e
  have adv : ∀ n, Apart w0 I (.slice none 0 0) n → Apart w1 I (.slice none 0 0) n := fun n hn => hn.frame hf
  obtain ⟨el0, el1, el2, el3⟩ := h.el
  obtain ⟨xs, buf, n, hB, hc, hx⟩ := h.enc.took
  refine ⟨⟨hb, by simp, hqt, ⟨xs, buf, n, hB.frame hf (fun k hk e => h.enc.ap (e ▸ hk)), hc, hx⟩, h.enc.ap⟩,
    ⟨hf.blk hlut.b0 (by omega), hf.blk hlut.b1 (by omega), hf.blk hlut.b2 (by omega), hf.blk hlut.b3 (by omega), adv _ hlut.a0, adv _ hlut.a1, adv _ hlut.a2, adv _ hlut.a3⟩,
    ⟨fun i hi => ?_, fun i hi => ?_⟩, out 1 (by omega) (by omega) (by omega) (by omega) (by omega), out 2 (by omega) (by omega) (by omega) (by omega) (by omega), hi2.frame hF n0 n0,
    out IB (by omega) (by omega) (by omega) (by omega) (by omega), out PX (by omega) (by omega) (by omega) (by omega) (by omega), hf.blk h.rect (by omega), ?_, hF, h.ww, h.e, h.bw, h.bf⟩
  · rw [World.cell?_of_block (a := ⟨1, i, none⟩) (hF.block 1 (by omega) n0)]; exact hg.uz i hi
  · rw [World.cell?_of_block (a := ⟨2, i, none⟩) (hF.block 2 (by omega) n0)]; exact hg.bc i hi
  · have := h.bd
    exact out BD (by omega) (by omega) (by omega) (by omega) (by omega)

theorem sos_b {w w1 wz : World} {I : Ids} {BD WW W H IB PX : Nat} {p : Par} {c sc : List Int} {v : Value} (b6 : JB w I BD WW W H IB PX p w1) (hp : p.Ok) (g6 : EncW wz I v c 0 0 sc p.q) (a6 : AdvE I (.slice none 0 0) v w1 wz) (hc : c.length ≤ 4000) :
    Calls Tryd.prog 30 #[.pointer (some ⟨I.E, 0, none⟩), .iface 41 (.pointer (some ⟨IB, 0, none⟩))] wz fun e w' => e = .returned (.tuple #[]) ∧
      ∃ v', EncS w' I v' (sosP p ⟨c, 0, 0⟩) sc p.q ∧ AdvE I v v' wz w' :=
  sos_any dctLaw (s := ⟨c, 0, 0⟩) (p := p) (IB := IB) (PX := PX) ⟨g6, by simp, by simp⟩ (b6.lut.adv a6)
            ⟨fun i hi => (a6.cell b6.a1 i).trans (b6.gl.uz i hi), fun i hi => (a6.cell b6.a2 i).trans (b6.gl.bc i hi)⟩ (b6.a1.adv a6) (b6.a2.adv a6)
            ⟨a6.blk b6.img.head b6.ai, a6.blk b6.img.body b6.ap, b6.img.len, b6.img.byte⟩ (b6.ai.adv a6) (b6.ap.adv a6) hp hc rfl rfl

set_option maxHeartbeats 8000000 in
theorem jenc_any {w : World} {WW IB PX W H Q : Nat} {pix : List Int} {o : Value} (hs : Blk w WW [.slice none 0 0] 55) (hi : ImgW w IB PX W H pix) (w1 : 1 ≤ W) (w2 : W ≤ 40) (h1 : 1 ≤ H) (h2 : H ≤ 40)
    (hq1 : 1 ≤ Q) (hq2 : Q ≤ 100) (ho : OptW w o Q) (hg : GlobW w) (hu0 : ∀ i, i < 128 → w.cell? ⟨0, i, none⟩ = some (B8 (uqL.getD i 0))) (hw3 : 3 ≤ WW) (hne1 : WW ≠ IB) (hne2 : WW ≠ PX) :
    Calls Tryd.prog 11 #[.iface 53 (.pointer (some ⟨WW, 0, none⟩)), .iface 41 (.pointer (some ⟨IB, 0, none⟩)), o] w (JPost w WW W H Q pix) := by
  have i2 := hi.head.cellv 2 rfl
  have i3 := hi.head.cellv 3 rfl
  have i4 := hi.head.cellv 4 rfl
  have i5 := hi.head.cellv 5 rfl
  have li := hi.head.lt
  have ht := ta_w89
  have hm := meth_bounds
  have HI := hu hi
  have HO := hu ho
  have HG := hu hg
  have HU := hu hu0
  have HN := hu (And.intro hw3 (And.intro hne1 hne2))
  have HS := hu hs
  have g1 : decide (65536 ≤ (W : Int)) = false := by simp; omega
  have g2 : decide (65536 ≤ (H : Int)) = false := by simp; omega
  clear hi hs ho hg hu0 hw3 hne1 hne2
  go_enter Tryd.func11, Tryd.ntmps11
  go_wp2_with fail
  refine (bounds_any i2 i3 i4 i5 li).mono ?_
  rintro e w3 ⟨rfl, rfl⟩
  go_wp2_with fail
  refine (dx_any _ W H (by omega) (by omega)).mono ?_
  rintro e w3 ⟨rfl, rfl⟩
  go_wp2_with fail
  refine (dy_any _ W H (by omega) (by omega)).mono ?_
  rintro e w3 ⟨rfl, rfl⟩
  go_upto_region 4 with (fail)
  clear g1 g2 hm i2 i3 i4 i5
  have bD := ((Blk.new (w.alloc (.cells #[.int .i64 0, .int .i64 0, .int .i64 W, .int .i64 H] 46)) [.int .i64 0, .int .i64 0, .int .i64 W, .int .i64 H] 46).alloc (.cells #[.int .i64 0, .int .i64 0, .int .i64 W, .int .i64 H] 46)).alloc (.cells #[.int .i64 0, .int .i64 0, .int .i64 W, .int .i64 H] 46)
  have fa := ((((Fr.refl (fun _ => False) w).alloc (.cells #[.int .i64 0, .int .i64 0, .int .i64 W, .int .i64 H] 46)).alloc (.cells #[.int .i64 0, .int .i64 0, .int .i64 W, .int .i64 H] 46)).alloc (.cells #[.int .i64 0, .int .i64 0, .int .i64 W, .int .i64 H] 46)).alloc (.cells #[.int .i64 0, .int .i64 0, .int .i64 W, .int .i64 H] 46)
  obtain ⟨wa, hwa⟩ : ∃ z, (((w.alloc (.cells #[.int .i64 0, .int .i64 0, .int .i64 W, .int .i64 H] 46)).alloc (.cells #[.int .i64 0, .int .i64 0, .int .i64 W, .int .i64 H] 46)).alloc (.cells #[.int .i64 0, .int .i64 0, .int .i64 W, .int .i64 H] 46)).alloc (.cells #[.int .i64 0, .int .i64 0, .int .i64 W, .int .i64 H] 46) = z := ⟨_, rfl⟩
  have hsa : wa.heap.size = w.heap.size + 4 := by rw [← hwa]; simp
  simp only [World.size_alloc] at bD
  have bD' : Blk wa (w.heap.size + 1) [.int .i64 0, .int .i64 0, .int .i64 W, .int .i64 H] 46 := by rw [← hwa]; exact bD
  rw [hwa] at fa
  simp only [hwa]
  clear bD
  obtain ⟨BD, hBD⟩ : ∃ z, w.heap.size + 1 = z := ⟨_, rfl⟩
  rw [hBD] at bD'
  simp only [hBD]
  clear hwa
  rename_i K4
  apply wp_region_lit
  refine wpList_runTo rfl (some 8) rfl (.pointer (some ⟨wa.heap.size, 0, none⟩)) (wa.alloc (.cells Tryd.zeroCells98 98)) (by kernel_rfl) ?_
  apply wpList_nil
  refine K4 _ _ ?_
  clear K4
  have bE := Blk.newA wa Tryd.zeroCells98 98
  have fb := (Fr.refl (fun _ => False) wa).alloc (.cells Tryd.zeroCells98 98)
  obtain ⟨wb, hwb⟩ : ∃ z, wa.alloc (.cells Tryd.zeroCells98 98) = z := ⟨_, rfl⟩
  have hsb : wb.heap.size = wa.heap.size + 1 := by rw [← hwb]; simp
  rw [hwb] at bE fb
  simp only [hwb]
  clear hwb
  obtain ⟨E, hE⟩ : ∃ z, wa.heap.size = z := ⟨_, rfl⟩
  rw [hE] at bE hsa hsb
  simp only [hE]
  rw [zero98] at bE
  have hbd : BD = w.heap.size + 1 := by omega
  have Hbd := hu hbd
  have Hsa := hu hsa
  have Hsb := hu hsb
  clear hsa hsb hE hBD hbd
  go_wp2_with fail
  refine (newlut _).mono ?_
  rintro e wc ⟨b0, b1, b2, b3, rfl, l0, l1, l2, l3, k0, k1, k2, k3, fc⟩
  have bE1 := fc.blk bE (fun e => e)
  have bD1 := fc.blk (fb.blk bD' (fun e => e)) (fun e => e)
  have HF := hu ((fa.trans fb (fun _ _ e => e)).trans fc (fun _ _ e => e))
  have HE := hu bE1
  have HD := hu bD1
  have HK0 := hu k0
  have HK1 := hu k1
  have HK2 := hu k2
  have HK3 := hu k3
  have HL := hu (And.intro l0 (And.intro l1 (And.intro l2 l3)))
  have Hsc := hu fc.size
  have c148 := bE1.cellv 148 rfl
  have c149 := bE1.cellv 149 rfl
  have c150 := bE1.cellv 150 rfl
  have c151 := bE1.cellv 151 rfl
  have z148 := bE1.frozen 148
  have z149 := bE1.frozen 149
  have z150 := bE1.frozen 150
  have z151 := bE1.frozen 151
  clear bE1 bD1 bE bD' fa fb fc k0 k1 k2 k3 l0 l1 l2 l3
  go_wp2_with fail
  refine (neww _ ⟨WW, 0, none⟩).mono ?_
  rintro e we ⟨rfl, hN⟩
  have bE2 := ((((HE.out ()).set 148 (.slice (some ⟨b0, 0, none⟩) 12 12)).set 149 (.slice (some ⟨b1, 0, none⟩) 251 251)).set 150 (.slice (some ⟨b2, 0, none⟩) 12 12)).set 151 (.slice (some ⟨b3, 0, none⟩) 251 251)
  have fE2 := ((((Fr.refl (fun k => k = E) wc).setCell (a := ⟨E, 148, none⟩) (fun _ => rfl) (.slice (some ⟨b0, 0, none⟩) 12 12)).setCell (a := ⟨E, 149, none⟩) (fun _ => rfl) (.slice (some ⟨b1, 0, none⟩) 251 251)).setCell (a := ⟨E, 150, none⟩) (fun _ => rfl) (.slice (some ⟨b2, 0, none⟩) 12 12)).setCell (a := ⟨E, 151, none⟩) (fun _ => rfl) (.slice (some ⟨b3, 0, none⟩) 251 251)
  obtain ⟨wd, hwd⟩ : ∃ z, (((wc.setCell ⟨E, 148, none⟩ (.slice (some ⟨b0, 0, none⟩) 12 12)).setCell ⟨E, 149, none⟩ (.slice (some ⟨b1, 0, none⟩) 251 251)).setCell ⟨E, 150, none⟩ (.slice (some ⟨b2, 0, none⟩) 12 12)).setCell ⟨E, 151, none⟩ (.slice (some ⟨b3, 0, none⟩) 251 251) = z := ⟨_, rfl⟩
  rw [hwd] at hN bE2 fE2
  have hsd : wd.heap.size = wc.heap.size := by rw [← hwd]; simp
  simp only [hwd]
  clear hwd
  obtain ⟨BF, hBF⟩ : ∃ z, wd.heap.size = z := ⟨_, rfl⟩
  obtain ⟨⟩ := hN
  rename_i nh nb nf
  rw [hBF] at nh nb hsd
  simp only [hBF]
  have bE3 := nf.blk bE2 (fun e => e)
  have cE0 := bE3.cellv 0 rfl
  have zE0 := bE3.frozen 0
  have HE3 := hu bE3
  have HFd := hu (fE2.trans nf (S' := fun _ => False) (fun _ _ e => e.elim))
  have HNH := hu nh
  have HNB := hu nb
  have Hsd := hu (And.intro hBF hsd)
  have HNF := hu nf
  clear bE2 bE3 fE2 nf nh nb hsd hBF c148 c149 c150 c151 z148 z149 z150 z151 HE ht
  go_upto_region 10 with (fail)
  have hJ := js_start (W := W) (H := H) (HS.out ()) (HF.out ()) (HE3.out ()) (HFd.out ()) (HNH.out ()) (HNB.out ()) (HL.out ()) (HK0.out ()) (HK1.out ()) (HK2.out ()) (HK3.out ()) (HD.out ()) (Hbd.out ()) (Hsa.out ()) (Hsb.out ()) (Hsc.out ()) (by have := Hsd.out (); omega)
  obtain ⟨w0, hw0⟩ : ∃ z, we.setCell ⟨E, 0, none⟩ (.iface 101 (.pointer (some ⟨BF + 1, 0, none⟩))) = z := ⟨_, rfl⟩
  rw [hw0] at hJ
  simp only [hw0]
  clear hw0 HF HE3 HFd HNH HNB HL HK0 HK1 HK2 HK3 HD Hbd Hsa Hsb Hsc Hsd HNF cE0 zE0
  have HJ := hu hJ
  clear hJ
  iterate 8 go_step
  go_cut [11] (fun q wx => q = .int .i64 Q ∧ wx = w0)
  case first =>
    rcases HO.out () with ⟨rfl, rfl⟩ | ⟨OB, rfl, hOB⟩
    · go_wp2
      go_meet
      exact ⟨rfl, rfl⟩
    · have cOB := ((HJ.out ()).fr.blk hOB (fun e => e)).cellv 0 rfl
      clear hOB
      have d1 : decide ((Q : Int) < 1) = false := by simp; omega
      have d2 : decide ((Q : Int) > 100) = false := by simp; omega
      go_wp2
      go_meet
      exact ⟨rfl, rfl⟩
  case rest =>
    obtain ⟨rfl, rfl⟩ := hcut
    go_step
    go_upto_region 17 with (fail)
    iterate 8 go_step
    go_cut [12] (fun q wx => q = .int .i64 (scaleQ Q) ∧ wx = wc)
    case first =>
      by_cases hQ : Q < 50
      · have e : scaleQ Q = 5000 / (Q : Int) := by unfold scaleQ; rw [if_pos hQ]
        have E1 := hu e
        clear e
        have d1 : decide ((Q : Int) < 50) = true := by simp; omega
        go_wp2
        go_meet
        exact ⟨by rw [E1.out ()], rfl⟩
      · have e : scaleQ Q = 200 - (Q : Int) * 2 := by unfold scaleQ; rw [if_neg hQ]
        have E1 := hu e
        clear e
        have d1 : decide ((Q : Int) < 50) = false := by simp; omega
        go_wp2
        go_meet
        exact ⟨by rw [E1.out ()], rfl⟩
    case rest =>
      obtain ⟨rfl, rfl⟩ := hcut
      go_step
      clear HO
      have hsb := scaleQ_bd Q hq1 hq2
      obtain ⟨sQ, hsQ⟩ : ∃ z, scaleQ Q = z := ⟨_, rfl⟩
      rw [hsQ] at hsb ⊢
      have HSQ := hu hsQ
      obtain ⟨hs1, hs2⟩ := hsb
      clear hsQ
      have HI0 : Hid (Unit → (⟨E, BF + 1, BF, WW, b0, b1, b2, b3⟩ : Ids).E = E) := hu rfl
      obtain ⟨I, hI⟩ : ∃ I : Ids, (⟨E, BF + 1, BF, WW, b0, b1, b2, b3⟩ : Ids) = I := ⟨_, rfl⟩
      rw [hI] at HJ HI0
      have hIE := HI0.out ()
      subst hIE
      clear hI HI0
      go_wp2
      go_loopw [59, 13, 62, 14, 15] (fun i _ _ _ _ wr => ∃ k : Nat, k ≤ 2 ∧ i = .int .i64 k ∧ QRel wc I Q (64 * k) wr) (fun i _ _ _ _ _ => 2 - (intOf i).toNat)
      case atStart => exact ⟨0, by omega, rfl, (HJ.out ()).enc.blk, Fr.refl _ _⟩
      case round =>
        obtain ⟨k, hk, rfl, hQR⟩ := hrel
        have HQR := hu hQR
        clear hQR
        by_cases hk2 : k < 2
        · go_wp2
          go_loopw [62, 14, 15] (fun j _ _ wr => ∃ n : Nat, n ≤ 64 ∧ j = .int .i64 n ∧ QRel wc I Q (64 * k + n) wr) (fun j _ _ _ => 64 - (intOf j).toNat)
          case atStart => exact ⟨0, by omega, rfl, HQR.out ()⟩
          case round =>
            obtain ⟨n, hn, rfl, hQ2⟩ := hrel
            have HQ2 := hu hQ2
            clear hQ2
            by_cases hn2 : n < 64
            · have hub := uq_bd (64 * k + n) (by omega)
              have l0 : 0 < w.heap.size := by have := (HG.out ()).lt2; omega
              have l0c : 0 < wc.heap.size := by have := (HJ.out ()).fr.size; omega
              have cg : wr.cell? ⟨0, k * 64 + n, none⟩ = some (B8 (uqL.getD (64 * k + n) 0)) := by
                rw [World.cell?_of_block (a := ⟨0, k * 64 + n, none⟩) ((HQ2.out ()).2.block 0 l0c (by have := (HJ.out ()).e; omega)), World.cell?_of_block (a := ⟨0, k * 64 + n, none⟩) ((HJ.out ()).fr.block 0 l0 (fun e => e)), Nat.mul_comm k 64]
                exact HU.out () _ (by omega)
              obtain ⟨z, cz⟩ := (HQ2.out ()).cell (64 * k + n) (20 + k * 64 + n) (by omega) (by omega)
              have fz := (HQ2.out ()).1.frozen (20 + k * 64 + n)
              have hqA : qAt Q (64 * k + n) = if (uqL.getD (64 * k + n) 0 * sQ + 50) / 100 < 1 then 1 else if (uqL.getD (64 * k + n) 0 * sQ + 50) / 100 > 255 then 255 else (uqL.getD (64 * k + n) 0 * sQ + 50) / 100 := by
                rw [← HSQ.out ()]; rfl
              obtain ⟨u, hu'⟩ : ∃ u, uqL.getD (64 * k + n) 0 = u := ⟨_, rfl⟩
              rw [hu'] at hub cg hqA
              clear hu'
              obtain ⟨hu1, hu2⟩ := hub
              have p1 : 0 ≤ u * sQ := Int.mul_nonneg hu1 hs1
              have p2 : u * sQ ≤ 255 * 5000 := Int.mul_le_mul hu2 hs2 hs1 (by omega)
              have HQA := hu hqA
              clear hqA
              by_cases x1 : (u * sQ + 50) / 100 < 1
              · have hV : 1 = qAt Q (64 * k + n) := by rw [HQA.out (), if_pos x1]
                have d1 : decide ((u * sQ + 50) / 100 < 1) = true := by simpa using x1
                have HV := hu hV
                clear hV
                go_wp2
                go_roundw
                case rel => exact ⟨n + 1, by omega, by go_num, (HQ2.out ()).step (by omega) _ (by omega) _ (HV.out ())⟩
                case measure => simp [intOf]; omega
              · by_cases x2 : (u * sQ + 50) / 100 > 255
                · have hV : 255 = qAt Q (64 * k + n) := by rw [HQA.out (), if_neg x1, if_pos x2]
                  have d1 : decide ((u * sQ + 50) / 100 < 1) = false := by simpa using x1
                  have d2 : decide ((u * sQ + 50) / 100 > 255) = true := by simpa using x2
                  have HV := hu hV
                  clear hV
                  go_wp2
                  go_roundw
                  case rel => exact ⟨n + 1, by omega, by go_num, (HQ2.out ()).step (by omega) _ (by omega) _ (HV.out ())⟩
                  case measure => simp [intOf]; omega
                · have hV : (u * sQ + 50) / 100 = qAt Q (64 * k + n) := by rw [HQA.out (), if_neg x1, if_neg x2]
                  have d1 : decide ((u * sQ + 50) / 100 < 1) = false := by simpa using x1
                  have d2 : decide ((u * sQ + 50) / 100 > 255) = false := by simpa using x2
                  have HV := hu hV
                  clear hV
                  go_wp2
                  go_roundw
                  case rel => exact ⟨n + 1, by omega, by go_num, (HQ2.out ()).step (by omega) _ (by omega) _ (HV.out ())⟩
                  case measure => simp [intOf]; omega
            · obtain rfl : n = 64 := by omega
              go_wp2
              go_roundw
              case rel => exact ⟨k + 1, by omega, by go_num, HQ2.out ()⟩
              case measure => simp [intOf]; omega
        · obtain rfl : k = 2 := by omega
          have hPI := parIs pix W H Q
          have hOK := parOf_ok pix W H Q w1 w2 h1 h2 (HI.out ()).byte
          obtain ⟨p, hpe⟩ : ∃ p, parOf pix W H Q = p := ⟨_, rfl⟩
          rw [hpe] at hPI hOK
          have hB := jb_of hPI (HJ.out ()) (HQR.out ()) (HG.out ()) (HI.out ()) (HN.out ()).1 (HN.out ()).2.1 (HN.out ()).2.2 (HS.out ()).lt
          have HBd := hu hOK
          have HP := hu hpe
          have HQL := hu hPI.q.symm
          have Hql := hu (show p.q.length = 128 by rw [← hPI.q]; exact qTo_length Q 128)
          clear hpe hPI hOK
          have HB := hu hB
          have ht1 := ta_gray
          clear hB HQR HG HI HN HS HJ HU HSQ
          have x2 := (HB.out ()).enc.cbuf' 0 2 (by omega) rfl
          have x3 := (HB.out ()).enc.cbuf' 1 3 (by omega) rfl
          have f2 := (HB.out ()).enc.fz 2
          have f3 := (HB.out ()).enc.fz 3
          go_wp2_with fail
          have g1 := ((HB.out ()).enc.setBuf' 0 2 (by omega) rfl 255).setBuf' 1 3 (by omega) rfl 216
          have a1 := ((AdvE.refl I (.slice none 0 0) wr).setCell (a := ⟨I.E, 2, none⟩) rfl (.int .u8 255)).setCell (a := ⟨I.E, 3, none⟩) rfl (.int .u8 216)
          have s1 := g1.src (p := [255, 216]) (by simp) (by
            intro j hj
            simp only [List.length_cons, List.length_nil] at hj
            rcases (by omega : j = 0 ∨ j = 1) with rfl | rfl <;> rfl)
          have G1 := hu g1
          have A1 := hu a1
          have S1 := hu s1
          clear g1 a1 s1 x2 x3 f2 f3
          refine (ewrite (G1.out ()) (S1.out ()) 2 rfl (by omega) (.inr ⟨rfl, rfl⟩) (by unfold BIG; simp)).mono ?_
          rintro e wz1 ⟨rfl, v1, g2, a2⟩
          have G2 := hu g2
          have A2 := hu ((A1.out ()).trans a2)
          clear g2 a2
          go_wp2_with fail
          refine (dqt (G2.out ()) (by simp)).mono ?_
          rintro e wz2 ⟨rfl, v2, sc2, g3, a3⟩
          have G3 := hu g3
          have A3 := hu ((A2.out ()).trans a3)
          clear g3 a3
          have r := (A3.out ()).blk (HB.out ()).rect (HB.out ()).ad
          have r0 := r.cellv 0 rfl
          have r1 := r.cellv 1 rfl
          have r2 := r.cellv 2 rfl
          have r3 := r.cellv 3 rfl
          clear r
          go_wp2_with fail
          refine (size_any _ W H (by omega) (by omega)).mono ?_
          rintro e wz3 ⟨rfl, fz3⟩
          have G4 := hu ((G3.out ()).frame fz3 (fun _ _ e => e))
          have A4 := hu ((A3.out ()).trans (AdvE.ofFr fz3))
          clear r0 r1 r2 r3 fz3
          go_wp2_with fail
          refine (sof (G4.out ()) W H (by omega) (by omega) (by simp [Hql.out ()])).mono ?_
          rintro e wz4 ⟨rfl, v4, sc4, g5, a5⟩
          have G5 := hu g5
          have A5 := hu ((A4.out ()).trans a5)
          clear g5 a5
          go_wp2_with fail
          refine (dht (G5.out ()) (by simp [Hql.out ()])).mono ?_
          rintro e wz5 ⟨rfl, v5, sc5, g6, a6⟩
          have hhd : [] ++ [255, 216] ++ [255, 219, 0, 132] ++ [0] ++ p.q.take 64 ++ [1] ++ p.q.drop 64 ++ [255, 192, 0, 17] ++ [8, 0, (H : Int), 0, (W : Int), 3, 1, 34, 0, 2, 17, 1, 3, 17, 1] ++ dhtBytes = headBytes W H Q := by
            rw [HQL.out ()]; simp [headBytes, dqtBytes, sofBytes]
          rw [hhd] at g6
          have Hhl := hu (headBytes_length W H Q)
          obtain ⟨hb, hbe⟩ : ∃ z, headBytes W H Q = z := ⟨_, rfl⟩
          rw [hbe] at g6 Hhl
          have HHB := hu hbe
          clear hbe
          have G6 := hu g6
          have A6 := hu ((A5.out ()).trans a6)
          clear g6 a6 hhd
          go_wp2_with fail
          refine (sos_b (HB.out ()) (HBd.out ()) (G6.out ()) (A6.out ()) (by have := Hhl.out (); omega)).mono ?_
          rintro e wz6 ⟨rfl, v6, g7, a7⟩
          have G7 := hu g7
          have A7 := hu ((A6.out ()).trans a7)
          have x2 := g7.enc.cbuf' 0 2 (by omega) rfl
          have x3 := g7.enc.cbuf' 1 3 (by omega) rfl
          have f2 := g7.enc.fz 2
          have f3 := g7.enc.fz 3
          have hl7 := sosP_length p (HBd.out ()) ⟨hb, 0, 0⟩ (by simp) (by simp)
          obtain ⟨bs, hbs⟩ : ∃ z, sosP p ⟨hb, 0, 0⟩ = z := ⟨_, rfl⟩
          rw [hbs] at G7 hl7
          have HBS := hu hbs
          have HL7 := hu (show bs.c.length ≤ 300000 by have := Hhl.out (); have e : (⟨hb, 0, 0⟩ : BS).c = hb := rfl; rw [e] at hl7; omega)
          clear g7 a7 hl7 hbs
          go_wp2_with fail
          have g8 := ((G7.out ()).enc.setBuf' 0 2 (by omega) rfl 255).setBuf' 1 3 (by omega) rfl 217
          have a8 := ((A7.out ()).setCell (a := ⟨I.E, 2, none⟩) rfl (.int .u8 255)).setCell (a := ⟨I.E, 3, none⟩) rfl (.int .u8 217)
          have s8 := g8.src (p := [255, 217]) (by simp) (by
            intro j hj
            have hl := (G7.out ()).enc.sl
            simp only [List.length_cons, List.length_nil] at hj
            rw [set_getD _ _ _ _ (by simp [hl]), set_getD _ _ _ _ (by simp [hl])]
            rcases (by omega : j = 0 ∨ j = 1) with rfl | rfl <;> rfl)
          have G8 := hu g8
          have A8 := hu a8
          have S8 := hu s8
          clear g8 a8 s8 x2 x3 f2 f3
          refine (ewrite (G8.out ()) (S8.out ()) 2 rfl (by omega) (.inr ⟨rfl, rfl⟩) (by have := HL7.out (); unfold BIG; omega)).mono ?_
          rintro e wz8 ⟨rfl, v8, g9, a9⟩
          have G9 := hu g9
          have A9 := hu ((A8.out ()).trans a9)
          clear g9 a9
          go_wp2_with fail
          refine (eflush (G9.out ()) (by have := HL7.out (); rw [List.length_append]; unfold BIG; simp; omega)).mono ?_
          rintro e wz9 ⟨rfl, v9, buf9, ce, bw9, a10⟩
          have G10 := hu bw9
          have A10 := hu ((A9.out ()).trans a10)
          clear bw9 a10
          go_wp2
          go_ret
          have hJP : jpegP pix W H Q = bs.c ++ [255, 217] := by unfold jpegP; rw [HP.out (), HHB.out (), HBS.out ()]
          have hBB := HB.out ()
          refine ⟨rfl, v9, ?_, ?_, ?_, ?_⟩
          · have := (G10.out ()).sink; rw [hBB.ww] at this; exact this
          · rw [hJP]; exact (G10.out ()).row
          · intro b hb
            rcases (A10.out ()).mv with e | e
            · rw [e] at hb; cases hb
            · exact Nat.le_trans hBB.fr.size (e b hb)
          · refine (hBB.fr.mono (fun _ _ e => e.elim)).trans (A10.out ()).fr ?_
            have e1 := hBB.e
            have e2 := hBB.bw
            have e3 := hBB.bf
            rintro b hb (e | e | e | e | e)
            · omega
            · omega
            · omega
            · rw [e, hBB.ww]
            · cases e
end Go.Proofs.YtpophkigihfjoaaDoor
