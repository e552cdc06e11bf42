/- The walk of writeSOS. -/
import Derived.Test.YtpophkigihfjoaaDoorSosC
namespace Go.Proofs.YtpophkigihfjoaaDoor
open Go.RowKit
set_option maxRecDepth 100000
attribute [local irreducible] dctP coef BS.block scaleTo divP fillAt

theorem EncW.outlt {w : World} {I : Ids} {v : Value} {c : List Int} {A nb : Nat} {sc q : List Int} (h : EncW w I v c A nb sc q) (k : Nat) (hk : OutE I v k) : k < w.heap.size := by
  obtain ⟨xs, buf, m, hB, _, _⟩ := h.took
  rcases hk with e | e | e | e | e
  · have := h.blk.lt; omega
  · have := hB.head.lt; omega
  · have := hB.body.lt; omega
  · have := hB.sink.lt; omega
  · exact (hB.row.lt k e).2

def sosHdr : List Int := [255, 218, 0, 12, 3, 1, 0, 2, 17, 3, 17, 0, 63, 0]

theorem hdr_any (w : World) : Calls Tryd.prog 45 #[] w fun e w' => e = .returned (.slice (some ⟨w.heap.size, 0, none⟩) 14 14) ∧ w.alloc (.cells (sosHdr.map B8).toArray 5) = w' := by
  go_enter Tryd.func45, Tryd.ntmps45
  go_wp2
  go_ret
  exact ⟨rfl, rfl⟩

theorem pt_any (X Y : Int) (w : World) : Calls Tryd.prog 46 #[.int .i64 X, .int .i64 Y] w fun e w' => e = .returned (.agg #[.int .i64 X, .int .i64 Y]) ∧ w.alloc (.cells #[.int .i64 X, .int .i64 Y] 44) = w' := by
  go_enter Tryd.func46, Tryd.ntmps46
  go_wp2
  exact bodyPost_ret (v := .agg #[.int .i64 X, .int .i64 Y]) (by simp [results, Tryd.results46, go_sem]) rfl ⟨rfl, rfl⟩

theorem meth_bounds (a : Addr) (w : World) : (method 318 41 (.pointer (some a)) "Bounds").run Tryd.prog w = .ok (62, .pointer (some a)) w := by kernel_rfl

theorem ta_gray (a : Addr) (w : World) : (Instr.typeAssert (.iface 41 (.pointer (some a))) 85 103 true).run Tryd.prog w = .ok (.tuple #[.pointer none, .bool false]) w := by kernel_rfl
theorem ta_rgba (a : Addr) (w : World) : (Instr.typeAssert (.iface 41 (.pointer (some a))) 85 41 true).run Tryd.prog w = .ok (.tuple #[.pointer (some a), .bool true]) w := by kernel_rfl
theorem ta_ycbcr (a : Addr) (w : World) : (Instr.typeAssert (.iface 41 (.pointer (some a))) 85 143 true).run Tryd.prog w = .ok (.tuple #[.pointer none, .bool false]) w := by kernel_rfl

/-- What a scan makes of the bit stream: its header's bytes, the units, the padding. -/
def sosP (p : Par) (s : BS) : BS := ((MS.zero ⟨s.c ++ sosHdr, s.A, s.nb⟩).rows p ((p.high + 15) / 16)).s.put 127 7

def rectC (p : Par) : Array Value := #[.int .i64 0, .int .i64 0, .int .i64 p.wide, .int .i64 p.high]

theorem zeros136 : (Tryd.zeroCells136).toList = (List.replicate 256 (0 : Int)).map I32 := by kernel_rfl

/-- The blocks that a scan makes. -/
def bksAt (n IB PX : Nat) : Bks := ⟨n, n + 1, n + 1 + 1, n + 1 + 1 + 1 + 1, IB, PX⟩

noncomputable def sosWorld (w : World) (p : Par) : World :=
  ((((w.alloc (.cells ((List.replicate 64 (0 : Int)).map I32).toArray 135)).alloc (.cells Tryd.zeroCells136 136)).alloc (.cells Tryd.zeroCells136 136)).alloc (.cells (rectC p) 46)).alloc (.cells (rectC p) 46)

theorem SosW.start {w : World} {I : Ids} {v : Value} {s : BS} {sc : List Int} {p : Par} {IB PX : Nat} (h : EncS w I v s sc p.q) (hl : LutW w I v p.l0 p.l1 p.l2 p.l3) (hg : GlobW w) (a1 : Apart w I v 1) (a2 : Apart w I v 2)
    (hi : ImgW w IB PX p.wide p.high p.pix) (ai : Apart w I v IB) (ap : Apart w I v PX) (x : Nat) (hx : x = w.heap.size) :
    SosW (sosWorld w p) I v (bksAt x IB PX) p sc (MS.zero s) ∧ (bksAt x IB PX).Ok I ∧ Fr (fun _ => False) w (sosWorld w p) := by
  subst hx
  have hf : Fr (fun _ => False) w (sosWorld w p) := (((((Fr.refl _ w).alloc _).alloc _).alloc _).alloc _).alloc _
  have hout : ∀ n, w.heap.size ≤ n → n < (sosWorld w p).heap.size → Apart (sosWorld w p) I v n := by
    intro n hn hn2
    refine ⟨hn2, ?_⟩
    obtain ⟨xs, buf, m, hB, _, _⟩ := h.enc.took
    rintro (e | e | e | e | e)
    · have := h.enc.blk.lt; omega
    · have := hB.head.lt; omega
    · have := hB.body.lt; omega
    · have := hB.sink.lt; omega
    · have := (hB.row.lt n e).2; omega
  have hsz : (sosWorld w p).heap.size = w.heap.size + 5 := by simp [sosWorld]
  have hap : ∀ b, Apart w I v b → Apart (sosWorld w p) I v b := fun b hb => hb.frame hf
  have n0 : ¬ False := fun e => e
  have b0 := Blk.new w ((List.replicate 64 (0 : Int)).map I32) 135
  have b1 := Blk.newA (w.alloc (.cells ((List.replicate 64 (0 : Int)).map I32).toArray 135)) Tryd.zeroCells136 136
  have b2 := Blk.newA ((w.alloc (.cells ((List.replicate 64 (0 : Int)).map I32).toArray 135)).alloc (.cells Tryd.zeroCells136 136)) Tryd.zeroCells136 136
  have b4 := Blk.newA ((((w.alloc (.cells ((List.replicate 64 (0 : Int)).map I32).toArray 135)).alloc (.cells Tryd.zeroCells136 136)).alloc (.cells Tryd.zeroCells136 136)).alloc (.cells (rectC p) 46)) (rectC p) 46
  rw [World.size_alloc, zeros136] at b1
  rw [World.size_alloc, World.size_alloc, zeros136] at b2
  rw [World.size_alloc, World.size_alloc, World.size_alloc, World.size_alloc] at b4
  have l1 := hl.a0.lt
  have l2 := hl.a1.lt
  have l3 := hl.a2.lt
  have l4 := hl.a3.lt
  have l5 := a1.lt
  have l6 := a2.lt
  have l7 := ai.lt
  have l8 := ap.lt
  refine ⟨⟨h.frame hf (fun _ _ e => e), ⟨hf.blk hl.b0 n0, hf.blk hl.b1 n0, hf.blk hl.b2 n0, hf.blk hl.b3 n0, hap _ hl.a0, hap _ hl.a1, hap _ hl.a2, hap _ hl.a3⟩,
    ⟨fun i hi => ?_, fun i hi => ?_⟩, hap _ a1, hap _ a2, hi.frame hf n0 n0, hap _ ai, hap _ ap, ?_, ?_, ?_, hout _ (Nat.le_refl _) (by show w.heap.size < _; rw [hsz]; omega), hout _ (by show _ ≤ w.heap.size + 1; omega) (by show w.heap.size + 1 < _; rw [hsz]; omega),
    hout _ (by show _ ≤ w.heap.size + 1 + 1; omega) (by show w.heap.size + 1 + 1 < _; rw [hsz]; omega), ?_, hout _ (by show _ ≤ w.heap.size + 1 + 1 + 1 + 1; omega) (by show w.heap.size + 1 + 1 + 1 + 1 < _; rw [hsz]; omega)⟩, ?_, hf⟩
  · rw [World.cell?_of_block (a := ⟨1, i, none⟩) (hf.block 1 a1.lt n0)]; exact hg.uz i hi
  · rw [World.cell?_of_block (a := ⟨2, i, none⟩) (hf.block 2 a2.lt n0)]; exact hg.bc i hi
  · exact (((b0.alloc _).alloc _).alloc _).alloc _
  · exact ((b1.alloc _).alloc _).alloc _
  · exact (b2.alloc _).alloc _
  · exact b4
  · constructor <;> simp only [bksAt, Bks.mine] <;> omega

def RelY (w3 : World) (I : Ids) (v2 : Value) (k : Bks) (p : Par) (sc : List Int) (c0 : Nat) (st : MS) (y a b c : Value) (wr : World) : Prop :=
  ∃ (ky : Nat) (v' : Value), 16 * ky < p.high + 16 ∧ y = .int .i64 (16 * (ky : Int)) ∧ a = I32 (st.rows p ky).pY ∧ b = I32 (st.rows p ky).pB ∧ c = I32 (st.rows p ky).pR ∧ SosSt w3 I v2 k p sc c0 (st.rows p ky) (ky * 18) v' wr
def RelX (w3 : World) (I : Ids) (v2 : Value) (k : Bks) (p : Par) (sc : List Int) (c0 : Nat) (st : MS) (Y m : Nat) (x a b c : Value) (wr : World) : Prop :=
  ∃ (kx : Nat) (v' : Value), 16 * kx < p.wide + 16 ∧ x = .int .i64 (16 * (kx : Int)) ∧ a = I32 (st.row p Y kx).pY ∧ b = I32 (st.row p Y kx).pB ∧ c = I32 (st.row p Y kx).pR ∧ SosSt w3 I v2 k p sc c0 (st.row p Y kx) (m + kx * 6) v' wr
def RelT (w3 : World) (I : Ids) (v2 : Value) (k : Bks) (p : Par) (sc : List Int) (c0 : Nat) (st : MS) (X Y m : Nat) (i a : Value) (wr : World) : Prop :=
  ∃ (t : Nat) (v' : Value), t ≤ 4 ∧ i = .int .i64 t ∧ a = I32 (st.subs p X Y t).pY ∧ SosSt w3 I v2 k p sc c0 (st.subs p X Y t) (m + t) v' wr

theorem subs_pB (st : MS) (p : Par) (X Y t : Nat) : (st.subs p X Y t).pB = st.pB := by
  induction t with
  | zero => rfl
  | succ t ih => rw [MS.subs]; exact ih
theorem subs_pR (st : MS) (p : Par) (X Y t : Nat) : (st.subs p X Y t).pR = st.pR := by
  induction t with
  | zero => rfl
  | succ t ih => rw [MS.subs]; exact ih

theorem low_bits (t : Nat) (h : t < 4) : bits BinOp.and IntKind.i64 (t : Int) 1 = ((t % 2 : Nat) : Int) ∧ bits BinOp.and IntKind.i64 (t : Int) 2 = ((t / 2 * 2 : Nat) : Int) := by
  rcases (by omega : t = 0 ∨ t = 1 ∨ t = 2 ∨ t = 3) with rfl | rfl | rfl | rfl <;> exact ⟨by decide +kernel, by decide +kernel⟩

set_option maxHeartbeats 600000 in
theorem sos_any (hd : DctLaw) {w : World} {I : Ids} {v : Value} {s : BS} {sc : List Int} {p : Par} {IB PX : Nat} (h : EncS w I v s sc p.q) (hl : LutW w I v p.l0 p.l1 p.l2 p.l3) (hg : GlobW w) (a1 : Apart w I v 1) (a2 : Apart w I v 2)
    (hi : ImgW w IB PX p.wide p.high p.pix) (ai : Apart w I v IB) (ap : Apart w I v PX) (hp : p.Ok) (hlen : s.c.length ≤ 4000) (hnb : s.nb = 0) (hA : s.A = 0) :
    Calls Tryd.prog 30 #[.pointer (some ⟨I.E, 0, none⟩), .iface 41 (.pointer (some ⟨IB, 0, none⟩))] w fun e w' => e = .returned (.tuple #[]) ∧
      ∃ v', EncS w' I v' (sosP p s) sc p.q ∧ AdvE I v v' w w' := by
  have H := hu h
  have HL := hu hl
  have HG := hu hg
  have HA1 := hu a1
  have HA2 := hu a2
  have HI := hu hi
  have HAI := hu ai
  have HAP := hu ap
  have HP := hu hp
  have HLEN := hu hlen
  have hm := meth_bounds
  have ht1 := ta_gray
  have ht2 := ta_rgba
  have ht3 := ta_ycbcr
  clear h hl hg a1 a2 hi ai ap hp hlen
  go_enter Tryd.func30, Tryd.ntmps30
  go_wp2_with fail
  refine (hdr_any _).mono ?_
  rintro e w1 ⟨rfl, rfl⟩
  go_wp2_with fail
  have hB := Blk.newA w (sosHdr.map B8).toArray 5
  have H1 := hu ((H.out ()).frame ((Fr.refl (fun _ => False) w).alloc (.cells (sosHdr.map B8).toArray 5)) (fun _ _ e => e))
  refine (ewrite (H1.out ()).enc (p := sosHdr) ⟨fun j hj => by rw [Nat.zero_add]; exact int_cells hB j hj, hB.lt, ?_⟩ 14 rfl (by omega) (.inl (by have := HLEN.out (); omega)) (by have := HLEN.out (); unfold BIG; omega)).mono ?_
  · intro e
    have := (H.out ()).enc.outlt _ (.inr e)
    omega
  rintro e w2 ⟨rfl, v2, h2, a2⟩
  have H2 := hu h2
  have A2 := hu a2
  clear hB h2 a2
  have H3 := hu (show EncS w2 I v2 ⟨s.c ++ sosHdr, s.A, s.nb⟩ sc p.q from ⟨H2.out (), (H.out ()).hA, (H.out ()).hnb⟩)
  have F1 := hu ((Fr.refl (fun _ => False) w).alloc (.cells (sosHdr.map B8).toArray 5))
  have ap1 : ∀ b, Apart w I v b → Apart w2 I v2 b := fun b hb => (hb.frame (F1.out ())).adv (A2.out ())
  have bl1 : ∀ b cs t, Blk w b cs t → Apart w I v b → Blk w2 b cs t := fun b cs t hb ha => (A2.out ()).blk ((F1.out ()).blk hb (fun e => e)) (ha.frame (F1.out ()))
  have ce1 : ∀ b i, Apart w I v b → w2.cell? ⟨b, i, none⟩ = w.cell? ⟨b, i, none⟩ := fun b i ha => by
    rw [(A2.out ()).cell (ha.frame (F1.out ())) i]
    exact World.cell?_of_block (a := ⟨b, i, none⟩) ((F1.out ()).block b ha.lt (fun e => e))
  have HSS := hu (SosW.start (p := p) (IB := IB) (PX := PX) (H3.out ())
    ⟨bl1 _ _ _ (HL.out ()).b0 (HL.out ()).a0, bl1 _ _ _ (HL.out ()).b1 (HL.out ()).a1, bl1 _ _ _ (HL.out ()).b2 (HL.out ()).a2, bl1 _ _ _ (HL.out ()).b3 (HL.out ()).a3, ap1 _ (HL.out ()).a0, ap1 _ (HL.out ()).a1, ap1 _ (HL.out ()).a2, ap1 _ (HL.out ()).a3⟩
    ⟨fun i hi => by rw [ce1 1 i (HA1.out ())]; exact (HG.out ()).uz i hi, fun i hi => by rw [ce1 2 i (HA2.out ())]; exact (HG.out ()).bc i hi⟩ (ap1 _ (HA1.out ())) (ap1 _ (HA2.out ()))
    ⟨bl1 _ _ _ (HI.out ()).head (HAI.out ()), bl1 _ _ _ (HI.out ()).body (HAP.out ()), (HI.out ()).len, (HI.out ()).byte⟩ (ap1 _ (HAI.out ())) (ap1 _ (HAP.out ())) w2.heap.size rfl)
  have HI2 := hu (bl1 _ _ _ (HI.out ()).head (HAI.out ()))
  clear ap1 bl1 ce1
  go_upto_region 7 with (fail)
  go_cut [10] (fun t wx => t = .pointer (some ⟨w2.heap.size + 1 + 1 + 1 + 1, 0, none⟩) ∧ wx = sosWorld w2 p)
  case first =>
    go_wp2_with fail
    have hA := (((HI2.out ()).alloc (.cells ((List.replicate 64 (0 : Int)).map I32).toArray 135)).alloc (.cells Tryd.zeroCells136 136)).alloc (.cells Tryd.zeroCells136 136)
    refine (bounds_any (wide := p.wide) (high := p.high) (hA.cellv 2 rfl) (hA.cellv 3 rfl) (hA.cellv 4 rfl) (hA.cellv 5 rfl) hA.lt).mono ?_
    rintro e w3 ⟨rfl, rfl⟩
    clear hA
    go_wp2
    go_meet
    exact ⟨rfl, rfl⟩
  case rest =>
    obtain ⟨rfl, rfl⟩ := hcut
    obtain ⟨hW, hK, hF⟩ := HSS.out ()
    have e4 : w2.heap.size + 1 + 1 + 1 + 1 = (bksAt w2.heap.size IB PX).T := rfl
    have e2 : w2.heap.size + 1 + 1 = (bksAt w2.heap.size IB PX).R := rfl
    have e1 : w2.heap.size + 1 = (bksAt w2.heap.size IB PX).C := rfl
    have hIB : (bksAt w2.heap.size IB PX).IB = IB := rfl
    have hPX : (bksAt w2.heap.size IB PX).PX = PX := rfl
    rw [e4, e2, e1]
    have e0 : w2.heap.size = (bksAt w2.heap.size IB PX).B := rfl
    have hkm : ∀ b, (bksAt w2.heap.size IB PX).mine b → w2.heap.size ≤ b := by
      intro b hb
      simp only [bksAt, Bks.mine] at hb
      omega
    obtain ⟨k, hk⟩ : ∃ k, bksAt w2.heap.size IB PX = k := ⟨_, rfl⟩
    obtain ⟨w3, hw3⟩ : ∃ x, sosWorld w2 p = x := ⟨_, rfl⟩
    rw [hk] at hW hK hIB hPX hkm ⊢
    have HKM := hu hkm
    clear hkm
    rw [hk] at e0
    rw [hw3] at hW hF ⊢
    rw [e0]
    clear e4 e2 e1 hk hw3 HSS HI2
    subst hIB hPX
    have HK := hu hK
    have HF := hu hF
    have HST := hu (show SosSt w3 I v2 k p sc (s.c ++ sosHdr).length ((MS.zero ⟨s.c ++ sosHdr, s.A, s.nb⟩).rows p 0) 0 v2 w3 from ⟨hW, MS.Ok.zero _, Fr.refl _ _, .inl rfl⟩)
    have t0 := hW.t.cellv 0 rfl
    have t1 := hW.t.cellv 1 rfl
    have t2 := hW.t.cellv 2 rfl
    have t3 := hW.t.cellv 3 rfl
    have hc0 : (s.c ++ sosHdr).length ≤ 4014 := by rw [List.length_append]; have := HLEN.out (); have : sosHdr.length = 14 := rfl; omega
    obtain ⟨c0, hc0e⟩ : ∃ c, (s.c ++ sosHdr).length = c := ⟨_, rfl⟩
    rw [hc0e] at hc0
    obtain ⟨st0, hst0⟩ : ∃ x, MS.zero ⟨s.c ++ sosHdr, s.A, s.nb⟩ = x := ⟨_, rfl⟩
    have HS2 := HST.out ()
    rw [hc0e, hst0] at HS2
    have HS3 := hu HS2
    have HS0 := hu hst0
    have Hc0 := hu hc0
    have hz : I32 (st0.rows p 0).pY = I32 0 ∧ I32 (st0.rows p 0).pB = I32 0 ∧ I32 (st0.rows p 0).pR = I32 0 := by rw [← hst0]; exact ⟨rfl, rfl, rfl⟩
    have HZ := hu hz
    have w1' := (HP.out ()).w1
    have w2' := (HP.out ()).w2
    have h1' := (HP.out ()).h1
    have h2' := (HP.out ()).h2
    clear hW hK hF HS2 hst0 hc0 hc0e hz HST e0
    go_wp2
    clear t0 t1 t2 t3
    go_loopw [20, 7, 8, 9, 21, 22, 23, 24, 25] (fun y a b c _ _ _ _ _ wr => RelY w3 I v2 k p sc c0 st0 y a b c wr) (fun y _ _ _ _ _ _ _ _ _ => p.high + 16 - (intOf y).toNat)
    case atStart =>
      obtain ⟨z1, z2, z3⟩ := HZ.out ()
      exact ⟨0, v2, by omega, rfl, z1.symm, z2.symm, z3.symm, by simpa using HS3.out ()⟩
    case round =>
      obtain ⟨ky, v3, hky, rfl, rfl, rfl, rfl, hS⟩ := hrel
      obtain ⟨sr, hsr⟩ : ∃ x, st0.rows p ky = x := ⟨_, rfl⟩
      rw [hsr] at hS ⊢
      have HS := hu hS
      have HSR := hu hsr
      have t0 := hS.mem.t.cellv 0 rfl
      have t1 := hS.mem.t.cellv 1 rfl
      have t2 := hS.mem.t.cellv 2 rfl
      have t3 := hS.mem.t.cellv 3 rfl
      clear hS hsr
      by_cases hlt : 16 * ky < p.high
      · have hdy : decide (16 * (ky : Int) < (p.high : Int)) = true := by simp; omega
        go_wp2
        clear t0 t1 t2 t3
        go_loopw [21, 7, 8, 9, 22, 23, 24, 25] (fun x a b c _ _ _ _ wr => RelX w3 I v2 k p sc c0 sr (16 * ky) (ky * 18) x a b c wr) (fun x _ _ _ _ _ _ _ _ => p.wide + 16 - (intOf x).toNat)
        case atStart => exact ⟨0, v3, by omega, rfl, rfl, rfl, rfl, HS.out ()⟩
        case round =>
          obtain ⟨kx, v4, hkx, rfl, rfl, rfl, rfl, hS⟩ := hrel
          obtain ⟨sx, hsx⟩ : ∃ x, sr.row p (16 * ky) kx = x := ⟨_, rfl⟩
          rw [hsx] at hS ⊢
          have HSX := hu hS
          have HSXE := hu hsx
          have t0 := hS.mem.t.cellv 0 rfl
          have t1 := hS.mem.t.cellv 1 rfl
          have t2 := hS.mem.t.cellv 2 rfl
          have t3 := hS.mem.t.cellv 3 rfl
          clear hS hsx
          by_cases hltx : 16 * kx < p.wide
          · have hdx : decide (16 * (kx : Int) < (p.wide : Int)) = true := by simp; omega
            go_wp2
            clear t0 t1 t2 t3
            go_loopw [22, 7, 23, 24, 25] (fun i a _ _ _ wr => RelT w3 I v2 k p sc c0 sx (16 * kx) (16 * ky) (ky * 18 + kx * 6) i a wr) (fun i _ _ _ _ _ => 4 - (intOf i).toNat)
            case atStart => exact ⟨0, v4, by omega, rfl, rfl, HSX.out ()⟩
            case round =>
              obtain ⟨t, v5, ht, rfl, rfl, hS⟩ := hrel
              have HT := hu hS
              clear hS
              by_cases hltt : t < 4
              · obtain ⟨lb1, lb2⟩ := low_bits t hltt
                have hdt : decide ((t : Int) < 4) = true := by simp; omega
                go_wp2_with fail
                rw [show (16 * (kx : Int) + (t : Int) % 2 * 8) = ((16 * kx + t % 2 * 8 : Nat) : Int) from by omega, show (16 * (ky : Int) + (t : Int) / 2 * 2 * 4) = ((16 * ky + t / 2 * 8 : Nat) : Int) from by omega]
                obtain ⟨X, hX⟩ : ∃ X, 16 * kx + t % 2 * 8 = X := ⟨_, rfl⟩
                obtain ⟨Y, hY⟩ : ∃ Y, 16 * ky + t / 2 * 8 = Y := ⟨_, rfl⟩
                rw [hX, hY]
                have hX100 : X ≤ 100 := by omega
                have hY100 : Y ≤ 100 := by omega
                have HX := hu hX
                have HY := hu hY
                clear hX hY lb1 lb2
                refine (pt_any _ _ _).mono ?_
                rintro e w4 ⟨rfl, rfl⟩
                go_upto_region 25 with (fail)
                have HT2 := hu ((HT.out ()).still (HK.out ()) (((Fr.refl (fun _ => False) wr).alloc (.cells #[.int .i64 (X : Int), .int .i64 (Y : Int)] 44)).alloc (.cells #[.int .i64 (X : Int), .int .i64 (Y : Int)] 44)))
                have hbx := Blk.newA (wr.alloc (.cells #[.int .i64 (X : Int), .int .i64 (Y : Int)] 44)) #[.int .i64 (X : Int), .int .i64 (Y : Int)] 44
                rw [World.size_alloc] at hbx
                obtain ⟨w5, hw5⟩ : ∃ x, (wr.alloc (.cells #[.int .i64 (X : Int), .int .i64 (Y : Int)] 44)).alloc (.cells #[.int .i64 (X : Int), .int .i64 (Y : Int)] 44) = x := ⟨_, rfl⟩
                have HT3 := HT2.out ()
                rw [hw5] at hbx HT3 ⊢
                have c0' := hbx.cellv 0 rfl
                have c1' := hbx.cellv 1 rfl
                have HT5 := hu HT3
                have HT5d := hu (HT3.still (HK.out ()) ((Fr.refl (fun _ => False) w5).drew))
                have hneq : ¬ (Value.pointer (some ⟨k.IB, 0, none⟩) = Value.pointer none) := by intro h; injection h with h; cases h
                clear HT2 hw5 HT3 hbx hneq
                have hok := (HT5d.out ()).ok
                have HOK := hu hok
                have HBK := hu (HK.out ())
                clear hok
                go_cut [] (fun wx => SosSt w3 I v2 k p sc c0 ((sx.subs p (16 * kx) (16 * ky) t).fill p (16 * kx) (16 * ky) t) (ky * 18 + kx * 6 + t) v5 wx)
                case first =>
                 go_region_with (go_at_call 49; go_must (refine (pix_any (w := w5.drew) (HT5d.out ()).mem.img (HP.out ()).w1 (HP.out ()).w2 (HP.out ()).h1 (HP.out ()).h2 hX100 hY100 (HT5d.out ()).mem.b (HT5d.out ()).mem.c (HT5d.out ()).mem.r (HOK.out ()).lM (HOK.out ()).lN (HOK.out ()).lR (by omega) (HK.out ()).n1 (HK.out ()).n2 (HK.out ()).n3 (fun e => (HK.out ()).ib (.inl e)) (fun e => (HK.out ()).ib (.inr (.inl e))) (fun e => (HK.out ()).ib (.inr (.inr e))) (fun e => (HK.out ()).px (.inl e)) (fun e => (HK.out ()).px (.inr (.inl e))) (fun e => (HK.out ()).px (.inr (.inr e)))).mono ?_); rintro e w6 ⟨rfl, pb, pc, pr, pf⟩; have PB := hu pb; have PC := hu pc; have PR := hu pr; have PF := hu pf; clear pb pc pr pf)
                 all_goals
                  go_wp2
                  go_meet
                  have hfo := (MS.Ok.fill (HP.out ()) (HOK.out ()) (16 * kx) (16 * ky) t hltt).1
                  have hX2 := HX.out ()
                  have hY2 := HY.out ()
                  subst hX2 hY2
                  exact (HT5d.out ()).go (HK.out ()) ((PF.out ()).mono (fun _ _ e => .inr e)) (.inl rfl) ((HT5d.out ()).mem.enc.frame (PF.out ()) (fun b hb e => by
                    rcases e with e | e | e
                    · exact (HT5d.out ()).mem.ab.out (e ▸ hb)
                    · exact (HT5d.out ()).mem.ac.out (e ▸ hb)
                    · exact (HT5d.out ()).mem.ar.out (e ▸ hb))) (PB.out ()) (PC.out ()) (PR.out ()) hfo
                case rest =>
                  have HF6 := hu hcut
                  clear hcut
                  have hfb := hu (MS.Ok.fill (HP.out ()) (HOK.out ()) (16 * kx) (16 * ky) t hltt).2
                  go_wp2_with fail
                  refine (sos_wY hd (HF6.out ()) (HK.out ()) (HP.out ()) (hfb.out ()) (by have := Hc0.out (); unfold BIG; omega)).mono ?_
                  rintro e w7 ⟨rfl, v7, hS7⟩
                  have HS7 := hu (show SosSt w3 I v2 k p sc c0 (sx.subs p (16 * kx) (16 * ky) (t + 1)) (ky * 18 + kx * 6 + (t + 1)) v7 w7 from hS7)
                  clear hS7
                  go_wp2
                  go_roundw
                  case rel =>
                    have hrel2 : RelT w3 I v2 k p sc c0 sx (16 * kx) (16 * ky) (ky * 18 + kx * 6) (.int .i64 ((t : Int) + 1)) (I32 (((sx.subs p (16 * kx) (16 * ky) t).fill p (16 * kx) (16 * ky) t).wY p).pY) w7 := ⟨t + 1, v7, by omega, by go_num, rfl, HS7.out ()⟩
                    first | exact hrel2 | ((repeat apply Exists.intro); exact ⟨hrel2, rfl⟩)
                  case measure => simp [intOf]; omega
              · obtain rfl : t = 4 := by omega
                have HT4 := hu ((HT.out ()).ok.sclB.2)
                go_wp2_with fail
                refine (sos_sclB (HT.out ()) (HK.out ())).mono ?_
                rintro e w8 ⟨rfl, hS8⟩
                have HS8 := hu hS8
                clear hS8
                go_wp2_with fail
                rw [← subs_pB sx p (16 * kx) (16 * ky) 4]
                refine (sos_wB hd (HS8.out ()) (HK.out ()) (HP.out ()) (HT4.out ()) (by have := Hc0.out (); unfold BIG; omega)).mono ?_
                rintro e w9 ⟨rfl, v9, hS9⟩
                have HS9 := hu hS9
                have HT9 := hu (hS9.ok.sclR.2)
                clear hS9
                go_wp2_with fail
                refine (sos_sclR (HS9.out ()) (HK.out ())).mono ?_
                rintro e w10 ⟨rfl, hS10⟩
                have HS10 := hu hS10
                clear hS10
                go_wp2_with fail
                rw [← subs_pR sx p (16 * kx) (16 * ky) 4]
                refine (sos_wR hd (HS10.out ()) (HK.out ()) (HP.out ()) (HT9.out ()) (by have := Hc0.out (); unfold BIG; omega)).mono ?_
                rintro e w11 ⟨rfl, v11, hS11⟩
                have HS11 := hu hS11
                clear hS11
                have HU := hu (show SosSt w3 I v2 k p sc c0 (sr.row p (16 * ky) (kx + 1)) (ky * 18 + (kx + 1) * 6) v11 w11 from by
                  have e : sr.row p (16 * ky) (kx + 1) = (((((sx.subs p (16 * kx) (16 * ky) 4).sclB).wB p).sclR).wR p) := by rw [MS.row, HSXE.out ()]; rfl
                  rw [e]
                  have := HS11.out ()
                  rw [show ky * 18 + (kx + 1) * 6 = ky * 18 + kx * 6 + 4 + 1 + 1 from by omega]
                  exact this)
                have hv : I32 (sx.subs p (16 * kx) (16 * ky) 4).pY = I32 (sr.row p (16 * ky) (kx + 1)).pY ∧ I32 ((sx.subs p (16 * kx) (16 * ky) 4).sclB.wB p).pB = I32 (sr.row p (16 * ky) (kx + 1)).pB ∧ I32 (((sx.subs p (16 * kx) (16 * ky) 4).sclB.wB p).sclR.wR p).pR = I32 (sr.row p (16 * ky) (kx + 1)).pR := by
                  have e : sr.row p (16 * ky) (kx + 1) = (((((sx.subs p (16 * kx) (16 * ky) 4).sclB).wB p).sclR).wR p) := by rw [MS.row, HSXE.out ()]; rfl
                  rw [e]; exact ⟨rfl, rfl, rfl⟩
                have HV := hu hv
                clear hv
                go_wp2
                go_roundw
                case rel =>
                  obtain ⟨z1, z2, z3⟩ := HV.out ()
                  have hrel2 : RelX w3 I v2 k p sc c0 sr (16 * ky) (ky * 18) (.int .i64 (16 * (kx : Int) + 16)) (I32 (sx.subs p (16 * kx) (16 * ky) 4).pY) (I32 ((sx.subs p (16 * kx) (16 * ky) 4).sclB.wB p).pB) (I32 (((sx.subs p (16 * kx) (16 * ky) 4).sclB.wB p).sclR.wR p).pR) w11 := ⟨kx + 1, v11, by omega, by first | (congr 1; done) | (congr 1; omega), z1, z2, z3, HU.out ()⟩
                  first | exact hrel2 | ((repeat apply Exists.intro); exact ⟨hrel2, rfl⟩)
                case measure => simp [intOf]; omega
          · have hdx : decide (16 * (kx : Int) < (p.wide : Int)) = false := by simp; omega
            have hkx2 : kx = (p.wide + 15) / 16 := by omega
            have HU := hu (show SosSt w3 I v2 k p sc c0 (st0.rows p (ky + 1)) ((ky + 1) * 18) v4 wr from by
              have e : st0.rows p (ky + 1) = sx := by rw [MS.rows, HSR.out (), ← hkx2]; exact HSXE.out ()
              rw [e]
              have h6 := HSX.out ()
              exact ⟨h6.mem, h6.ok.mono (by omega), h6.fr, h6.mv⟩)
            have hv : I32 sx.pY = I32 (st0.rows p (ky + 1)).pY ∧ I32 sx.pB = I32 (st0.rows p (ky + 1)).pB ∧ I32 sx.pR = I32 (st0.rows p (ky + 1)).pR := by
              have e : st0.rows p (ky + 1) = sx := by rw [MS.rows, HSR.out (), ← hkx2]; exact HSXE.out ()
              rw [e]; exact ⟨rfl, rfl, rfl⟩
            have HV := hu hv
            clear hv hkx2
            go_wp2
            go_roundw
            case rel =>
              obtain ⟨z1, z2, z3⟩ := HV.out ()
              have hrel2 : RelY w3 I v2 k p sc c0 st0 (.int .i64 (16 * (ky : Int) + 16)) (I32 sx.pY) (I32 sx.pB) (I32 sx.pR) wr := ⟨ky + 1, v4, by omega, by first | (congr 1; done) | (congr 1; omega), z1, z2, z3, HU.out ()⟩
              first | exact hrel2 | ((repeat apply Exists.intro); exact ⟨hrel2, rfl⟩)
            case measure => simp [intOf]; omega
      · have hdy : decide (16 * (ky : Int) < (p.high : Int)) = false := by simp; omega
        have hky2 : ky = (p.high + 15) / 16 := by omega
        have HK2 := hu hky2
        clear hky2
        go_wp2_with fail
        have hlen2 := (HS.out ()).ok.len
        have h0 := Hc0.out ()
        refine Calls.mono (show Calls Tryd.prog 53 #[.pointer (some ⟨I.E, 0, none⟩), .int .u32 127, .int .u32 7] wr _ from emitS (HS.out ()).mem.enc 127 7 (by decide) (by omega) (by unfold BIG; omega)) ?_
        rintro e w12 ⟨rfl, v12, hE, hA12⟩
        have HE12 := hu hE
        have HA12 := hu hA12
        clear hE hA12 hlen2 h0
        go_wp2
        go_end0
        have e : sosP p s = sr.s.put 127 7 := by unfold sosP; rw [HS0.out (), ← HK2.out (), HSR.out ()]
        rw [e]
        refine ⟨rfl, v12, HE12.out (), ?_⟩
        have f1 : AdvE I v v2 w w2 := ⟨((F1.out ()).mono (fun _ _ e => e.elim)).trans (A2.out ()).fr (fun _ _ e => e), by
          rcases (A2.out ()).mv with e | e
          · exact .inl e
          · exact .inr fun k hk => Nat.le_trans (F1.out ()).size (e k hk)⟩
        have f2 : AdvE I v2 v3 w2 wr := by
          refine ⟨((HF.out ()).mono (fun _ _ e => e.elim)).trans (HS.out ()).fr ?_, ?_⟩
          · rintro b hb (e | e)
            · exact e
            · have := (HKM.out ()) b e; omega
          · rcases (HS.out ()).mv with e | e
            · exact .inl e
            · exact .inr fun k hk => Nat.le_trans (HF.out ()).size (e k hk)
        exact (f1.trans f2).trans (HA12.out ())

end Go.Proofs.YtpophkigihfjoaaDoor
