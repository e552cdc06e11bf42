/- The walk of writeBlock. -/
import Derived.Test.YtpophkigihfjoaaDoorBlk
namespace Go.Proofs.YtpophkigihfjoaaDoor
open Go.RowKit
set_option maxRecDepth 100000

/-- Between two coefficients: n of them are written. -/
def AcRel (w : World) (I : Ids) (v : Value) (la : List Nat) (f : Nat → Int) (s1 : BS) (sc q : List Int) (run zig : Value) (wr : World) : Prop :=
  ∃ (n : Nat) (v' : Value), n ≤ 63 ∧ zig = .int .i64 ((n : Int) + 1) ∧ run = .int .i32 ((acN la f s1 n).2 : Int) ∧ (acN la f s1 n).1.c.length ≤ s1.c.length + 40 * n ∧
    EncS wr I v' (acN la f s1 n).1 sc q ∧ AdvE I v v' w wr

/-- Between two runs of sixteen zeros: m of them are written. -/
def ZrlRel (w : World) (I : Ids) (v : Value) (la : List Nat) (s0 : BS) (r : Nat) (sc q : List Int) (run : Value) (wr : World) : Prop :=
  ∃ (m : Nat) (v' : Value), 16 * m ≤ r ∧ run = .int .i32 ((r : Int) - 16 * m) ∧ (s0.zrl la m).c.length ≤ s0.c.length + 5 * m ∧ EncS wr I v' (s0.zrl la m) sc q ∧ AdvE I v v' w wr

set_option maxHeartbeats 2000000 in
theorem block_any {w : World} {I : Ids} {v : Value} {s : BS} {sc q : List Int} {qi : Nat} {ld la : List Nat} {B : Nat} {M : List Int} (h : EncS w I v s sc q) (he : Env w I v qi ld la) (hq : qi < 2)
    (hcd : Codes ld 12) (hca : Codes la 251) (hb : Blk w B (M.map I32) 135) (hl : M.length = 64) (hap : Apart w I v B) (hB : B ≠ 1 ∧ B ≠ 2 ∧ B ≠ I.LD qi ∧ B ≠ I.LA qi)
    (hD : ∀ i, i < 64 → -100000000 ≤ (dctP M).getD i 0 ∧ (dctP M).getD i 0 ≤ 100000000) (hQ : ∀ i, i < 128 → 1 ≤ q.getD i 0 ∧ q.getD i 0 ≤ 255)
    (prev : Int) (hdc : (coef (dctP M) q qi 0 - prev).natAbs ≤ 2047) (hac : ∀ k, 1 ≤ k → k < 64 → (coef (dctP M) q qi k).natAbs ≤ 1023) (hp : prev.natAbs ≤ 100000) (hsm : s.c.length + 4000 ≤ BIG) :
    Calls Tryd.prog 48 #[.pointer (some ⟨I.E, 0, none⟩), .pointer (some ⟨B, 0, none⟩), .int .i64 qi, .int .i32 prev] w fun e w' => e = .returned (.int .i32 (coef (dctP M) q qi 0)) ∧
      ∃ v', EncS w' I v' (s.block ld la (coef (dctP M) q qi 0 - prev) (coef (dctP M) q qi)) sc q ∧ Blk w' B ((dctP M).map I32) 135 ∧ Fr (fun k => OutE I v k ∨ k = B) w w' ∧ Moved w v v' := by
  have hdc2 : (coef (dctP M) q qi 0).natAbs ≤ 102047 := by omega
  have H := hu h
  have HE := hu he
  have HCD := hu hcd
  have HCA := hu hca
  have HB := hu hb
  have HL := hu hl
  have HAP := hu hap
  have HNB := hu hB
  have HD := hu hD
  have HQ := hu hQ
  have HDC := hu hdc
  have HAC := hu hac
  have Hsm := hu hsm
  clear h he hcd hca hb hl hap hB hD hQ hdc hac hsm
  go_enter Tryd.func48, Tryd.ntmps48
  go_wp2_with fail
  refine (fdct_any (HB.out ()) (HL.out ())).mono ?_
  rintro e w1 ⟨rfl, hb1, hf1⟩
  have hSo : ∀ k, OutE I v k → ¬ k = B := fun k hk e => (HAP.out ()).out (e ▸ hk)
  have H1 := hu ((H.out ()).frame hf1 hSo)
  have HE1 := hu ((HE.out ()).frame hf1 (fun e => (HNB.out ()).1 e.symm) (fun e => (HNB.out ()).2.1 e.symm) (fun e => (HNB.out ()).2.2.1 e.symm) (fun e => (HNB.out ()).2.2.2 e.symm))
  have HB1 := hu hb1
  have HF1 := hu hf1
  have hLD : (dctP M).length = 64 := by rw [length_dctP]; exact (HL.out ())
  have cD : w1.cell? ⟨B, 0, none⟩ = some (I32 ((dctP M).getD 0 0)) := int_cells hb1 0 (by rw [hLD]; omega)
  have cQ : w1.cell? ⟨I.E, 20 + qi * 64, none⟩ = some (B8 (q.getD (qi * 64) 0)) := (H1.out ()).enc.cq (qi * 64) (by omega)
  have HLD := hu hLD
  obtain ⟨bD1, bD2⟩ := (HD.out ()) 0 (by omega)
  obtain ⟨bQ1, bQ2⟩ := (HQ.out ()) (qi * 64) (by omega)
  have hcf : coef (dctP M) q qi 0 = divP ((dctP M).getD 0 0) (8 * q.getD (qi * 64) 0) := by
    unfold coef; rw [Nat.mul_comm 64 qi]; rfl
  have HCF := hu hcf
  obtain ⟨d0, hd0⟩ : ∃ d, (dctP M).getD 0 0 = d := ⟨_, rfl⟩
  obtain ⟨q0, hq0⟩ : ∃ d, q.getD (qi * 64) 0 = d := ⟨_, rfl⟩
  rw [hd0] at cD bD1 bD2 hcf
  rw [hq0] at cQ bQ1 bQ2 hcf
  have HCF := hu hcf
  have Hd0 := hu hd0
  have Hq0 := hu hq0
  clear hb1 hf1 hSo hLD hcf hd0 hq0
  go_wp2
  go_quiet ((go_at_call 59; exact Calls.quiet_of_same (div_q _ _ _ (by omega) (by omega) (by omega) (by omega))))
  obtain ⟨dc, hdcv⟩ : ∃ d, coef (dctP M) q qi 0 = d := ⟨_, rfl⟩
  have hdd : divP d0 (8 * q0) = dc := by rw [← (HCF.out ())]; exact hdcv
  have HDV := hu hdcv
  have HDC2 : Hid (Unit → (dc - prev).natAbs ≤ 2047) := hu (by rw [← hdcv]; exact (HDC.out ()))
  rw [hdcv] at hdc2
  have b1 : -102047 ≤ dc := by omega
  have b2 : dc ≤ 102047 := by omega
  have b3 : -100000 ≤ prev := by omega
  have b4 : prev ≤ 100000 := by omega
  have hcat : 0 * 16 + cat (dc - prev).natAbs < 12 := by have := cat_le (dc - prev).natAbs 11 (by have := (HDC2.out ()); omega); omega
  have HCAT := hu hcat
  clear hcat hdcv hdc2 hp
  rw [hdd]
  clear hdd cD cQ
  go_wp2_with fail
  refine (codeI ((H1.out ()).drewN nq) (HCD.out ()) (2 * qi) 0 (dc - prev) (I.LD qi) _ _ (by omega) (by omega) (by omega) (by omega) (HDC2.out ()) ((HE1.out ()).drewN nq).gl.bc (((H1.out ()).drewN nq).enc.cdc qi hq) ((HE1.out ()).drewN nq).bd (HCAT.out ()) (by have := (Hsm.out ()); omega)).mono ?_
  rintro e w2 ⟨rfl, v2, h2, a2⟩
  have H2 := hu h2
  have A2 := hu a2
  clear h2 a2
  have HAP1 := hu (((HAP.out ()).frame (HF1.out ())))
  have HE2 := hu (((HE1.out ()).drewN nq).adv (A2.out ()))
  have HB2 := hu ((A2.out ()).blk (w := w1.drewN nq) ((HB1.out ()).of_heap rfl) ⟨(HAP1.out ()).lt, (HAP1.out ()).out⟩)
  have HAP2 := hu (Apart.adv (w := w1.drewN nq) ⟨(HAP1.out ()).lt, (HAP1.out ()).out⟩ (A2.out ()))
  have hs1 : (s.code ld 0 (dc - prev)).c.length ≤ s.c.length + 10 := by
    have e1 := s.huff_len ld (0 * 16 + cat (dc - prev).natAbs) (HCD.out ()) (HCAT.out ()) (H.out ()).hnb
    have e2 := BS.put_inv s (ld.getD (0 * 16 + cat (dc - prev).natAbs) 0 % 16777216) (ld.getD (0 * 16 + cat (dc - prev).natAbs) 0 / 16777216) (H.out ()).hA ((HCD.out ()).fits _ (HCAT.out ())).1
    have e3 := BS.put_len (s.huff ld (0 * 16 + cat (dc - prev).natAbs)) (mag (dc - prev)) (cat (dc - prev).natAbs) e2.2 (by have := (HCAT.out ()); omega)
    have e4 : (s.code ld 0 (dc - prev)).c.length = ((s.huff ld (0 * 16 + cat (dc - prev).natAbs)).put (mag (dc - prev)) (cat (dc - prev).natAbs)).c.length := rfl
    omega
  obtain ⟨s1, hs1e⟩ : ∃ x, s.code ld 0 (dc - prev) = x := ⟨_, rfl⟩
  rw [hs1e] at hs1
  have H2' := (H2.out ())
  rw [hs1e] at H2'
  have HS1 := hu hs1e
  have H3 := hu H2'
  have Hs1 := hu hs1
  clear H2' hs1e hs1 H2
  go_wp2
  go_loopw [11, 12, 13] (fun run zig _ wr => AcRel w2 I v2 la (coef (dctP M) q qi) s1 sc q run zig wr) (fun _ zig _ _ => 64 - (intOf zig).toNat)
  case atStart =>
    exact ⟨0, v2, by omega, rfl, rfl, by simp [acN], (H3.out ()), AdvE.refl _ _ _⟩
  case round =>
    obtain ⟨n, v3, hn, rfl, rfl, hlen, hS, hA⟩ := hrel
    have hrn := acN_run la (coef (dctP M) q qi) s1 n
    obtain ⟨s0, hs0⟩ : ∃ x, (acN la (coef (dctP M) q qi) s1 n).1 = x := ⟨_, rfl⟩
    obtain ⟨r, hr⟩ : ∃ x, (acN la (coef (dctP M) q qi) s1 n).2 = x := ⟨_, rfl⟩
    rw [hs0] at hlen hS
    rw [hr] at hrn ⊢
    have HS0 := hu hs0
    have HR := hu hr
    have HLEN := hu hlen
    have HS := hu hS
    have HA := hu hA
    clear hs0 hr hlen hS hA
    have HE3 := hu ((HE2.out ()).adv (HA.out ()))
    have HB3 := hu ((HA.out ()).blk (HB2.out ()) (HAP2.out ()))
    by_cases hlt : n < 63
    · have hdn : decide ((n : Int) + 1 < 64) = true := by simp; omega
      obtain ⟨z, hz⟩ : ∃ z, unzigL.getD (n + 1) 0 = z := ⟨_, rfl⟩
      have hz2 := unzig_lt (n + 1) (by omega)
      have cz : wr.cell? ⟨1, n + 1, none⟩ = some (.int .i64 z) := by rw [(HE3.out ()).gl.uz (n + 1) (by omega), hz]
      have cD : wr.cell? ⟨B, z.toNat, none⟩ = some (I32 ((dctP M).getD z.toNat 0)) := int_cells (HB3.out ()) z.toNat (by rw [(HLD.out ())]; omega)
      have cQ : wr.cell? ⟨I.E, 20 + qi * 64 + (n + 1), none⟩ = some (B8 (q.getD (qi * 64 + (n + 1)) 0)) := by rw [Nat.add_assoc]; exact (HS.out ()).enc.cq (qi * 64 + (n + 1)) (by omega)
      rw [hz] at hz2
      have hz3 := hz2.1
      have hz4 := hz2.2
      obtain ⟨bD1', bD2'⟩ := (HD.out ()) z.toNat (by omega)
      obtain ⟨bQ1', bQ2'⟩ := (HQ.out ()) (qi * 64 + (n + 1)) (by omega)
      have hcf : coef (dctP M) q qi (n + 1) = divP ((dctP M).getD z.toNat 0) (8 * q.getD (qi * 64 + (n + 1)) 0) := by
        unfold coef; rw [Nat.mul_comm 64 qi, hz]
      obtain ⟨d1, hd1⟩ : ∃ d, (dctP M).getD z.toNat 0 = d := ⟨_, rfl⟩
      obtain ⟨q1, hq1⟩ : ∃ d, q.getD (qi * 64 + (n + 1)) 0 = d := ⟨_, rfl⟩
      obtain ⟨x, hx⟩ : ∃ x, coef (dctP M) q qi (n + 1) = x := ⟨_, rfl⟩
      rw [hd1] at cD bD1' bD2' hcf
      rw [hq1] at cQ bQ1' bQ2' hcf
      rw [hx] at hcf
      have HXC := hu (show x.natAbs ≤ 1023 from by rw [← hx]; exact (HAC.out ()) (n + 1) (by omega) (by omega))
      have HX := hu hx
      have HDD := hu hcf.symm
      clear hz hz2 hcf hd1 hq1 hx
      go_wp2_with fail
      go_quiet ((go_at_call 59; exact Calls.quiet_of_same (div_q _ _ _ (by omega) (by omega) (by omega) (by omega))))
      rw [(HDD.out ())]
      by_cases hx0 : x = 0
      · subst hx0
        go_wp2
        go_roundw
        case rel =>
          have e : acN la (coef (dctP M) q qi) s1 (n + 1) = (s0, r + 1) := by
            show acStep _ _ _ = _
            rw [(HX.out ())]; unfold acStep; rw [if_pos rfl, (HS0.out ()), (HR.out ())]
          refine ⟨n + 1, v3, by omega, by go_num, ?_, ?_, ?_, ?_⟩
          · rw [e]; go_num
          · rw [e]; have := HLEN.out (); show s0.c.length ≤ _; omega
          · rw [e]; exact (HS.out ()).drewN nq
          · exact (HA.out ()).drewN nq
        case measure => simp [intOf]; omega
      · have hxb : (x == 0) = false := by simpa using hx0
        have hx0' := hu hx0
        clear hx0 cz cD cQ
        have HS4 := hu ((HS.out ()).drewN nq)
        have HA4 := hu ((HA.out ()).drewN nq)
        have HE4 := hu ((HE3.out ()).drewN nq)
        go_wp2
        obtain ⟨wo, rfl⟩ : ∃ wo : World, wo = wr := ⟨_, rfl⟩
        go_loopw [11] (fun run w' => ZrlRel (wo.drewN nq) I v3 la s0 r sc q run w') (fun run _ => (intOf run).toNat)
        case atStart => exact ⟨0, v3, by omega, by simp, by simp [BS.zrl], HS4.out (), AdvE.refl _ _ _⟩
        case round =>
          obtain ⟨m, v4, hm, rfl, hlen4, hS4, hA4⟩ := hrel
          have HLEN4 := hu hlen4
          have HS5 := hu hS4
          have HA5 := hu hA4
          have HE5 := hu ((HE4.out ()).adv hA4)
          clear hlen4 hS4 hA4
          by_cases h15 : 15 < (r : Int) - 16 * m
          · go_wp2_with fail
            refine (huffI (HS5.out ()) (HCA.out ()) (2 * qi + 1) 240 (I.LA qi) _ _ (by omega) (by omega) (by omega) ((HS5.out ()).enc.cac qi hq) (HE5.out ()).ba (by omega) (by have := Hsm.out (); have := HLEN4.out (); have := HLEN.out (); have := Hs1.out (); omega)).mono ?_
            rintro e w5 ⟨rfl, v5, h5, a5⟩
            have H5 := hu h5
            have A5 := hu a5
            clear h5 a5
            go_wp2
            go_roundw
            case rel =>
              have hrel2 : ZrlRel (wo.drewN nq) I v3 la s0 r sc q (.int .i32 ((r : Int) - 16 * m - 16)) w5 := by
                refine ⟨m + 1, v5, by omega, by congr 1; omega, ?_, H5.out (), (HA5.out ()).trans (A5.out ())⟩
                have e1 := (s0.zrl la m).huff_len la 240 (HCA.out ()) (by omega) (HS5.out ()).hnb
                have e2 : (s0.zrl la (m + 1)).c.length = ((s0.zrl la m).huff la 240).c.length := rfl
                have := HLEN4.out ()
                omega
              first | exact hrel2 | ((repeat apply Exists.intro); exact ⟨hrel2, rfl⟩)
            case measure => simp [intOf]; omega
          · have hr1 : r % 16 = r - 16 * m := by omega
            have hr2 : r / 16 = m := by omega
            have HR1 := hu hr1
            have HR2 := hu hr2
            have hcat2 : cat x.natAbs ≤ 10 := cat_le _ 10 (by have := HXC.out (); omega)
            have HC2 := hu hcat2
            have hb16 : r - 16 * m < 16 := by omega
            clear hr1 hr2 hcat2
            go_wp2_with fail
            refine (codeI (HS5.out ()) (HCA.out ()) (2 * qi + 1) (r - 16 * m) x (I.LA qi) _ _ (by omega) (by omega) (by omega) hb16 (by have := HXC.out (); omega) (HE5.out ()).gl.bc ((HS5.out ()).enc.cac qi hq) (HE5.out ()).ba (by have := HC2.out (); omega) (by have := Hsm.out (); have := HLEN4.out (); have := HLEN.out (); have := Hs1.out (); omega)).mono ?_
            rintro e w5 ⟨rfl, v5, h5, a5⟩
            have H5 := hu h5
            have A5 := hu a5
            clear h5 a5
            go_wp2
            go_roundw
            case rel =>
              have e : acN la (coef (dctP M) q qi) s1 (n + 1) = ((s0.zrl la m).code la (r - 16 * m) x, 0) := by
                show acStep _ _ _ = _
                rw [(HX.out ())]; unfold acStep; rw [if_neg (hx0'.out ()), (HS0.out ()), (HR.out ()), (HR1.out ()), (HR2.out ())]
              refine ⟨n + 1, v5, by omega, by go_num, ?_, ?_, ?_, ?_⟩
              · rw [e]; rfl
              · rw [e]
                have c1 : (r - 16 * m) * 16 + cat x.natAbs < 251 := by have := HC2.out (); omega
                have e1 := (s0.zrl la m).huff_len la ((r - 16 * m) * 16 + cat x.natAbs) (HCA.out ()) c1 (HS5.out ()).hnb
                have e2 := BS.put_inv (s0.zrl la m) (la.getD ((r - 16 * m) * 16 + cat x.natAbs) 0 % 16777216) (la.getD ((r - 16 * m) * 16 + cat x.natAbs) 0 / 16777216) (HS5.out ()).hA ((HCA.out ()).fits _ c1).1
                have e3 := BS.put_len ((s0.zrl la m).huff la ((r - 16 * m) * 16 + cat x.natAbs)) (mag x) (cat x.natAbs) e2.2 (by have := HC2.out (); omega)
                have e4 : ((s0.zrl la m).code la (r - 16 * m) x).c.length = (((s0.zrl la m).huff la ((r - 16 * m) * 16 + cat x.natAbs)).put (mag x) (cat x.natAbs)).c.length := rfl
                have e5 := HLEN4.out ()
                have e6 := HLEN.out ()
                show ((s0.zrl la m).code la (r - 16 * m) x).c.length ≤ _
                omega
              · rw [e]; exact H5.out ()
              · exact (HA4.out ()).trans ((HA5.out ()).trans (A5.out ()))
            case measure => simp [intOf]; omega
    · obtain rfl : n = 63 := by omega
      have Hblk : Hid (Unit → s.block ld la (dc - prev) (coef (dctP M) q qi) = if 0 < r then s0.huff la 0 else s0) := hu (by
        unfold BS.block
        simp only [HS1.out ()]
        rw [HS0.out (), HR.out ()])
      by_cases hr0 : 0 < r
      · have hd : decide (0 < (r : Int)) = true := by simp; omega
        go_wp2_with fail
        refine (huffI (HS.out ()) (HCA.out ()) (2 * qi + 1) 0 (I.LA qi) _ _ (by omega) (by omega) (by omega) ((HS.out ()).enc.cac qi hq) (HE3.out ()).ba (by omega) (by have := Hsm.out (); have := HLEN.out (); have := Hs1.out (); omega)).mono ?_
        rintro e w5 ⟨rfl, v5, h5, a5⟩
        have H5 := hu h5
        have A5 := hu a5
        clear h5 a5
        go_wp2
        go_ret
        rw [HDV.out (), Hblk.out (), if_pos hr0]
        refine ⟨rfl, v5, H5.out (), (A5.out ()).blk (HB3.out ()) ((HAP2.out ()).adv (HA.out ())), ?_⟩
        have A6 := ((A2.out ()).trans (HA.out ())).trans (A5.out ())
        exact ⟨((HF1.out ()).mono (fun _ _ e => .inr e)).trans ((A6.ofDrewN).fr.mono (fun _ _ e => e)) (fun _ _ e => .inl e), by
          have := A6.mv
          rcases this with e | e
          · exact .inl e
          · exact .inr fun k hk => Nat.le_trans (HF1.out ()).size (e k hk)⟩
      · obtain rfl : r = 0 := by omega
        go_wp2
        go_ret
        rw [HDV.out (), Hblk.out (), if_neg (by omega)]
        refine ⟨rfl, v3, HS.out (), HB3.out (), ?_⟩
        have A6 := (A2.out ()).trans (HA.out ())
        exact ⟨((HF1.out ()).mono (fun _ _ e => .inr e)).trans ((A6.ofDrewN).fr.mono (fun _ _ e => e)) (fun _ _ e => .inl e), by
          have := A6.mv
          rcases this with e | e
          · exact .inl e
          · exact .inr fun k hk => Nat.le_trans (HF1.out ()).size (e k hk)⟩
end Go.Proofs.YtpophkigihfjoaaDoor
