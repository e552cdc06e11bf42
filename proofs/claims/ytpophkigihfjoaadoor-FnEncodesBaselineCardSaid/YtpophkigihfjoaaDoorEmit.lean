/- The walk of the encoder's emit. -/
import Derived.Test.YtpophkigihfjoaaDoorEncB
namespace Go.Proofs.YtpophkigihfjoaaDoor
open Go.RowKit
set_option maxRecDepth 100000

/-- The bytes that go out of V, N bits long, and what is left of it; a byte 255 has a byte 0 behind it. -/
def drain (V N : Nat) : List Int × Nat × Nat :=
  if h : N < 8 then ([], V, N) else
  let r := drain (V % 2 ^ (N - 8)) (N - 8)
  (((V / 2 ^ (N - 8) : Nat) : Int) :: ((if V / 2 ^ (N - 8) = 255 then [0] else []) ++ r.1), r.2)
termination_by N
decreasing_by omega

theorem or_shift (b n A nb : Nat) (hb : b < 2 ^ n) (hA : A < 2 ^ nb) (hN : n + nb ≤ 32) :
    bits BinOp.or IntKind.u32 ((b : Int) * 2 ^ (32 - (n + nb)) % 4294967296) ((A : Int) * 2 ^ (32 - nb)) = ((A : Int) * 2 ^ n + b) * 2 ^ (32 - (nb + n)) := by
  have e1 : 2 ^ n * 2 ^ (32 - (n + nb)) = 2 ^ (32 - nb) := by rw [← Nat.pow_add, show n + (32 - (n + nb)) = 32 - nb from by omega]
  have h1 : b * 2 ^ (32 - (n + nb)) < 2 ^ (32 - nb) := by rw [← e1]; exact Nat.mul_lt_mul_of_pos_right hb (Nat.pow_pos (by omega))
  have h2 : 2 ^ (32 - nb) ≤ 4294967296 := Nat.pow_le_pow_right (by omega) (show 32 - nb ≤ 32 by omega)
  have h3 : A * 2 ^ (32 - nb) < 4294967296 := by
    have : 2 ^ nb * 2 ^ (32 - nb) = 4294967296 := by rw [← Nat.pow_add, show nb + (32 - nb) = 32 from by omega]
    rw [← this]; exact Nat.mul_lt_mul_of_pos_right hA (Nat.pow_pos (by omega))
  have c1 : (b : Int) * 2 ^ (32 - (n + nb)) % 4294967296 = ((b * 2 ^ (32 - (n + nb)) : Nat) : Int) := by
    have : (b : Int) * 2 ^ (32 - (n + nb)) = ((b * 2 ^ (32 - (n + nb)) : Nat) : Int) := by push_cast; rfl
    rw [this]; omega
  have c2 : (A : Int) * 2 ^ (32 - nb) = ((A * 2 ^ (32 - nb) : Nat) : Int) := by push_cast; rfl
  rw [c1, c2, bits_or_u32 _ _ (by omega) h3, Nat.or_comm, or_low _ _ _ h1, ← e1, Nat.add_comm nb n]
  push_cast
  rw [Int.add_mul, Int.mul_assoc]

theorem mix_lt (b n A nb : Nat) (hb : b < 2 ^ n) (hA : A < 2 ^ nb) : A * 2 ^ n + b < 2 ^ (nb + n) := by
  rw [Nat.pow_add]
  have h1 : (A + 1) * 2 ^ n ≤ 2 ^ nb * 2 ^ n := Nat.mul_le_mul_right _ hA
  rw [Nat.add_mul] at h1
  omega

theorem top_byte (V N : Nat) (hV : V < 2 ^ N) (h8 : 8 ≤ N) (hN : N ≤ 23) : (V : Int) * 2 ^ (32 - N) / 16777216 % 256 = ((V / 2 ^ (N - 8) : Nat) : Int) := by
  have h1 : 2 ^ (32 - N) * 2 ^ (N - 8) = 16777216 := by rw [← Nat.pow_add, show 32 - N + (N - 8) = 24 from by omega]
  have h2 : V * 2 ^ (32 - N) / 16777216 = V / 2 ^ (N - 8) := by
    rw [← h1, Nat.mul_comm (2 ^ (32 - N)), Nat.mul_div_mul_right _ _ (Nat.pow_pos (by omega))]
  have h3 : V / 2 ^ (N - 8) < 256 := by
    rw [Nat.div_lt_iff_lt_mul (Nat.pow_pos (by omega))]
    have : 256 * 2 ^ (N - 8) = 2 ^ N := by rw [show (256 : Nat) = 2 ^ 8 from rfl, ← Nat.pow_add, show 8 + (N - 8) = N from by omega]
    omega
  have h4 : (V : Int) * 2 ^ (32 - N) = ((V * 2 ^ (32 - N) : Nat) : Int) := by push_cast; rfl
  rw [h4]
  omega

theorem rest_bits (V N : Nat) (hV : V < 2 ^ N) (h8 : 8 ≤ N) (hN : N ≤ 23) : (V : Int) * 2 ^ (32 - N) * 256 % 4294967296 = ((V % 2 ^ (N - 8) * 2 ^ (32 - (N - 8)) : Nat) : Int) := by
  have h1 : 2 ^ (32 - (N - 8)) = 2 ^ (32 - N) * 256 := by rw [show 32 - (N - 8) = (32 - N) + 8 from by omega, Nat.pow_add]
  have h2 : 2 ^ (N - 8) * 2 ^ (32 - (N - 8)) = 4294967296 := by rw [← Nat.pow_add, show N - 8 + (32 - (N - 8)) = 32 from by omega]
  have h4 : (V : Int) * 2 ^ (32 - N) * 256 = ((V * 2 ^ (32 - (N - 8)) : Nat) : Int) := by rw [h1]; push_cast; rw [Int.mul_assoc]
  have h5 : V * 2 ^ (32 - (N - 8)) % 4294967296 = V % 2 ^ (N - 8) * 2 ^ (32 - (N - 8)) := by
    rw [← h2, Nat.mul_mod_mul_right]
  rw [h4, ← h5]
  omega

/-- What holds at the head of emit's loop. -/
def EmitRel (w : World) (I : Ids) (v : Value) (c : List Int) (A nb : Nat) (sc q : List Int) (V0 N0 : Nat) (x y : Value) (wr : World) : Prop :=
  ∃ (V N : Nat) (v' : Value) (c' : List Int), x = .int .u32 ((V : Int) * 2 ^ (32 - N)) ∧ y = .int .u32 (N : Int) ∧ V < 2 ^ N ∧ N ≤ 23 ∧ c'.length + N / 4 ≤ c.length + 6 ∧ EncW wr I v' c' A nb sc q ∧ AdvE I v v' w wr ∧
    c' ++ (drain V N).1 = c ++ (drain V0 N0).1 ∧ (drain V N).2 = (drain V0 N0).2

theorem drain_big (V N : Nat) (h8 : 8 ≤ N) : drain V N = (((V / 2 ^ (N - 8) : Nat) : Int) :: ((if V / 2 ^ (N - 8) = 255 then [0] else []) ++ (drain (V % 2 ^ (N - 8)) (N - 8)).1), (drain (V % 2 ^ (N - 8)) (N - 8)).2) := by
  rw [drain, dif_neg (by omega)]

theorem drain_small (V N : Nat) (h8 : N < 8) : drain V N = ([], V, N) := by rw [drain, dif_pos h8]

theorem emit_step {w w2 : World} {I : Ids} {v v2 : Value} {c c' ex : List Int} {A nb : Nat} {sc q : List Int} {V0 N0 V N : Nat} (h8 : 8 ≤ N) (hN : N ≤ 23) (hV : V < 2 ^ N)
    (hc : c'.length + N / 4 ≤ c.length + 6) (hE : EncW w2 I v2 (c' ++ ((V / 2 ^ (N - 8) : Nat) : Int) :: ex) A nb sc q) (ha : AdvE I v v2 w w2)
    (hex : ex = if V / 2 ^ (N - 8) = 255 then [0] else []) (hd1 : c' ++ (drain V N).1 = c ++ (drain V0 N0).1) (hd2 : (drain V N).2 = (drain V0 N0).2) :
    EmitRel w I v c A nb sc q V0 N0 (.int .u32 ((V : Int) * 2 ^ (32 - N) * 256 % 4294967296)) (.int .u32 ((N : Int) - 8)) w2 := by
  have hex2 : ex.length ≤ 1 := by rw [hex]; split <;> simp
  refine ⟨V % 2 ^ (N - 8), N - 8, v2, _, by rw [rest_bits V N hV h8 hN]; push_cast; rfl, by congr 1; omega, Nat.mod_lt _ (Nat.pow_pos (by omega)), by omega, ?_, hE, ha, ?_, ?_⟩
  · simp only [List.length_append, List.length_cons]; omega
  · rw [← hd1, drain_big V N h8, ← hex]; simp
  · rw [← hd2, drain_big V N h8]

set_option maxHeartbeats 400000 in
theorem emit_any {w : World} {I : Ids} {v : Value} {c : List Int} {A nb : Nat} {sc q : List Int} (h : EncW w I v c A nb sc q) (b n : Nat) (hb : b < 2 ^ n) (hn : n ≤ 16) (hA : A < 2 ^ nb) (hnb : nb ≤ 7)
    (hsm : c.length + 8 ≤ BIG) :
    Calls Tryd.prog 53 #[.pointer (some ⟨I.E, 0, none⟩), W32 b, W32 n] w fun e w' => e = .returned (.tuple #[]) ∧
      ∃ v', EncW w' I v' (c ++ (drain (A * 2 ^ n + b) (nb + n)).1) (drain (A * 2 ^ n + b) (nb + n)).2.1 (drain (A * 2 ^ n + b) (nb + n)).2.2 sc q ∧ AdvE I v v' w w' := by
  have c18 := h.c18
  have c19 := h.c19
  have H := Lib.hid h
  have Hsm := Lib.hid hsm
  clear h hsm
  go_enter Tryd.func53, Tryd.ntmps53
  have ho := or_shift b n A nb hb hA (by omega)
  have HO := Lib.hid ho
  clear ho
  go_wp2
  rw [HO.out]
  clear c18 c19
  go_loopw [1, 2] (fun x y wr => EmitRel w I v c A nb sc q (A * 2 ^ n + b) (nb + n) x y wr) (fun _ y _ => (intOf y).toNat)
  case atStart =>
    refine ⟨A * 2 ^ n + b, nb + n, v, c, by push_cast; rfl, by simp; omega, ?_, by omega, by omega, H.out, AdvE.refl _ _ _, rfl, rfl⟩
    exact mix_lt b n A nb hb hA
  case round =>
    obtain ⟨V, N, v', c', rfl, rfl, hV, hN, hc', hE, hadv, hd1, hd2⟩ := hrel
    have HE := Lib.hid hE
    have Hadv := Lib.hid hadv
    have Hd1 := Lib.hid hd1
    have Hd2 := Lib.hid hd2
    clear hE hadv hd1 hd2
    by_cases h8 : 8 ≤ N
    · have hd : decide (8 ≤ (N : Int)) = true := by simp; omega
      have TB := Lib.hid (top_byte V N hV h8 hN)
      have RB := Lib.hid (rest_bits V N hV h8 hN)
      obtain ⟨B, hB⟩ : ∃ B, B = V / 2 ^ (N - 8) := ⟨_, rfl⟩
      have HB := Lib.hid hB
      clear hB
      have hl1 : c'.length < BIG := by have := Hsm.out; omega
      have hl2 : (c' ++ [(B : Int)]).length < BIG := by have := Hsm.out; simp; omega
      have Hl1 := Lib.hid hl1
      have Hl2 := Lib.hid hl2
      clear hl1 hl2
      go_wp2_with fail
      rw [TB.out, ← HB.out]
      refine (ebyte HE.out (B : Int) Hl1.out).mono ?_
      rintro e w1 ⟨rfl, v1, hE1, ha1⟩
      have HE1 := Lib.hid hE1
      have Ha1 := Lib.hid ha1
      clear hE1 ha1
      by_cases h255 : B = 255
      · have hq : ((B : Int) == 255) = true := by simpa using (by omega : (B : Int) = 255)
        have H255 := Lib.hid h255
        clear h255
        go_wp2_with fail
        refine (ebyte HE1.out 0 Hl2.out).mono ?_
        rintro e w2 ⟨rfl, v2, hE2, ha2⟩
        have HE2 := Lib.hid hE2
        have Ha2 := Lib.hid ha2
        clear hE2 ha2
        go_wp2
        go_roundw
        case rel =>
          have hE3 := HE2.out
          rw [List.append_assoc, List.singleton_append, HB.out] at hE3
          exact emit_step h8 hN hV hc' hE3 ((Hadv.out.trans Ha1.out).trans Ha2.out) (by rw [← HB.out, if_pos H255.out]) Hd1.out Hd2.out
        case measure => simp [intOf]; omega
      · have hq : ((B : Int) == 255) = false := by simpa using (by omega : ¬ (B : Int) = 255)
        have H255 := Lib.hid h255
        clear h255
        go_wp2
        go_roundw
        case rel =>
          have hE3 := HE1.out
          rw [HB.out] at hE3
          exact emit_step h8 hN hV hc' hE3 (Hadv.out.trans Ha1.out) (by rw [← HB.out, if_neg H255.out]) Hd1.out Hd2.out
        case measure => simp [intOf]; omega
    · have hd : decide (8 ≤ (N : Int)) = false := by simp; omega
      have d18 := HE.out.c18
      have d19 := HE.out.c19
      have f18 := HE.out.fz 18
      have f19 := HE.out.fz 19
      have hsm8 := drain_small V N (by omega)
      have Hs8 := Lib.hid hsm8
      clear hsm8
      go_wp2
      go_end0
      refine ⟨rfl, v', ?_, (Hadv.out.setCell (a := ⟨I.E, 18, none⟩) rfl _).setCell (a := ⟨I.E, 19, none⟩) rfl _⟩
      have e1 := Hd1.out
      have e2 := Hd2.out
      rw [Hs8.out] at e1 e2
      rw [← e1, ← e2, List.append_nil]
      exact HE.out.setBits V N _ _ (by push_cast; rfl) rfl
end Go.Proofs.YtpophkigihfjoaaDoor
