/- The walks of emitHuff, emitHuffRLE and div. -/
import Derived.Test.YtpophkigihfjoaaDoorEmit
namespace Go.Proofs.YtpophkigihfjoaaDoor
open Go.RowKit
set_option maxRecDepth 100000

theorem and_24 (b n : Nat) (hb : b < 16777216) (hn : n < 256) : bits BinOp.and IntKind.u32 ((n : Int) * 16777216 + b) 16777215 = (b : Int) := by
  have h : (n : Int) * 16777216 + b = ((n * 16777216 + b : Nat) : Int) := by omega
  have := bits_and_u32 (n * 16777216 + b) 16777215 (by omega) (by omega)
  rw [h]
  rw [show ((16777215 : Nat) : Int) = 16777215 from rfl] at this
  rw [this]
  have e := Nat.and_two_pow_sub_one_eq_mod (n * 16777216 + b) 24
  rw [show 2 ^ 24 - 1 = 16777215 from rfl, show 2 ^ 24 = 16777216 from rfl] at e
  rw [e]
  omega

set_option maxHeartbeats 400000 in
theorem ehuff {w : World} {I : Ids} {v : Value} {c : List Int} {A nb : Nat} {sc q : List Int} (h : EncW w I v c A nb sc q) (t k L len b n : Nat) (ht : t < 4)
    (hl : w.cell? ⟨I.E, 148 + t, none⟩ = some (.slice (some ⟨L, 0, none⟩) len len)) (hk : k < len) (hx : w.cell? ⟨L, k, none⟩ = some (.int .u32 ((n : Int) * 16777216 + b)))
    (hb : b < 2 ^ n) (hn : n ≤ 16) (hA : A < 2 ^ nb) (hnb : nb ≤ 7) (hsm : c.length + 8 ≤ BIG) :
    Calls Tryd.prog 61 #[.pointer (some ⟨I.E, 0, none⟩), .int .i64 t, .int .i32 k] w fun e w' => e = .returned (.tuple #[]) ∧
      ∃ v', EncW w' I v' (c ++ (drain (A * 2 ^ n + b) (nb + n)).1) (drain (A * 2 ^ n + b) (nb + n)).2.1 (drain (A * 2 ^ n + b) (nb + n)).2.2 sc q ∧ AdvE I v v' w w' := by
  have hb24 : b < 16777216 := by
    have : 2 ^ n ≤ 2 ^ 16 := Nat.pow_le_pow_right (by omega) hn
    omega
  have ha := Lib.hid (and_24 b n hb24 (by omega))
  have hs := Lib.hid (show ((n : Int) * 16777216 + b) / 16777216 = n by omega)
  have H := Lib.hid h
  have Hsm := Lib.hid hsm
  have Hb := Lib.hid hb
  have HA := Lib.hid hA
  clear h hsm hb hA
  go_enter Tryd.func61, Tryd.ntmps61
  go_wp2_with fail
  rw [ha.out, hs.out]
  refine (emit_any H.out b n Hb.out hn HA.out hnb Hsm.out).mono ?_
  rintro e w1 ⟨rfl, hp⟩
  have HP := Lib.hid hp
  clear hp hl hx
  go_wp2
  go_end0
  exact ⟨rfl, HP.out⟩

/-- A number without its fraction, rounded away from zero at one half. -/
def divP (a b : Int) : Int := if 0 ≤ a then (a + b / 2) / b else -((-a + b / 2) / b)

set_option maxHeartbeats 400000 in
theorem div_any (a b : Int) (w : World) (hb : 8 ≤ b) (hb2 : b ≤ 2040) (ha : -100000000 ≤ a) (ha2 : a ≤ 100000000) :
    Calls Tryd.prog 59 #[.int .i32 a, .int .i32 b] w fun e w' => e = .returned (.int .i32 (divP a b)) ∧ w = w' := by
  by_cases h : 0 ≤ a
  · have hd : divP a b = (a + b / 2) / b := by unfold divP; rw [if_pos h]
    rw [hd]
    clear hd
    go_enter Tryd.func59, Tryd.ntmps59
    go_wp2
    go_ret
    exact ⟨rfl, rfl⟩
  · have hd : divP a b = -((-a + b / 2) / b) := by unfold divP; rw [if_neg h]
    rw [hd]
    clear hd
    have y0 : 0 ≤ (-a + b / 2) / b := Int.ediv_nonneg (by omega) (by omega)
    have y1 : (-a + b / 2) / b ≤ -a + b / 2 := Int.ediv_le_self _ (by omega)
    have y2 : (-a + b / 2) / b ≤ 200000000 := by omega
    go_enter Tryd.func59, Tryd.ntmps59
    go_wp2
    go_ret
    exact ⟨rfl, rfl⟩

/-- The state of the bit stream: the bytes that are out, and what waits (A, nb bits long). -/
structure BS where
  c : List Int
  A : Nat
  nb : Nat

/-- n bits more. -/
def BS.put (s : BS) (b n : Nat) : BS := ⟨s.c ++ (drain (s.A * 2 ^ n + b) (s.nb + n)).1, (drain (s.A * 2 ^ n + b) (s.nb + n)).2.1, (drain (s.A * 2 ^ n + b) (s.nb + n)).2.2⟩

theorem drain_inv : ∀ (N V : Nat), V < 2 ^ N → (drain V N).2.1 < 2 ^ (drain V N).2.2 ∧ (drain V N).2.2 ≤ 7 := by
  intro N
  induction N using Nat.strongRecOn with
  | _ N ih =>
    intro V hV
    by_cases h : N < 8
    · rw [drain_small V N h]; exact ⟨hV, by show N ≤ 7; omega⟩
    · rw [drain_big V N (by omega)]
      exact ih (N - 8) (by omega) _ (Nat.mod_lt _ (Nat.pow_pos (by omega)))

theorem drain_len : ∀ (N V : Nat), (drain V N).1.length ≤ N / 4 := by
  intro N
  induction N using Nat.strongRecOn with
  | _ N ih =>
    intro V
    by_cases h : N < 8
    · rw [drain_small V N h]; simp
    · rw [drain_big V N (by omega)]
      have := ih (N - 8) (by omega) (V % 2 ^ (N - 8))
      simp only [List.length_cons, List.length_append]
      split <;> simp <;> omega

/-- The encoder stands at this state of the bit stream. -/
structure EncS (w : World) (I : Ids) (v : Value) (s : BS) (sc q : List Int) : Prop where
  enc : EncW w I v s.c s.A s.nb sc q
  hA : s.A < 2 ^ s.nb
  hnb : s.nb ≤ 7

theorem BS.put_inv (s : BS) (b n : Nat) (hA : s.A < 2 ^ s.nb) (hb : b < 2 ^ n) : (s.put b n).A < 2 ^ (s.put b n).nb ∧ (s.put b n).nb ≤ 7 :=
  drain_inv _ _ (mix_lt b n s.A s.nb hb hA)

theorem BS.put_zero (s : BS) (h : s.nb ≤ 7) : s.put 0 0 = s := by
  unfold BS.put
  simp [drain_small s.A s.nb (by omega)]

theorem BS.put_len (s : BS) (b n : Nat) (hnb : s.nb ≤ 7) (hn : n ≤ 16) : (s.put b n).c.length ≤ s.c.length + 5 := by
  have := drain_len (s.nb + n) (s.A * 2 ^ n + b)
  show (s.c ++ _).length ≤ _
  rw [List.length_append]
  omega

theorem emitS {w : World} {I : Ids} {v : Value} {s : BS} {sc q : List Int} (h : EncS w I v s sc q) (b n : Nat) (hb : b < 2 ^ n) (hn : n ≤ 16) (hsm : s.c.length + 8 ≤ BIG) :
    Calls Tryd.prog 53 #[.pointer (some ⟨I.E, 0, none⟩), W32 b, W32 n] w fun e w' => e = .returned (.tuple #[]) ∧ ∃ v', EncS w' I v' (s.put b n) sc q ∧ AdvE I v v' w w' := by
  refine (emit_any h.enc b n hb hn h.hA h.hnb hsm).mono ?_
  rintro e w' ⟨rfl, v', h1, h2⟩
  have := s.put_inv b n h.hA hb
  exact ⟨rfl, v', ⟨h1, this.1, this.2⟩, h2⟩

theorem huffS {w : World} {I : Ids} {v : Value} {s : BS} {sc q : List Int} (h : EncS w I v s sc q) (t k L len b n : Nat) (ht : t < 4)
    (hl : w.cell? ⟨I.E, 148 + t, none⟩ = some (.slice (some ⟨L, 0, none⟩) len len)) (hk : k < len) (hx : w.cell? ⟨L, k, none⟩ = some (.int .u32 ((n : Int) * 16777216 + b)))
    (hb : b < 2 ^ n) (hn : n ≤ 16) (hsm : s.c.length + 8 ≤ BIG) :
    Calls Tryd.prog 61 #[.pointer (some ⟨I.E, 0, none⟩), .int .i64 t, .int .i32 k] w fun e w' => e = .returned (.tuple #[]) ∧ ∃ v', EncS w' I v' (s.put b n) sc q ∧ AdvE I v v' w w' := by
  refine (ehuff h.enc t k L len b n ht hl hk hx hb hn h.hA h.hnb hsm).mono ?_
  rintro e w' ⟨rfl, v', h1, h2⟩
  have := s.put_inv b n h.hA hb
  exact ⟨rfl, v', ⟨h1, this.1, this.2⟩, h2⟩

end Go.Proofs.YtpophkigihfjoaaDoor
