/- The walk of emitHuffRLE. -/
import Derived.Test.YtpophkigihfjoaaDoorHuff
namespace Go.Proofs.YtpophkigihfjoaaDoor
open Go.RowKit
set_option maxRecDepth 100000

/-- How many bits a number needs. -/
def cat (n : Nat) : Nat := if n = 0 then 0 else Nat.log2 n + 1

theorem cat_lt (n : Nat) : n < 2 ^ cat n := by
  unfold cat
  split
  · omega
  · exact Nat.lt_log2_self

theorem cat_pos (n : Nat) (h : 1 ≤ n) : 0 < cat n := by
  unfold cat
  rw [if_neg (by omega)]
  omega

theorem cat_le (n k : Nat) (h : n < 2 ^ k) : cat n ≤ k := by
  unfold cat
  split
  · omega
  · rename_i h0
    have := (Nat.log2_lt h0).2 h
    omega

theorem cat_big (n : Nat) (h : 256 ≤ n) : cat n = 8 + cat (n / 256) := by
  have h1 : n / 256 ≠ 0 := by omega
  have h2 : n ≠ 0 := by omega
  unfold cat
  rw [if_neg h1, if_neg h2]
  have e1 := Nat.log2_self_le h2
  have e2 := Nat.lt_log2_self (n := n)
  have h8 : 8 ≤ Nat.log2 n := (Nat.le_log2 h2).2 (by omega)
  have e3 : Nat.log2 (n / 256) = Nat.log2 n - 8 := by
    rw [Nat.log2_eq_iff h1]
    have p1 : 2 ^ Nat.log2 n = 2 ^ (Nat.log2 n - 8) * 256 := by
      rw [show (256 : Nat) = 2 ^ 8 from rfl, ← Nat.pow_add, show Nat.log2 n - 8 + 8 = Nat.log2 n from by omega]
    have p2 : 2 ^ (Nat.log2 n + 1) = 2 ^ (Nat.log2 n - 8 + 1) * 256 := by
      rw [show (256 : Nat) = 2 ^ 8 from rfl, ← Nat.pow_add, show Nat.log2 n - 8 + 1 + 8 = Nat.log2 n + 1 from by omega]
    omega
  omega

theorem mask_eq (k : Nat) (hk : k ≤ 11) : ((2 : Int) ^ k - 1) % 4294967296 = ((2 ^ k - 1 : Nat) : Int) := by
  have h1 : 2 ^ k ≤ 2 ^ 11 := Nat.pow_le_pow_right (by omega) hk
  have h2 : 0 < 2 ^ k := Nat.pow_pos (by omega)
  have h3 : (2 : Int) ^ k = ((2 ^ k : Nat) : Int) := by push_cast; rfl
  rw [h3]
  omega

theorem and_mask (m k : Nat) (hm : m < 2 ^ k) (hk : k ≤ 11) : bits BinOp.and IntKind.u32 (m : Int) ((2 ^ k - 1) % 4294967296) = (m : Int) := by
  have h1 : 2 ^ k ≤ 2 ^ 11 := Nat.pow_le_pow_right (by omega) hk
  rw [mask_eq k hk, bits_and_u32 _ _ (by omega) (by omega), Nat.and_two_pow_sub_one_eq_mod, Nat.mod_eq_of_lt hm]

/-- The low bits of a negative number. -/
theorem and_mask_neg (m k : Nat) (hm : m < 2 ^ k) (hk : k ≤ 11) : bits BinOp.and IntKind.u32 ((-(m : Int) - 1) % 4294967296) ((2 ^ k - 1) % 4294967296) = ((2 ^ k - 1 - m : Nat) : Int) := by
  have h1 : 2 ^ k ≤ 2 ^ 11 := Nat.pow_le_pow_right (by omega) hk
  rw [mask_eq k hk, show (-(m : Int) - 1) % 4294967296 = ((4294967296 - m - 1 : Nat) : Int) from by omega, bits_and_u32 _ _ (by omega) (by omega), Nat.and_two_pow_sub_one_eq_mod]
  have h2 : 4294967296 = 2 ^ k * 2 ^ (32 - k) := by rw [← Nat.pow_add, show k + (32 - k) = 32 from by omega]
  have h3 : 4294967296 - m - 1 = (2 ^ k - 1 - m) + 2 ^ k * (2 ^ (32 - k) - 1) := by
    rw [Nat.mul_sub, ← h2, Nat.mul_one]; omega
  rw [h3, Nat.add_mul_mod_self_left, Nat.mod_eq_of_lt (by omega)]

theorem or_run (run k : Nat) (hr : run < 16) (hk : k ≤ 11) : bits BinOp.or IntKind.i32 ((run : Int) * 16) (k : Int) = ((run * 16 + k : Nat) : Int) := by
  have := bits_or_i32 (run * 16) k (by omega) (by omega)
  rw [show ((run * 16 : Nat) : Int) = (run : Int) * 16 from by omega, show run * 16 ||| k = run * 16 + k from or_low run 4 k (by omega)] at this
  exact this

set_option maxHeartbeats 400000 in
theorem rle_pos {w : World} {I : Ids} {v : Value} {s : BS} {sc q : List Int} (h : EncS w I v s sc q) (t run m L len b n k : Nat) (ht : t < 4) (hrun : run < 16) (hm : m ≤ 2047) (hkm : cat m = k)
    (hbc : ∀ i, i < 256 → w.cell? ⟨2, i, none⟩ = some (B8 (cat i)))
    (hl : w.cell? ⟨I.E, 148 + t, none⟩ = some (.slice (some ⟨L, 0, none⟩) len len)) (hk : run * 16 + k < len) (hx : w.cell? ⟨L, run * 16 + k, none⟩ = some (.int .u32 ((n : Int) * 16777216 + b)))
    (hb : b < 2 ^ n) (hn : n ≤ 16) (hsm : s.c.length + 16 ≤ BIG) :
    Calls Tryd.prog 60 #[.pointer (some ⟨I.E, 0, none⟩), .int .i64 t, .int .i32 run, .int .i32 m] w fun e w' => e = .returned (.tuple #[]) ∧ ∃ v', EncS w' I v' ((s.put b n).put m k) sc q ∧ AdvE I v v' w w' := by
  have hk11 : k ≤ 11 := by rw [← hkm]; exact cat_le m 11 (by omega)
  have H := Lib.hid h
  have HB := Lib.hid hbc
  have HL := Lib.hid hl
  have HX := Lib.hid hx
  have Hsm := Lib.hid hsm
  have Hb := Lib.hid hb
  have HK := Lib.hid hk
  have Hkm := Lib.hid hkm
  clear h hbc hl hx hsm hb hk hkm
  by_cases h256 : m < 256
  · have hd : decide ((m : Int) < 256) = true := by simp; omega
    have hc : w.cell? ⟨2, m, none⟩ = some (B8 k) := by rw [HB.out m h256, Hkm.out]
    go_enter Tryd.func60, Tryd.ntmps60
    go_wp2_with fail
    rw [or_run run k hrun hk11]
    refine (huffS H.out t (run * 16 + k) L len b n ht HL.out HK.out HX.out Hb.out hn (by have := Hsm.out; omega)).mono ?_
    rintro e w1 ⟨rfl, v1, h1, a1⟩
    have H1 := Lib.hid h1
    have A1 := Lib.hid a1
    clear h1 a1 hc
    by_cases hk0 : k = 0
    · subst hk0
      go_wp2
      go_end0
      have hm0 : m = 0 := by have := cat_lt m; rw [Hkm.out] at this; omega
      subst hm0
      rw [BS.put_zero _ H1.out.hnb]
      exact ⟨rfl, v1, H1.out, A1.out⟩
    · have hk1 : 0 < k := by omega
      clear hk0
      go_wp2_with fail
      rw [and_mask m k (by have := cat_lt m; rw [Hkm.out] at this; exact this) hk11]
      refine (emitS H1.out m k (by have := cat_lt m; rw [Hkm.out] at this; exact this) (by omega) (by have := Hsm.out; have := s.put_len b n H.out.hnb hn; omega)).mono ?_
      rintro e w2 ⟨rfl, v2, h2, a2⟩
      have H2 := Lib.hid h2
      have A2 := Lib.hid a2
      clear h2 a2
      go_wp2
      go_end0
      exact ⟨rfl, v2, H2.out, A1.out.trans A2.out⟩
  · have hd : decide ((m : Int) < 256) = false := by simp; omega
    obtain ⟨j, hj⟩ : ∃ j, cat (m / 256) = j := ⟨_, rfl⟩
    have hkj : k = 8 + j := by rw [← Hkm.out, cat_big m (by omega), hj]
    have hc : w.cell? ⟨2, m / 256, none⟩ = some (B8 j) := by rw [HB.out (m / 256) (by omega), hj]
    have hj3 : j ≤ 3 := by omega
    have Hkj := Lib.hid hkj
    clear hj hkj
    go_enter Tryd.func60, Tryd.ntmps60
    go_wp2_with fail
    rw [show (8 + (j : Int)) = (k : Int) from by have := Hkj.out; omega]
    rw [or_run run k hrun hk11]
    refine (huffS H.out t (run * 16 + k) L len b n ht HL.out HK.out HX.out Hb.out hn (by have := Hsm.out; omega)).mono ?_
    rintro e w1 ⟨rfl, v1, h1, a1⟩
    have H1 := Lib.hid h1
    have A1 := Lib.hid a1
    clear h1 a1 hc
    · have hk1 : 0 < k := by have := Hkj.out; omega
      go_wp2_with fail
      rw [and_mask m k (by have := cat_lt m; rw [Hkm.out] at this; exact this) hk11]
      refine (emitS H1.out m k (by have := cat_lt m; rw [Hkm.out] at this; exact this) (by omega) (by have := Hsm.out; have := s.put_len b n H.out.hnb hn; omega)).mono ?_
      rintro e w2 ⟨rfl, v2, h2, a2⟩
      have H2 := Lib.hid h2
      have A2 := Lib.hid a2
      clear h2 a2
      go_wp2
      go_end0
      exact ⟨rfl, v2, H2.out, A1.out.trans A2.out⟩

set_option maxHeartbeats 400000 in
theorem rle_neg {w : World} {I : Ids} {v : Value} {s : BS} {sc q : List Int} (h : EncS w I v s sc q) (t run m L len b n k : Nat) (ht : t < 4) (hrun : run < 16) (hm : m ≤ 2047) (hm1 : 1 ≤ m) (hkm : cat m = k)
    (hbc : ∀ i, i < 256 → w.cell? ⟨2, i, none⟩ = some (B8 (cat i)))
    (hl : w.cell? ⟨I.E, 148 + t, none⟩ = some (.slice (some ⟨L, 0, none⟩) len len)) (hk : run * 16 + k < len) (hx : w.cell? ⟨L, run * 16 + k, none⟩ = some (.int .u32 ((n : Int) * 16777216 + b)))
    (hb : b < 2 ^ n) (hn : n ≤ 16) (hsm : s.c.length + 16 ≤ BIG) :
    Calls Tryd.prog 60 #[.pointer (some ⟨I.E, 0, none⟩), .int .i64 t, .int .i32 run, .int .i32 (-(m : Int))] w fun e w' => e = .returned (.tuple #[]) ∧ ∃ v', EncS w' I v' ((s.put b n).put (2 ^ k - 1 - m) k) sc q ∧ AdvE I v v' w w' := by
  have hk11 : k ≤ 11 := by rw [← hkm]; exact cat_le m 11 (by omega)
  have H := Lib.hid h
  have HB := Lib.hid hbc
  have HL := Lib.hid hl
  have HX := Lib.hid hx
  have Hsm := Lib.hid hsm
  have Hb := Lib.hid hb
  have HK := Lib.hid hk
  have Hkm := Lib.hid hkm
  clear h hbc hl hx hsm hb hk hkm
  by_cases h256 : m < 256
  · have hd : decide ((m : Int) < 256) = true := by simp; omega
    have hc : w.cell? ⟨2, m, none⟩ = some (B8 k) := by rw [HB.out m h256, Hkm.out]
    go_enter Tryd.func60, Tryd.ntmps60
    go_wp2_with fail
    rw [or_run run k hrun hk11]
    refine (huffS H.out t (run * 16 + k) L len b n ht HL.out HK.out HX.out Hb.out hn (by have := Hsm.out; omega)).mono ?_
    rintro e w1 ⟨rfl, v1, h1, a1⟩
    have H1 := Lib.hid h1
    have A1 := Lib.hid a1
    clear h1 a1 hc
    · have hk1 : 0 < k := by rw [← Hkm.out]; exact cat_pos m hm1
      go_wp2_with fail
      rw [and_mask_neg m k (by have := cat_lt m; rw [Hkm.out] at this; exact this) hk11]
      refine (emitS H1.out (2 ^ k - 1 - m) k (by have := Nat.pow_pos (n := k) (show 0 < 2 by omega); omega) (by omega) (by have := Hsm.out; have := s.put_len b n H.out.hnb hn; omega)).mono ?_
      rintro e w2 ⟨rfl, v2, h2, a2⟩
      have H2 := Lib.hid h2
      have A2 := Lib.hid a2
      clear h2 a2
      go_wp2
      go_end0
      exact ⟨rfl, v2, H2.out, A1.out.trans A2.out⟩
  · have hd : decide ((m : Int) < 256) = false := by simp; omega
    obtain ⟨j, hj⟩ : ∃ j, cat (m / 256) = j := ⟨_, rfl⟩
    have hkj : k = 8 + j := by rw [← Hkm.out, cat_big m (by omega), hj]
    have hc : w.cell? ⟨2, m / 256, none⟩ = some (B8 j) := by rw [HB.out (m / 256) (by omega), hj]
    have hj3 : j ≤ 3 := by omega
    have Hkj := Lib.hid hkj
    clear hj hkj
    go_enter Tryd.func60, Tryd.ntmps60
    go_wp2_with fail
    rw [show (8 + (j : Int)) = (k : Int) from by have := Hkj.out; omega]
    rw [or_run run k hrun hk11]
    refine (huffS H.out t (run * 16 + k) L len b n ht HL.out HK.out HX.out Hb.out hn (by have := Hsm.out; omega)).mono ?_
    rintro e w1 ⟨rfl, v1, h1, a1⟩
    have H1 := Lib.hid h1
    have A1 := Lib.hid a1
    clear h1 a1 hc
    · have hk1 : 0 < k := by have := Hkj.out; omega
      go_wp2_with fail
      rw [and_mask_neg m k (by have := cat_lt m; rw [Hkm.out] at this; exact this) hk11]
      refine (emitS H1.out (2 ^ k - 1 - m) k (by have := Nat.pow_pos (n := k) (show 0 < 2 by omega); omega) (by omega) (by have := Hsm.out; have := s.put_len b n H.out.hnb hn; omega)).mono ?_
      rintro e w2 ⟨rfl, v2, h2, a2⟩
      have H2 := Lib.hid h2
      have A2 := Lib.hid a2
      clear h2 a2
      go_wp2
      go_end0
      exact ⟨rfl, v2, H2.out, A1.out.trans A2.out⟩

/-- The bits of a number of a category. -/
def mag (x : Int) : Nat := if x < 0 then 2 ^ cat x.natAbs - 1 - x.natAbs else x.natAbs

/-- A run and a number, by a code. -/
def BS.rle (s : BS) (b n : Nat) (x : Int) : BS := (s.put b n).put (mag x) (cat x.natAbs)

theorem rle_any {w : World} {I : Ids} {v : Value} {s : BS} {sc q : List Int} (h : EncS w I v s sc q) (t run : Nat) (x : Int) (L len b n : Nat) (ht : t < 4) (hrun : run < 16) (hx1 : x.natAbs ≤ 2047)
    (hbc : ∀ i, i < 256 → w.cell? ⟨2, i, none⟩ = some (B8 (cat i)))
    (hl : w.cell? ⟨I.E, 148 + t, none⟩ = some (.slice (some ⟨L, 0, none⟩) len len)) (hk : run * 16 + cat x.natAbs < len)
    (hx : w.cell? ⟨L, run * 16 + cat x.natAbs, none⟩ = some (.int .u32 ((n : Int) * 16777216 + b)))
    (hb : b < 2 ^ n) (hn : n ≤ 16) (hsm : s.c.length + 16 ≤ BIG) :
    Calls Tryd.prog 60 #[.pointer (some ⟨I.E, 0, none⟩), .int .i64 t, .int .i32 run, .int .i32 x] w fun e w' => e = .returned (.tuple #[]) ∧ ∃ v', EncS w' I v' (s.rle b n x) sc q ∧ AdvE I v v' w w' := by
  unfold BS.rle mag
  by_cases hx0 : x < 0
  · rw [if_pos hx0]
    have e : x = -(x.natAbs : Int) := by omega
    have := rle_neg h t run x.natAbs L len b n (cat x.natAbs) ht hrun hx1 (by omega) rfl hbc hl hk hx hb hn hsm
    rw [← e] at this
    exact this
  · rw [if_neg hx0]
    have e : x = (x.natAbs : Int) := by omega
    have := rle_pos h t run x.natAbs L len b n (cat x.natAbs) ht hrun hx1 rfl hbc hl hk hx hb hn hsm
    rw [← e] at this
    exact this

theorem mag_lt (x : Int) : mag x < 2 ^ cat x.natAbs := by
  unfold mag
  have := cat_lt x.natAbs
  split <;> omega

end Go.Proofs.YtpophkigihfjoaaDoor
