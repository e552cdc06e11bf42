/- What a scan becomes in the bit stream (the state MS, unit by unit), and what the walk of writeSOS carries (SosW). -/
import Derived.Test.YtpophkigihfjoaaDoorScale
import Derived.Test.YtpophkigihfjoaaDoorBlkW
namespace Go.Proofs.YtpophkigihfjoaaDoor
open Go.RowKit
set_option maxRecDepth 100000

/-- The state between two blocks of a scan: the bit stream, the last first coefficients, the scratch blocks. -/
structure MS where
  s : BS
  pY : Int
  pB : Int
  pR : Int
  M : List Int
  N : List Int
  R : List Int

/-- What does not change in a scan. -/
structure Par where
  pix : List Int
  wide : Nat
  high : Nat
  q : List Int
  l0 : List Nat
  l1 : List Nat
  l2 : List Nat
  l3 : List Nat

/-- The three blocks are filled from the pixels (sub-block t of the unit at (x, y)). -/
def MS.fill (st : MS) (p : Par) (x y t : Nat) : MS :=
  { st with M := fillAt (yAt p.pix p.wide p.high (x + t % 2 * 8) (y + t / 2 * 8)) st.M 0 64,
            N := fillAt (cbAt p.pix p.wide p.high (x + t % 2 * 8) (y + t / 2 * 8)) st.N (t * 64) 64,
            R := fillAt (crAt p.pix p.wide p.high (x + t % 2 * 8) (y + t / 2 * 8)) st.R (t * 64) 64 }

/-- A block of the first component is written. -/
def MS.wY (st : MS) (p : Par) : MS :=
  { st with s := st.s.block p.l0 p.l1 (coef (dctP st.M) p.q 0 0 - st.pY) (coef (dctP st.M) p.q 0), pY := coef (dctP st.M) p.q 0 0, M := dctP st.M }

def MS.wB (st : MS) (p : Par) : MS :=
  { st with s := st.s.block p.l2 p.l3 (coef (dctP st.M) p.q 1 0 - st.pB) (coef (dctP st.M) p.q 1), pB := coef (dctP st.M) p.q 1 0, M := dctP st.M }

def MS.wR (st : MS) (p : Par) : MS :=
  { st with s := st.s.block p.l2 p.l3 (coef (dctP st.M) p.q 1 0 - st.pR) (coef (dctP st.M) p.q 1), pR := coef (dctP st.M) p.q 1 0, M := dctP st.M }

def MS.sclB (st : MS) : MS := { st with M := scaleTo st.N st.M 64 }
def MS.sclR (st : MS) : MS := { st with M := scaleTo st.R st.M 64 }

/-- t blocks of the first component. -/
def MS.subs (st : MS) (p : Par) (x y : Nat) : Nat → MS
  | 0 => st
  | t + 1 => ((st.subs p x y t).fill p x y t).wY p

/-- One unit. -/
def MS.unit (st : MS) (p : Par) (x y : Nat) : MS := ((((st.subs p x y 4).sclB).wB p).sclR).wR p

/-- kx units of the row at y. -/
def MS.row (st : MS) (p : Par) (y : Nat) : Nat → MS
  | 0 => st
  | k + 1 => (st.row p y k).unit p (16 * k) y

/-- ky rows. -/
def MS.rows (st : MS) (p : Par) : Nat → MS
  | 0 => st
  | k + 1 => (st.rows p k).row p (16 * k) ((p.wide + 15) / 16)

/-- The parts that are asked of a state: lengths, bytes, small numbers; n bytes at most more than c0. -/
structure MS.Ok (st : MS) (c0 n : Nat) : Prop where
  lM : st.M.length = 64
  lN : st.N.length = 256
  lR : st.R.length = 256
  bN : ∀ i, 0 ≤ st.N.getD i 0 ∧ st.N.getD i 0 ≤ 255
  bR : ∀ i, 0 ≤ st.R.getD i 0 ∧ st.R.getD i 0 ≤ 255
  y1 : -1024 ≤ st.pY
  y2 : st.pY ≤ 1016
  b1 : -1024 ≤ st.pB
  b2 : st.pB ≤ 1016
  r1 : -1024 ≤ st.pR
  r2 : st.pR ≤ 1016
  len : st.s.c.length ≤ c0 + n * 2600

/-- The law of the transform: of bytes it makes numbers that fit the codes. -/
def DctLaw : Prop := ∀ M : List Int, M.length = 64 → (∀ i, i < 64 → 0 ≤ M.getD i 0 ∧ M.getD i 0 ≤ 255) →
  (-8192 ≤ (dctP M).getD 0 0 ∧ (dctP M).getD 0 0 ≤ 8128) ∧ ∀ i, 1 ≤ i → i < 64 → -8187 ≤ (dctP M).getD i 0 ∧ (dctP M).getD i 0 ≤ 8187

structure Par.Ok (p : Par) : Prop where
  w1 : 1 ≤ p.wide
  w2 : p.wide ≤ 40
  h1 : 1 ≤ p.high
  h2 : p.high ≤ 40
  ql : p.q.length = 128
  qb : ∀ i, i < 128 → 1 ≤ p.q.getD i 0 ∧ p.q.getD i 0 ≤ 255
  c0 : Codes p.l0 12
  c1 : Codes p.l1 251
  c2 : Codes p.l2 12
  c3 : Codes p.l3 251
  byte : ∀ i, 0 ≤ p.pix.getD i 0 ∧ p.pix.getD i 0 ≤ 255

theorem div_ub (a b m : Int) (hb : 8 ≤ b) (h : a < 8 * m + 4) (hm : 0 ≤ m) : (a + b / 2) / b ≤ m := by
  apply Int.lt_add_one_iff.1
  apply Int.ediv_lt_of_lt_mul (by omega)
  have e : (m + 1) * b = b * m + b := by rw [Int.add_mul, Int.one_mul, Int.mul_comm]
  rw [e]
  by_cases hz : m = 0
  · subst hz; omega
  · have h3 : (b - 8) * 1 ≤ (b - 8) * m := Int.mul_le_mul_of_nonneg_left (by omega) (by omega)
    rw [Int.sub_mul b 8 m] at h3
    omega

theorem divP_bound (a b lo hi : Int) (hb : 8 ≤ b) (hlo : 8 * lo - 4 < a) (hhi : a < 8 * hi + 4) (h0 : lo ≤ 0) (h1 : 0 ≤ hi) : lo ≤ divP a b ∧ divP a b ≤ hi := by
  unfold divP
  split
  · have : 0 ≤ (a + b / 2) / b := Int.ediv_nonneg (by omega) (by omega)
    exact ⟨by omega, div_ub a b hi hb hhi h1⟩
  · have h2 := div_ub (-a) b (-lo) hb (by omega) (by omega)
    have : 0 ≤ (-a + b / 2) / b := Int.ediv_nonneg (by omega) (by omega)
    exact ⟨by omega, by omega⟩

theorem unzig_pos : ∀ k, 1 ≤ k → k < 64 → 1 ≤ unzigL.getD k 0 := by
  intro k h1 h2
  have : ∀ k, k < 64 → 1 ≤ k → 1 ≤ unzigL.getD k 0 := by decide
  exact this k h2 h1

/-- The first coefficient, and the others, of bytes. -/
theorem coef_bound (hd : DctLaw) (M q : List Int) (qi : Nat) (hqi : qi < 2) (hM : M.length = 64) (hb : ∀ i, i < 64 → 0 ≤ M.getD i 0 ∧ M.getD i 0 ≤ 255) (hq : ∀ i, i < 128 → 1 ≤ q.getD i 0 ∧ q.getD i 0 ≤ 255) :
    (-1024 ≤ coef (dctP M) q qi 0 ∧ coef (dctP M) q qi 0 ≤ 1016) ∧ (∀ k, 1 ≤ k → k < 64 → (coef (dctP M) q qi k).natAbs ≤ 1023) ∧ (∀ i, i < 64 → -100000000 ≤ (dctP M).getD i 0 ∧ (dctP M).getD i 0 ≤ 100000000) := by
  obtain ⟨h0, h1⟩ := hd M hM hb
  have hz : coef (dctP M) q qi 0 = divP ((dctP M).getD 0 0) (8 * q.getD (64 * qi + 0) 0) := rfl
  refine ⟨?_, ?_, ?_⟩
  · rw [hz]
    have := hq (64 * qi + 0) (by omega)
    exact divP_bound _ _ (-1024) 1016 (by omega) (by omega) (by omega) (by omega) (by omega)
  · intro k hk1 hk2
    have hu1 := unzig_pos k hk1 hk2
    have hu2 := unzig_lt k hk2
    have h2 := h1 (unzigL.getD k 0).toNat (by omega) (by omega)
    have := hq (64 * qi + k) (by omega)
    have h3 : -1023 ≤ coef (dctP M) q qi k ∧ coef (dctP M) q qi k ≤ 1023 := divP_bound _ _ (-1023) 1023 (by omega) (by omega) (by omega) (by omega) (by omega)
    omega
  · intro i hi
    by_cases hi0 : i = 0
    · subst hi0; omega
    · have := h1 i (by omega) hi; omega

/-- How much a block adds. -/
theorem block_len (s : BS) (ld la : List Nat) (d : Int) (f : Nat → Int) (hcd : Codes ld 12) (hca : Codes la 251) (hA : s.A < 2 ^ s.nb) (hnb : s.nb ≤ 7) (hd : d.natAbs ≤ 2047) (hf : ∀ k, 1 ≤ k → k < 64 → (f k).natAbs ≤ 1023) :
    (s.block ld la d f).c.length ≤ s.c.length + 2600 := by
  have code : ∀ (s : BS) (l : List Nat) (len run : Nat) (x : Int), Codes l len → s.A < 2 ^ s.nb → s.nb ≤ 7 → run * 16 + cat x.natAbs < len → cat x.natAbs ≤ 16 →
      (s.code l run x).c.length ≤ s.c.length + 10 ∧ (s.code l run x).A < 2 ^ (s.code l run x).nb ∧ (s.code l run x).nb ≤ 7 := by
    intro s l len run x hc h1 h2 h3 h4
    have e1 := s.huff_len l (run * 16 + cat x.natAbs) hc h3 h2
    have e2 := BS.put_inv s (l.getD (run * 16 + cat x.natAbs) 0 % 16777216) (l.getD (run * 16 + cat x.natAbs) 0 / 16777216) h1 (hc.fits _ h3).1
    have e3 := BS.put_len (s.huff l (run * 16 + cat x.natAbs)) (mag x) (cat x.natAbs) e2.2 h4
    have e4 := BS.put_inv (s.huff l (run * 16 + cat x.natAbs)) (mag x) (cat x.natAbs) e2.1 (mag_lt x)
    have e5 : s.code l run x = (s.huff l (run * 16 + cat x.natAbs)).put (mag x) (cat x.natAbs) := rfl
    rw [e5]
    exact ⟨by omega, e4.1, e4.2⟩
  have zrl : ∀ (m : Nat) (s : BS), s.A < 2 ^ s.nb → s.nb ≤ 7 → (s.zrl la m).c.length ≤ s.c.length + 5 * m ∧ (s.zrl la m).A < 2 ^ (s.zrl la m).nb ∧ (s.zrl la m).nb ≤ 7 := by
    intro m
    induction m with
    | zero => intro s h1 h2; exact ⟨by simp [BS.zrl], h1, h2⟩
    | succ m ih =>
      intro s h1 h2
      obtain ⟨a, b, c⟩ := ih s h1 h2
      have e1 := (s.zrl la m).huff_len la 240 hca (by omega) c
      have e2 := BS.put_inv (s.zrl la m) (la.getD 240 0 % 16777216) (la.getD 240 0 / 16777216) b (hca.fits 240 (by omega)).1
      have e3 : s.zrl la (m + 1) = (s.zrl la m).huff la 240 := rfl
      rw [e3]
      exact ⟨by omega, e2.1, e2.2⟩
  have ac : ∀ n, n ≤ 63 → ∀ s : BS, s.A < 2 ^ s.nb → s.nb ≤ 7 → (acN la f s n).1.c.length ≤ s.c.length + 40 * n ∧ (acN la f s n).1.A < 2 ^ (acN la f s n).1.nb ∧ (acN la f s n).1.nb ≤ 7 := by
    intro n
    induction n with
    | zero => intro _ s h1 h2; exact ⟨by simp [acN], h1, h2⟩
    | succ n ih =>
      intro hn s h1 h2
      obtain ⟨a, b, c⟩ := ih (by omega) s h1 h2
      have hr := acN_run la f s n
      have e : acN la f s (n + 1) = acStep la (f (n + 1)) (acN la f s n) := rfl
      rw [e]
      generalize acN la f s n = p at *
      unfold acStep
      split
      · exact ⟨by show p.1.c.length ≤ _; omega, b, c⟩
      · obtain ⟨a1, b1, c1⟩ := zrl (p.2 / 16) p.1 b c
        have hcat : cat (f (n + 1)).natAbs ≤ 10 := cat_le _ 10 (by have := hf (n + 1) (by omega) (by omega); omega)
        obtain ⟨a2, b2, c2⟩ := code (p.1.zrl la (p.2 / 16)) la 251 (p.2 % 16) (f (n + 1)) hca b1 c1 (by omega) (by omega)
        exact ⟨by show ((p.1.zrl la (p.2 / 16)).code la (p.2 % 16) (f (n + 1))).c.length ≤ _; omega, b2, c2⟩
  have hcd11 : cat d.natAbs ≤ 11 := cat_le _ 11 (by omega)
  obtain ⟨a, b, c⟩ := code s ld 12 0 d hcd hA hnb (by omega) (by omega)
  obtain ⟨a1, b1, c1⟩ := ac 63 (by omega) (s.code ld 0 d) b c
  unfold BS.block
  simp only
  split
  · have := (acN la f (s.code ld 0 d) 63).1.huff_len la 0 hca (by omega) c1
    omega
  · omega

end Go.Proofs.YtpophkigihfjoaaDoor
