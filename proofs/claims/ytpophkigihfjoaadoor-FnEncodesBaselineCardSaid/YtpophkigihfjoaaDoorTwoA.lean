/- The bits of a scan, the tables of codes, the reader of bits. -/
import Derived.Test.YtpophkigihfjoaaDoorBlk
import Derived.Test.YtpophkigihfjoaaDoorJpeg
import Derived.Test.YtpophkigihfjoaaDoorPix
import Derived.Maps.OwnSet
import Derived.DeepKeys4
/- The bits of a scan, in plain lists. -/
namespace Go.Proofs.YtpophkigihfjoaaDoor
open Go.RowKit
set_option maxRecDepth 100000

/-- n bits of a number, the first one first. -/
def bitsN : Nat → Nat → List Bool
  | 0, _ => []
  | n + 1, v => decide (v / 2 ^ n % 2 = 1) :: bitsN n v

theorem bitsN_length (n v : Nat) : (bitsN n v).length = n := by
  induction n with
  | zero => rfl
  | succ n ih => simp [bitsN, ih]

theorem bitsN_low (n a b : Nat) : bitsN n (a * 2 ^ n + b) = bitsN n b := by
  have key : ∀ k, k ≤ n → bitsN k (a * 2 ^ n + b) = bitsN k b := by
    intro k
    induction k with
    | zero => intro _; rfl
    | succ k ih =>
      intro hk
      have e : 2 ^ n = 2 ^ k * (2 * 2 ^ (n - k - 1)) := by
        rw [← Nat.pow_succ', ← Nat.pow_add]; congr 1; omega
      have h : (a * 2 ^ n + b) / 2 ^ k % 2 = b / 2 ^ k % 2 := by
        rw [e, show a * (2 ^ k * (2 * 2 ^ (n - k - 1))) + b = b + 2 ^ k * (2 * (a * 2 ^ (n - k - 1))) by
          rw [Nat.add_comm, Nat.mul_left_comm a]; congr 2; rw [Nat.mul_left_comm]]
        rw [Nat.add_mul_div_left _ _ (Nat.pow_pos (by omega)), Nat.add_mul_mod_self_left]
      show _ :: _ = _ :: _
      rw [h, ih (by omega)]
  exact key n (Nat.le_refl n)

theorem bitsN_append (m n a b : Nat) (hb : b < 2 ^ n) : bitsN (m + n) (a * 2 ^ n + b) = bitsN m a ++ bitsN n b := by
  induction m with
  | zero => rw [Nat.zero_add]; exact bitsN_low n a b
  | succ m ih =>
    rw [show m + 1 + n = (m + n) + 1 by omega]
    show _ :: _ = (_ :: _) ++ _
    have h : (a * 2 ^ n + b) / 2 ^ (m + n) = a / 2 ^ m := by
      rw [Nat.add_comm m n, Nat.pow_add, ← Nat.div_div_eq_div_mul, Nat.add_comm, Nat.add_mul_div_right _ _ (Nat.pow_pos (by omega)), Nat.div_eq_of_lt hb, Nat.zero_add]
    rw [h, ih]
    rfl

/-- The bits of bytes. -/
def bitsOf (D : List Nat) : List Bool := D.flatMap (bitsN 8)

theorem bitsOf_append (D D' : List Nat) : bitsOf (D ++ D') = bitsOf D ++ bitsOf D' := by simp [bitsOf]
theorem bitsOf_length (D : List Nat) : (bitsOf D).length = 8 * D.length := by
  induction D with
  | nil => rfl
  | cons d D ih =>
    have : bitsOf (d :: D) = bitsN 8 d ++ bitsOf D := rfl
    rw [this, List.length_append, ih, bitsN_length, List.length_cons]; omega

/-- Bytes as they are written: a byte 255 has a byte 0 behind it. -/
def stuff (D : List Nat) : List Int := D.flatMap fun (d : Nat) => ((d : Int) :: if d = 255 then [0] else [] : List Int)

theorem stuff_append (D D' : List Nat) : stuff (D ++ D') = stuff D ++ stuff D' := by simp [stuff]

theorem drain_rep : ∀ (N V : Nat), V < 2 ^ N → ∃ D : List Nat, (drain V N).1 = stuff D ∧ bitsN N V = bitsOf D ++ bitsN (drain V N).2.2 (drain V N).2.1 ∧ ∀ d ∈ D, d < 256 := by
  intro N
  induction N using Nat.strongRecOn with
  | _ N ih =>
    intro V hV
    by_cases h : N < 8
    · rw [drain_small V N h]; exact ⟨[], rfl, rfl, by simp⟩
    · rw [drain_big V N (by omega)]
      obtain ⟨D, h1, h2, h3⟩ := ih (N - 8) (by omega) (V % 2 ^ (N - 8)) (Nat.mod_lt _ (Nat.pow_pos (by omega)))
      have hq : V / 2 ^ (N - 8) < 256 := by
        rw [Nat.div_lt_iff_lt_mul (Nat.pow_pos (by omega))]
        have e : 256 * 2 ^ (N - 8) = 2 ^ N := by rw [show (256 : Nat) = 2 ^ 8 from rfl, ← Nat.pow_add, show 8 + (N - 8) = N from by omega]
        omega
      refine ⟨V / 2 ^ (N - 8) :: D, ?_, ?_, ?_⟩
      · rw [h1]; simp [stuff]
      · have e : V = V / 2 ^ (N - 8) * 2 ^ (N - 8) + V % 2 ^ (N - 8) := by rw [Nat.mul_comm]; exact (Nat.div_add_mod _ _).symm
        have := bitsN_append 8 (N - 8) (V / 2 ^ (N - 8)) (V % 2 ^ (N - 8)) (Nat.mod_lt _ (Nat.pow_pos (by omega)))
        rw [← e, show 8 + (N - 8) = N by omega] at this
        rw [this, h2]
        show _ ++ (_ ++ _) = (bitsN 8 _ ++ bitsOf D) ++ _
        rw [List.append_assoc]
      · intro d hd
        rcases List.mem_cons.1 hd with rfl | hd
        · exact hq
        · exact h3 d hd

/-- The bit stream: behind the bytes c0 stand just these bits. -/
structure Rep (c0 : List Int) (E : List Bool) (s : BS) : Prop where
  ex : ∃ D : List Nat, s.c = c0 ++ stuff D ∧ E = bitsOf D ++ bitsN s.nb s.A ∧ ∀ d ∈ D, d < 256
  hA : s.A < 2 ^ s.nb
  hnb : s.nb ≤ 7

theorem Rep.put {c0 : List Int} {E : List Bool} {s : BS} (h : Rep c0 E s) (b n : Nat) (hb : b < 2 ^ n) : Rep c0 (E ++ bitsN n b) (s.put b n) := by
  obtain ⟨D, h1, h2, h3⟩ := h.ex
  obtain ⟨D', g1, g2, g3⟩ := drain_rep (s.nb + n) (s.A * 2 ^ n + b) (mix_lt b n s.A s.nb hb h.hA)
  have hi := s.put_inv b n h.hA hb
  refine ⟨⟨D ++ D', ?_, ?_, ?_⟩, hi.1, hi.2⟩
  · show s.c ++ _ = _
    rw [h1, g1, stuff_append, List.append_assoc]
  · show E ++ bitsN n b = bitsOf (D ++ D') ++ bitsN (drain (s.A * 2 ^ n + b) (s.nb + n)).2.2 (drain (s.A * 2 ^ n + b) (s.nb + n)).2.1
    rw [bitsOf_append, List.append_assoc, ← g2, bitsN_append _ _ _ _ hb, h2, List.append_assoc]
  · intro d hd
    rcases List.mem_append.1 hd with hd | hd
    · exact h3 d hd
    · exact g3 d hd

/-- A symbol's bits by a table. -/
def huffBits (l : List Nat) (k : Nat) : List Bool := bitsN (l.getD k 0 / 16777216) (l.getD k 0 % 16777216)
/-- The bits of a number. -/
def payload (x : Int) : List Bool := bitsN (cat x.natAbs) (mag x)

theorem Rep.huff {c0 : List Int} {E : List Bool} {s : BS} (h : Rep c0 E s) {l : List Nat} {len : Nat} (hc : Codes l len) (k : Nat) (hk : k < len) : Rep c0 (E ++ huffBits l k) (s.huff l k) :=
  h.put _ _ (hc.fits k hk).1

theorem Rep.code {c0 : List Int} {E : List Bool} {s : BS} (h : Rep c0 E s) {l : List Nat} {len : Nat} (hc : Codes l len) (run : Nat) (x : Int) (hk : run * 16 + cat x.natAbs < len) : Rep c0 (E ++ (huffBits l (run * 16 + cat x.natAbs) ++ payload x)) (s.code l run x) := by
  have := (h.huff hc _ hk).put (mag x) (cat x.natAbs) (mag_lt x)
  rw [List.append_assoc] at this
  exact this

/-- A symbol with the bits behind it. -/
abbrev Tok := Nat × List Bool
def tokBits (l : List Nat) (ts : List Tok) : List Bool := ts.flatMap fun t => huffBits l t.1 ++ t.2
theorem tokBits_append (l : List Nat) (ts ts' : List Tok) : tokBits l (ts ++ ts') = tokBits l ts ++ tokBits l ts' := by simp [tokBits]
theorem tokBits_cons (l : List Nat) (t : Tok) (ts : List Tok) : tokBits l (t :: ts) = huffBits l t.1 ++ t.2 ++ tokBits l ts := rfl

/-- The symbols of the first n coefficients behind the first one, and the zeros that wait. -/
def acT (f : Nat → Int) : Nat → List Tok × Nat
  | 0 => ([], 0)
  | n + 1 => if f (n + 1) = 0 then ((acT f n).1, (acT f n).2 + 1)
    else ((acT f n).1 ++ (List.replicate ((acT f n).2 / 16) (240, []) ++ [((acT f n).2 % 16 * 16 + cat (f (n + 1)).natAbs, payload (f (n + 1)))]), 0)

/-- All symbols of a block behind the first one. -/
def acAll (f : Nat → Int) : List Tok := (acT f 63).1 ++ if 0 < (acT f 63).2 then [(0, [])] else []

/-- The bits of a block. -/
def blockBits (ld la : List Nat) (d : Int) (f : Nat → Int) : List Bool := huffBits ld (cat d.natAbs) ++ payload d ++ tokBits la (acAll f)

theorem Rep.zrl {c0 : List Int} {la : List Nat} (hca : Codes la 251) : ∀ (m : Nat) {E : List Bool} {s : BS}, Rep c0 E s → Rep c0 (E ++ tokBits la (List.replicate m (240, []))) (s.zrl la m) := by
  intro m
  induction m with
  | zero => intro E s h; simpa [tokBits, BS.zrl] using h
  | succ m ih =>
    intro E s h
    have := (ih h).huff hca 240 (by omega)
    have e : tokBits la (List.replicate (m + 1) (240, [])) = tokBits la (List.replicate m (240, [])) ++ huffBits la 240 := by
      rw [List.replicate_succ', tokBits_append]; simp [tokBits]
    rw [e, ← List.append_assoc]
    exact this

theorem acT_le (f : Nat → Int) (n : Nat) : (acT f n).2 ≤ n := by
  induction n with
  | zero => exact Nat.le_refl 0
  | succ n ih => unfold acT; split <;> simp <;> omega

theorem Rep.acN {c0 : List Int} {la : List Nat} {f : Nat → Int} (hca : Codes la 251) (hf : ∀ k, 1 ≤ k → k < 64 → (f k).natAbs ≤ 1023) {E : List Bool} {s : BS} (h : Rep c0 E s) :
    ∀ n, n ≤ 63 → Rep c0 (E ++ tokBits la (acT f n).1) (acN la f s n).1 ∧ (acN la f s n).2 = (acT f n).2 := by
  intro n
  induction n with
  | zero => intro _; exact ⟨by simpa [acT, tokBits, Go.Proofs.YtpophkigihfjoaaDoor.acN] using h, rfl⟩
  | succ n ih =>
    intro hn
    obtain ⟨g1, g2⟩ := ih (by omega)
    have e : Go.Proofs.YtpophkigihfjoaaDoor.acN la f s (n + 1) = acStep la (f (n + 1)) (Go.Proofs.YtpophkigihfjoaaDoor.acN la f s n) := rfl
    rw [e]
    unfold acT acStep
    by_cases h0 : f (n + 1) = 0
    · rw [if_pos h0, if_pos h0]; exact ⟨g1, by simp [g2]⟩
    · rw [if_neg h0, if_neg h0]
      refine ⟨?_, rfl⟩
      have hcat : cat (f (n + 1)).natAbs ≤ 10 := cat_le _ 10 (by have := hf (n + 1) (by omega) (by omega); omega)
      have := (Rep.zrl hca ((acT f n).2 / 16) g1).code hca ((acT f n).2 % 16) (f (n + 1)) (by omega)
      rw [g2]
      simp only [tokBits_append, ← List.append_assoc] at this ⊢
      simpa [tokBits] using this

theorem Rep.block {c0 : List Int} {ld la : List Nat} {d : Int} {f : Nat → Int} (hcd : Codes ld 12) (hca : Codes la 251) (hd : d.natAbs ≤ 2047) (hf : ∀ k, 1 ≤ k → k < 64 → (f k).natAbs ≤ 1023) {E : List Bool} {s : BS} (h : Rep c0 E s) :
    Rep c0 (E ++ blockBits ld la d f) (s.block ld la d f) := by
  have hcat : cat d.natAbs ≤ 11 := cat_le _ 11 (by omega)
  have h1 := h.code hcd 0 d (by omega)
  rw [Nat.zero_mul, Nat.zero_add] at h1
  obtain ⟨h2, h3⟩ := h1.acN hca hf 63 (by omega)
  unfold BS.block blockBits acAll
  simp only
  rw [h3]
  by_cases hr : 0 < (acT f 63).2
  · rw [if_pos hr, if_pos hr]
    have := h2.huff hca 0 (by omega)
    rw [tokBits_append]
    simpa [tokBits, List.append_assoc] using this
  · rw [if_neg hr, if_neg hr, List.append_nil]
    simpa [List.append_assoc] using h2

/-- A symbol that an AC table has: no zeros and a number, or sixteen zeros. -/
def acSym (s : Nat) : Prop := s = 240 ∨ (1 ≤ s % 16 ∧ s % 16 ≤ 10 ∧ s < 256)

/-- From place k these symbols lead to place k'. -/
def Leads : Nat → List Tok → Nat → Prop
  | k, [], k' => k = k'
  | k, t :: ts, k' => acSym t.1 ∧ t.2.length = t.1 % 16 ∧ k + t.1 / 16 ≤ 63 ∧ Leads (k + t.1 / 16 + 1) ts k'

theorem Leads.append {ts ts' : List Tok} {k' k'' : Nat} : ∀ {k : Nat}, Leads k ts k' → Leads k' ts' k'' → Leads k (ts ++ ts') k'' := by
  induction ts with
  | nil => intro k h h'; have : k = k' := h; subst this; exact h'
  | cons t ts ih => intro k h h'; exact ⟨h.1, h.2.1, h.2.2.1, ih h.2.2.2 h'⟩

theorem leads_zrl : ∀ (m k : Nat), k + 16 * m ≤ 64 → Leads k (List.replicate m (240, [])) (k + 16 * m) := by
  intro m
  induction m with
  | zero => intro k _; rfl
  | succ m ih =>
    intro k hk
    rw [List.replicate_succ]
    refine ⟨.inl rfl, rfl, by omega, ?_⟩
    have := ih (k + 16) (by omega)
    rw [show k + 16 + 16 * m = k + 16 * (m + 1) by omega] at this
    exact this

theorem payload_length (x : Int) : (payload x).length = cat x.natAbs := bitsN_length _ _

theorem acT_leads (f : Nat → Int) (hf : ∀ k, 1 ≤ k → k < 64 → (f k).natAbs ≤ 1023) : ∀ n, n ≤ 63 → Leads 1 (acT f n).1 (n + 1 - (acT f n).2) := by
  intro n
  induction n with
  | zero => intro _; rfl
  | succ n ih =>
    intro hn
    have g := ih (by omega)
    have hr := acT_le f n
    unfold acT
    by_cases h0 : f (n + 1) = 0
    · rw [if_pos h0]
      rw [show n + 1 + 1 - ((acT f n).2 + 1) = n + 1 - (acT f n).2 by omega]
      exact g
    · rw [if_neg h0]
      have hfn := hf (n + 1) (by omega) (by omega)
      have hcat : cat (f (n + 1)).natAbs ≤ 10 := cat_le _ 10 (by omega)
      have hcat1 : 0 < cat (f (n + 1)).natAbs := cat_pos _ (by omega)
      refine g.append (Leads.append (leads_zrl ((acT f n).2 / 16) _ (by omega)) ⟨.inr ⟨?_, ?_, ?_⟩, ?_, ?_, ?_⟩)
      · show 1 ≤ ((acT f n).2 % 16 * 16 + cat (f (n + 1)).natAbs) % 16; omega
      · show ((acT f n).2 % 16 * 16 + cat (f (n + 1)).natAbs) % 16 ≤ 10; omega
      · show (acT f n).2 % 16 * 16 + cat (f (n + 1)).natAbs < 256; omega
      · show (payload _).length = ((acT f n).2 % 16 * 16 + cat (f (n + 1)).natAbs) % 16; rw [payload_length]; omega
      · show _ + ((acT f n).2 % 16 * 16 + cat (f (n + 1)).natAbs) / 16 ≤ 63; omega
      · show _ + ((acT f n).2 % 16 * 16 + cat (f (n + 1)).natAbs) / 16 + 1 = n + 1 + 1 - 0; omega

/-- The symbols of a whole block: they lead to its end, or to a mark of the end. -/
def Whole (k : Nat) (ts : List Tok) : Prop := Leads k ts 64 ∨ ∃ ts' k', ts = ts' ++ [(0, [])] ∧ Leads k ts' k' ∧ k' ≤ 63

theorem acAll_whole (f : Nat → Int) (hf : ∀ k, 1 ≤ k → k < 64 → (f k).natAbs ≤ 1023) : Whole 1 (acAll f) := by
  have h := acT_leads f hf 63 (by omega)
  have hr := acT_le f 63
  unfold acAll
  by_cases h0 : 0 < (acT f 63).2
  · rw [if_pos h0]; exact .inr ⟨_, _, rfl, h, by omega⟩
  · rw [if_neg h0, List.append_nil]
    left
    rw [show 63 + 1 - (acT f 63).2 = 64 by omega] at h
    exact h
theorem bitsN_get (n v i : Nat) (hi : i < n) : (bitsN n v)[i]? = some (decide (v / 2 ^ (n - 1 - i) % 2 = 1)) := by
  induction n generalizing i with
  | zero => omega
  | succ n ih =>
    rcases i with _ | i
    · simp [bitsN]
    · rw [bitsN, List.getElem?_cons_succ, ih i (by omega)]
      rw [show n + 1 - 1 - (i + 1) = n - 1 - i by omega]

theorem bitsOf_get (D : List Nat) (a : Nat) (ha : a < 8 * D.length) : (bitsOf D)[a]? = some (decide (D.getD (a / 8) 0 / 2 ^ (7 - a % 8) % 2 = 1)) := by
  induction D generalizing a with
  | nil => simp at ha
  | cons d D ih =>
    have e : bitsOf (d :: D) = bitsN 8 d ++ bitsOf D := rfl
    rw [e]
    by_cases h : a < 8
    · rw [List.getElem?_append_left (by rw [bitsN_length]; exact h), bitsN_get 8 d a h, show a / 8 = 0 by omega, show a % 8 = a by omega]
      rfl
    · rw [List.getElem?_append_right (by rw [bitsN_length]; omega), bitsN_length, ih (a - 8) (by simp at ha; omega)]
      rw [show a / 8 = (a - 8) / 8 + 1 by omega, List.getD_cons_succ, show (a - 8) % 8 = a % 8 by omega]

/-- The number that some bits are. -/
def numOf : List Bool → Nat
  | [] => 0
  | b :: bs => (if b then 1 else 0) * 2 ^ bs.length + numOf bs

/-- The first j bits of a code: the code without its last bits. -/
theorem bitsN_take (n c j : Nat) (hj : j ≤ n) : (bitsN n c).take j = bitsN j (c / 2 ^ (n - j)) := by
  induction n generalizing j with
  | zero => have : j = 0 := by omega
            subst this; rfl
  | succ n ih =>
    rcases j with _ | j
    · rfl
    · rw [bitsN, List.take_succ_cons, ih j (by omega), bitsN, show n + 1 - (j + 1) = n - j by omega]
      congr 2
      rw [Nat.div_div_eq_div_mul, ← Nat.pow_add, show n - j + j = n by omega]

end Go.Proofs.YtpophkigihfjoaaDoor

/- The tables of codes as lists, and that they are read back. -/
namespace Go.Proofs.YtpophkigihfjoaaDoor
open Go.RowKit Go.Great
set_option maxRecDepth 100000

/-- What a table of codes holds: of each value in turn the symbol, the code, its length. -/
def entIn (val : List Int) (i c k : Nat) : Nat → List (Nat × Nat × Nat)
  | 0 => []
  | j + 1 => entIn val i c k j ++ [((val.getD (k + j) 0).toNat, c + j, i + 1)]
def entOut (cnt val : List Int) : Nat → List (Nat × Nat × Nat)
  | 0 => []
  | i + 1 => entOut cnt val i ++ entIn val i (cAt cnt i) (kAt cnt i) (cnt.getD i 0).toNat

theorem entIn_length (val : List Int) (i c k j : Nat) : (entIn val i c k j).length = j := by
  induction j with
  | zero => rfl
  | succ j ih => simp [entIn, ih]

theorem entOut_length (cnt val : List Int) (i : Nat) : (entOut cnt val i).length = kAt cnt i := by
  induction i with
  | zero => rfl
  | succ i ih => simp [entOut, ih, entIn_length, kAt]

/-- The symbol of a code. -/
def symOf (es : List (Nat × Nat × Nat)) (c n : Nat) : Option Nat := (es.find? fun e => e.2.1 == c && e.2.2 == n).map (·.1)

/-- The table l's code of the symbol s is read back by es: none of its beginnings is a code. -/
structure Dec (l : List Nat) (es : List (Nat × Nat × Nat)) (s : Nat) : Prop where
  n1 : 1 ≤ l.getD s 0 / 16777216
  n2 : l.getD s 0 / 16777216 ≤ 16
  c : l.getD s 0 % 16777216 < 2 ^ (l.getD s 0 / 16777216)
  hit : symOf es (l.getD s 0 % 16777216) (l.getD s 0 / 16777216) = some s
  miss : ∀ j, 1 ≤ j → j < l.getD s 0 / 16777216 → symOf es (l.getD s 0 % 16777216 / 2 ^ (l.getD s 0 / 16777216 - j)) j = none

def decB (l : List Nat) (es : List (Nat × Nat × Nat)) (s : Nat) : Bool :=
  decide (1 ≤ l.getD s 0 / 16777216) && decide (l.getD s 0 / 16777216 ≤ 16) && decide (l.getD s 0 % 16777216 < 2 ^ (l.getD s 0 / 16777216)) &&
  (symOf es (l.getD s 0 % 16777216) (l.getD s 0 / 16777216) == some s) &&
  (List.range 17).all fun j => !(decide (1 ≤ j) && decide (j < l.getD s 0 / 16777216)) || (symOf es (l.getD s 0 % 16777216 / 2 ^ (l.getD s 0 / 16777216 - j)) j).isNone

theorem dec_of {l : List Nat} {es : List (Nat × Nat × Nat)} {s : Nat} (h : decB l es s = true) : Dec l es s := by
  unfold decB at h
  simp only [Bool.and_eq_true, decide_eq_true_eq, beq_iff_eq, List.all_eq_true, List.mem_range] at h
  obtain ⟨⟨⟨⟨h1, h2⟩, h3⟩, h4⟩, h5⟩ := h
  refine ⟨h1, h2, h3, h4, fun j hj hj2 => ?_⟩
  have := h5 j (by omega)
  simp only [Bool.or_eq_true, Bool.not_eq_true', Bool.and_eq_false_iff, decide_eq_false_iff_not, Option.isNone_iff_eq_none] at this
  rcases this with (h | h) | h
  · omega
  · omega
  · exact h

/-- No symbol twice, no code twice; all small. -/
structure EOk (es : List (Nat × Nat × Nat)) : Prop where
  syms : (es.map (·.1)).Nodup
  codes : (es.map (·.2)).Nodup
  small : ∀ e ∈ es, e.1 < 256 ∧ e.2.1 < 65536 ∧ 1 ≤ e.2.2 ∧ e.2.2 ≤ 16

def es0 : List (Nat × Nat × Nat) := entOut cnt0 val0 16
def es1 : List (Nat × Nat × Nat) := entOut cnt1 val1 16
def es2 : List (Nat × Nat × Nat) := entOut cnt2 val2 16
def es3 : List (Nat × Nat × Nat) := entOut cnt3 val3 16

theorem eok0 : EOk es0 := ⟨by decide +kernel, by decide +kernel, by decide +kernel⟩
theorem eok1 : EOk es1 := ⟨by decide +kernel, by decide +kernel, by decide +kernel⟩
theorem eok2 : EOk es2 := ⟨by decide +kernel, by decide +kernel, by decide +kernel⟩
theorem eok3 : EOk es3 := ⟨by decide +kernel, by decide +kernel, by decide +kernel⟩

def acB (s : Nat) : Bool := s == 0 || s == 240 || (decide (1 ≤ s % 16) && decide (s % 16 ≤ 10))

theorem all0 : ((List.range 12).all fun s => decB lutL0 es0 s) = true := by decide +kernel
theorem all2 : ((List.range 12).all fun s => decB lutL2 es2 s) = true := by decide +kernel
theorem all1 : ((List.range 256).all fun s => !acB s || decB lutL1 es1 s) = true := by decide +kernel
theorem all3 : ((List.range 256).all fun s => !acB s || decB lutL3 es3 s) = true := by decide +kernel

/-- A DC table and an AC table, and what reads them back. -/
structure Tab (ld la : List Nat) (ed ea : List (Nat × Nat × Nat)) : Prop where
  dc : ∀ s, s < 12 → Dec ld ed s
  ac : ∀ s, acSym s → Dec la ea s
  eob : Dec la ea 0

theorem tab_of {ld la : List Nat} {ed ea : List (Nat × Nat × Nat)} (h0 : ((List.range 12).all fun s => decB ld ed s) = true) (h1 : ((List.range 256).all fun s => !acB s || decB la ea s) = true) : Tab ld la ed ea := by
  have ac : ∀ s, s < 256 → acB s = true → Dec la ea s := by
    intro s hs hb
    have := List.all_eq_true.1 h1 s (List.mem_range.2 hs)
    rw [hb] at this
    exact dec_of (by simpa using this)
  refine ⟨fun s hs => dec_of (List.all_eq_true.1 h0 s (List.mem_range.2 hs)), ?_, ac 0 (by omega) (by decide)⟩
  rintro s (rfl | ⟨a, b, c⟩)
  · exact ac 240 (by omega) (by decide)
  · refine ac s c ?_
    unfold acB
    simp [a, b]

theorem tab0 : Tab lutL0 lutL1 es0 es1 := tab_of all0 all1
theorem tab1 : Tab lutL2 lutL3 es2 es3 := tab_of all2 all3
end Go.Proofs.YtpophkigihfjoaaDoor

/- The walks of the reader's bit and number. -/
namespace Go.Proofs.YtpophkigihfjoaaDoor
open Go.RowKit
set_option maxRecDepth 100000

/-- The reader in memory: it stands at bit a of the bytes D (block DB); its own block is RB. -/
structure SrcR (w : World) (RB DB : Nat) (D : List Nat) (a : Nat) : Prop where
  head : ∃ cap, Blk w RB [.slice (some ⟨DB, 0, none⟩) D.length cap, .int .i64 a, .bool false] 72
  data : ∀ j, j < D.length → w.cell? ⟨DB, j, none⟩ = some (.int .u8 (D.getD j 0 : Nat))
  lt : DB < w.heap.size
  ne : DB ≠ RB
  small : D.length ≤ 1000000
  byte : ∀ d ∈ D, d < 256

theorem SrcR.frame {w w' : World} {S : Nat → Prop} {RB DB : Nat} {D : List Nat} {a : Nat} (h : SrcR w RB DB D a) (hf : Fr S w w') (h1 : ¬ S RB) (h2 : ¬ S DB) : SrcR w' RB DB D a := by
  obtain ⟨cap, hh⟩ := h.head
  exact ⟨⟨cap, hf.blk hh h1⟩, fun j hj => (World.cell?_of_block (a := ⟨DB, j, none⟩) (hf.block DB h.lt h2)).trans (h.data j hj), Nat.lt_of_lt_of_le h.lt hf.size, h.ne, h.small, h.byte⟩

theorem and1 (n : Nat) (h : n < 4294967296) : bits BinOp.and IntKind.i64 (n : Int) 1 = ((n % 2 : Nat) : Int) := by
  show IntKind.i64.wrap ((BitVec.ofInt 64 (n : Int) &&& BitVec.ofInt 64 (1 : Int)).toNat : Int) = _
  have e1 : (BitVec.ofInt 64 (n : Int)).toNat = n := by
    rw [BitVec.toNat_ofInt]; omega
  have e2 : (BitVec.ofInt 64 (1 : Int)).toNat = 2 ^ 1 - 1 := by decide
  rw [BitVec.toNat_and, e1, e2, Nat.and_two_pow_sub_one_eq_mod]
  simp only [IntKind.wrap, IntKind.bits, IntKind.signed] at *
  simp
  omega

/-- A bit as a number. -/
def b2i (b : Bool) : Nat := if b then 1 else 0

set_option maxHeartbeats 400000 in
theorem bit_any {w : World} {RB DB : Nat} {D : List Nat} {a : Nat} (h : SrcR w RB DB D a) {b : Bool} (hb : (bitsOf D)[a]? = some b) :
    Calls Tryd.prog 18 #[.pointer (some ⟨RB, 0, none⟩)] w fun e w' => e = .returned (.int .i64 (b2i b)) ∧ SrcR w' RB DB D (a + 1) ∧ Fr (· = RB) w w' := by
  have ha : a < 8 * D.length := by
    have := (List.getElem?_eq_some_iff.1 hb).1
    rwa [bitsOf_length] at this
  have hs := h.small
  obtain ⟨cap, hh⟩ := h.head
  have c0 := hh.cellv 0 rfl
  have c1 := hh.cellv 1 rfl
  have cd := h.data (a / 8) (by omega)
  obtain ⟨x, hx⟩ : ∃ x, D.getD (a / 8) 0 = x := ⟨_, rfl⟩
  have hx2 : x < 256 := by
    rw [← hx, List.getD_eq_getElem?_getD, List.getElem?_eq_getElem (by omega)]
    exact h.byte _ (List.getElem_mem _)
  rw [hx] at cd
  have hbv : b2i b = x / 2 ^ (7 - a % 8) % 2 := by
    rw [bitsOf_get D a ha, hx] at hb
    have := Option.some.inj hb
    subst this
    unfold b2i
    by_cases hc : x / 2 ^ (7 - a % 8) % 2 = 1
    · rw [if_pos (by simpa using hc), hc]
    · rw [if_neg (by simpa using hc)]; omega
  have hval : bits BinOp.and IntKind.i64 (wrap64 ((x : Int) / 2 ^ (7 - a % 8))) 1 = (b2i b : Int) := by
    have e : (x : Int) / 2 ^ (7 - a % 8) = ((x / 2 ^ (7 - a % 8) : Nat) : Int) := by push_cast; rfl
    have hle : x / 2 ^ (7 - a % 8) ≤ x := Nat.div_le_self _ _
    rw [e, hbv]
    generalize x / 2 ^ (7 - a % 8) = y at hle
    rw [IntWalk.wrap64_in _ ⟨by omega, by omega⟩, and1 _ (by omega)]
  have H := hu h
  have HB := hu hh
  have HBV := hu hval
  have hne : ¬ ((a : Int) = 8 * (D.length : Int)) := by omega
  have q1 : ((a : Int) == 8 * (D.length : Int)) = false := by simpa using hne
  have f1 := hh.frozen 1
  clear h hh hbv hx hb hne hval
  go_enter Tryd.func18, Tryd.ntmps18
  go_wp2
  go_quiet (fail)
  go_wp2
  go_quiet (fail)
  go_wp2
  go_ret
  rw [HBV.out ()]
  refine ⟨rfl, ⟨⟨cap, ?_⟩, fun j hj => ?_, ?_, (H.out ()).ne, hs, (H.out ()).byte⟩, ?_⟩
  · exact (((HB.out ()).of_heap rfl).set 1 (.int .i64 ((a : Int) + 1)) : Blk _ RB _ 72)
  · rw [World.cell?_setCell_other _ _ _ _ (by intro e; exact (H.out ()).ne (congrArg Addr.block e).symm)]
    exact (H.out ()).data j hj
  · simpa using (H.out ()).lt
  · exact ((Fr.refl (· = RB) w).drewN _).setCell (a := ⟨RB, 1, none⟩) (fun _ => rfl) _
end Go.Proofs.YtpophkigihfjoaaDoor

/- The walk of the reader's number. -/
namespace Go.Proofs.YtpophkigihfjoaaDoor
open Go.RowKit
set_option maxRecDepth 100000

/-- Some number has been read, k bits long. -/
def NumPost (w : World) (RB DB : Nat) (D : List Nat) (a : Nat) (e : Ending) (w' : World) : Prop := ∃ z : Int, e = .returned (.int .i64 z) ∧ SrcR w' RB DB D a ∧ Fr (· = RB) w w'

def NumRel (w : World) (RB DB : Nat) (D : List Nat) (a k : Nat) (x i : Value) (wr : World) : Prop := ∃ (j : Nat) (z : Int), j ≤ k ∧ i = .int .i64 j ∧ x = .int .i64 z ∧ SrcR wr RB DB D (a + j) ∧ Fr (· = RB) w wr

set_option maxHeartbeats 400000 in
theorem number_any {w : World} {RB DB : Nat} {D : List Nat} {a k : Nat} (h : SrcR w RB DB D a) (hk : k ≤ 16) (hb : a + k ≤ 8 * D.length) :
    Calls Tryd.prog 36 #[.pointer (some ⟨RB, 0, none⟩), .int .i64 k] w (NumPost w RB DB D (a + k)) := by
  have H := hu h
  have HB : Hid (Unit → ∀ j, j < k → ∃ b, (bitsOf D)[a + j]? = some b) := hu fun j hj => ⟨_, List.getElem?_eq_getElem (by rw [bitsOf_length]; omega)⟩
  clear h hb
  go_enter Tryd.func36, Tryd.ntmps36
  go_wp2
  go_loopw [5, 7] (fun x i wr => NumRel w RB DB D a k x i wr) (fun _ i _ => k - (intOf i).toNat)
  case atStart => exact ⟨0, 0, by omega, rfl, rfl, H.out (), Fr.refl _ _⟩
  case round =>
    obtain ⟨j, z, hj, rfl, rfl, hS, hF⟩ := hrel
    have HS := hu hS
    have HF := hu hF
    clear hS hF
    by_cases hlt : j < k
    · obtain ⟨b, hbit⟩ := HB.out () j hlt
      have HBit := hu hbit
      clear hbit
      go_wp2_with fail
      refine (bit_any (HS.out ()) (HBit.out ())).mono ?_
      rintro e w1 ⟨rfl, hS1, hF1⟩
      have HS1 := hu hS1
      have HF1 := hu hF1
      clear hS1 hF1
      go_wp2
      go_roundw
      case rel => exact ⟨j + 1, _, by omega, by go_num, rfl, HS1.out (), (HF.out ()).trans (HF1.out ()) (fun _ _ e => e)⟩
      case measure => simp [intOf]; omega
    · obtain rfl : j = k := by omega
      by_cases hk0 : 0 < j
      · go_wp2
        all_goals
          go_ret
          exact ⟨_, rfl, HS.out (), HF.out ()⟩
      · obtain rfl : j = 0 := by omega
        go_wp2
        go_ret
        exact ⟨_, rfl, HS.out (), HF.out ()⟩
end Go.Proofs.YtpophkigihfjoaaDoor

/- Maps keyed by a code and its length. -/
namespace Go.Proofs.YtpophkigihfjoaaDoor
open Go.RowKit Go.Maps
set_option maxRecDepth 100000

theorem laidOutM : laidOutB Tryd.prog = true := by kernel_rfl
theorem law154 : Keyed Tryd.prog 154 := Keyed.of_law (deep_law_laid laidOutM (m := 5) (by decide) (of_decide_eq_true (by kernel_rfl)) (by kernel_rfl) (by kernel_rfl))
theorem law3 : Keyed Tryd.prog 3 := int_keyed Tryd.underlying3

/-- A code with its length, as a value, and as a key reads. -/
def pairV (c n : Nat) : Value := .agg #[.int .i64 c, .int .i64 n]
def kl (c n : Nat) : Lit := .string (keyBytes [.int .i64 c, .int .i64 n])

theorem und154 : Tryd.prog.underlying 154 = some (.array 2 3) := Tryd.underlying154

theorem wf64 (n : Nat) (h : n < 4294967296) : (Lit.int .i64 (n : Int)).wf = true := by
  have e1 : IntKind.i64.min = -9223372036854775808 := rfl
  have e2 : IntKind.i64.max = 9223372036854775807 := rfl
  simp only [Lit.wf, e1, e2, Bool.and_eq_true, decide_eq_true_eq]
  omega

theorem types_size : ∃ m, Tryd.prog.types.size = m + 1 := ⟨Tryd.prog.types.size - 1, by
  have : 154 < Tryd.prog.types.size := by
    exact of_decide_eq_true (by kernel_rfl)
  omega⟩

theorem keyOf154 (c n : Nat) (hc : c < 4294967296) (hn : n < 4294967296) : keyOf Tryd.prog 154 (pairV c n) = some (kl c n) := by
  have h1 : Tryd.prog.keyType 154 = true := by kernel_rfl
  have c3 : Tryd.prog.cellsOf 3 = 1 := by kernel_rfl
  have c154 : Tryd.prog.cellsOf 154 = 2 := by kernel_rfl
  have h2 : (pairV c n).formed Tryd.prog 154 = true := by
    unfold pairV Value.formed
    rw [und154]
    simp [Value.formed, Tryd.underlying3, wf64 c hc, wf64 n hn, c154]
  obtain ⟨m, hm⟩ := types_size
  unfold keyOf
  rw [und154]
  simp only [h1, h2, Bool.and_self, if_true]
  rw [hm]
  have e : (pairV c n).cells.toList = [.int .i64 c, .int .i64 n] := by simp [pairV, Value.cells]
  rw [e]
  unfold Program.keyLits
  rw [und154]
  simp [c3, c154, List.range_succ, Program.keyLits, Tryd.underlying3, wf64 c hc, wf64 n hn, kl]

theorem kl_key (c n : Nat) (hc : c < 4294967296) (hn : n < 4294967296) : WideAt.IsKeyLit (kl c n) := law154.key (keyOf154 c n hc hn)

theorem kl_inj {c n c' n' : Nat} (hc : c < 4294967296) (hn : n < 4294967296) (hc' : c' < 4294967296) (hn' : n' < 4294967296) (h : kl c n = kl c' n') : c = c' ∧ n = n' := by
  have h1 := keyOf154 c n hc hn
  rw [h] at h1
  have := law154.inj h1 (keyOf154 c' n' hc' hn')
  simp only [pairV, Value.agg.injEq, Array.mk.injEq] at this
  simp at this
  omega
end Go.Proofs.YtpophkigihfjoaaDoor
