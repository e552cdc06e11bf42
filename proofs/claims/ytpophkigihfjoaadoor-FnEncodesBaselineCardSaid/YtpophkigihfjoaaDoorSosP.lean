/- What a scan is, in plain numbers: its states stay good (bounds, lengths). -/
import Derived.Test.YtpophkigihfjoaaDoorSosW
import Derived.Test.YtpophkigihfjoaaDoorDctL
namespace Go.Proofs.YtpophkigihfjoaaDoor
open Go.RowKit
set_option maxRecDepth 100000

/-- A block leaves a bit stream that is one. -/
theorem block_inv (s : BS) (ld la : List Nat) (d : Int) (f : Nat → Int) (hcd : Codes ld 12) (hca : Codes la 251) (hA : s.A < 2 ^ s.nb) (hnb : s.nb ≤ 7) (hd : d.natAbs ≤ 2047) (hf : ∀ k, 1 ≤ k → k < 64 → (f k).natAbs ≤ 1023) :
    (s.block ld la d f).A < 2 ^ (s.block ld la d f).nb ∧ (s.block ld la d f).nb ≤ 7 := by
  have code : ∀ (s : BS) (l : List Nat) (len run : Nat) (x : Int), Codes l len → s.A < 2 ^ s.nb → s.nb ≤ 7 → run * 16 + cat x.natAbs < len → cat x.natAbs ≤ 16 →
      (s.code l run x).A < 2 ^ (s.code l run x).nb ∧ (s.code l run x).nb ≤ 7 := by
    intro s l len run x hc h1 h2 h3 h4
    have e2 := BS.put_inv s (l.getD (run * 16 + cat x.natAbs) 0 % 16777216) (l.getD (run * 16 + cat x.natAbs) 0 / 16777216) h1 (hc.fits _ h3).1
    exact BS.put_inv (s.huff l (run * 16 + cat x.natAbs)) (mag x) (cat x.natAbs) e2.1 (mag_lt x)
  have zrl : ∀ (m : Nat) (s : BS), s.A < 2 ^ s.nb → s.nb ≤ 7 → (s.zrl la m).A < 2 ^ (s.zrl la m).nb ∧ (s.zrl la m).nb ≤ 7 := by
    intro m
    induction m with
    | zero => intro s h1 h2; exact ⟨h1, h2⟩
    | succ m ih =>
      intro s h1 h2
      obtain ⟨b, c⟩ := ih s h1 h2
      exact BS.put_inv (s.zrl la m) (la.getD 240 0 % 16777216) (la.getD 240 0 / 16777216) b (hca.fits 240 (by omega)).1
  have ac : ∀ n, n ≤ 63 → ∀ s : BS, s.A < 2 ^ s.nb → s.nb ≤ 7 → (acN la f s n).1.A < 2 ^ (acN la f s n).1.nb ∧ (acN la f s n).1.nb ≤ 7 := by
    intro n
    induction n with
    | zero => intro _ s h1 h2; exact ⟨h1, h2⟩
    | succ n ih =>
      intro hn s h1 h2
      obtain ⟨b, c⟩ := ih (by omega) s h1 h2
      have e : acN la f s (n + 1) = acStep la (f (n + 1)) (acN la f s n) := rfl
      rw [e]
      generalize acN la f s n = p at *
      unfold acStep
      split
      · exact ⟨b, c⟩
      · obtain ⟨b1, c1⟩ := zrl (p.2 / 16) p.1 b c
        have hcat : cat (f (n + 1)).natAbs ≤ 10 := cat_le _ 10 (by have := hf (n + 1) (by omega) (by omega); omega)
        exact code (p.1.zrl la (p.2 / 16)) la 251 (p.2 % 16) (f (n + 1)) hca b1 c1 (by omega) (by omega)
  have hcd11 : cat d.natAbs ≤ 11 := cat_le _ 11 (by omega)
  obtain ⟨b, c⟩ := code s ld 12 0 d hcd hA hnb (by omega) (by omega)
  obtain ⟨b1, c1⟩ := ac 63 (by omega) (s.code ld 0 d) b c
  unfold BS.block
  simp only
  split
  · exact BS.put_inv _ _ _ b1 (hca.fits 0 (by omega)).1
  · exact ⟨b1, c1⟩

/-- A state that is good. -/
structure MS.Good (st : MS) (c0 n : Nat) : Prop where
  ok : st.Ok c0 n
  hA : st.s.A < 2 ^ st.s.nb
  hnb : st.s.nb ≤ 7

section
variable {p : Par} (hp : p.Ok) {st : MS} {c0 n : Nat}
include hp

theorem MS.Good.wY (h : st.Good c0 n) (hb : ∀ i, i < 64 → 0 ≤ st.M.getD i 0 ∧ st.M.getD i 0 ≤ 255) : (st.wY p).Good c0 (n + 1) := by
  obtain ⟨g1, g2, _⟩ := coef_bound dctLaw st.M p.q 0 (by omega) h.ok.lM hb hp.qb
  have y1 := h.ok.y1
  have y2 := h.ok.y2
  have := block_inv st.s p.l0 p.l1 (coef (dctP st.M) p.q 0 0 - st.pY) (coef (dctP st.M) p.q 0) hp.c0 hp.c1 h.hA h.hnb (by omega) g2
  exact ⟨h.ok.wY hp dctLaw hb h.hA h.hnb, this.1, this.2⟩

theorem MS.Good.wB (h : st.Good c0 n) (hb : ∀ i, i < 64 → 0 ≤ st.M.getD i 0 ∧ st.M.getD i 0 ≤ 255) : (st.wB p).Good c0 (n + 1) := by
  obtain ⟨g1, g2, _⟩ := coef_bound dctLaw st.M p.q 1 (by omega) h.ok.lM hb hp.qb
  have y1 := h.ok.b1
  have y2 := h.ok.b2
  have := block_inv st.s p.l2 p.l3 (coef (dctP st.M) p.q 1 0 - st.pB) (coef (dctP st.M) p.q 1) hp.c2 hp.c3 h.hA h.hnb (by omega) g2
  exact ⟨h.ok.wB hp dctLaw hb h.hA h.hnb, this.1, this.2⟩

theorem MS.Good.wR (h : st.Good c0 n) (hb : ∀ i, i < 64 → 0 ≤ st.M.getD i 0 ∧ st.M.getD i 0 ≤ 255) : (st.wR p).Good c0 (n + 1) := by
  obtain ⟨g1, g2, _⟩ := coef_bound dctLaw st.M p.q 1 (by omega) h.ok.lM hb hp.qb
  have y1 := h.ok.r1
  have y2 := h.ok.r2
  have := block_inv st.s p.l2 p.l3 (coef (dctP st.M) p.q 1 0 - st.pR) (coef (dctP st.M) p.q 1) hp.c2 hp.c3 h.hA h.hnb (by omega) g2
  exact ⟨h.ok.wR hp dctLaw hb h.hA h.hnb, this.1, this.2⟩

theorem MS.Good.subs (h : st.Good c0 n) (x y t : Nat) (ht : t ≤ 4) : (st.subs p x y t).Good c0 (n + t) := by
  induction t with
  | zero => exact h
  | succ t ih =>
    have g := ih (by omega)
    obtain ⟨o, hb⟩ := g.ok.fill hp x y t (by omega)
    exact MS.Good.wY hp (st := (st.subs p x y t).fill p x y t) ⟨o, g.hA, g.hnb⟩ hb

theorem MS.Good.unit (h : st.Good c0 n) (x y : Nat) : (st.unit p x y).Good c0 (n + 6) := by
  have g4 := h.subs hp x y 4 (by omega)
  obtain ⟨o1, b1⟩ := g4.ok.sclB
  have g5 := MS.Good.wB hp (st := (st.subs p x y 4).sclB) ⟨o1, g4.hA, g4.hnb⟩ b1
  obtain ⟨o2, b2⟩ := g5.ok.sclR
  exact MS.Good.wR hp (st := (((st.subs p x y 4).sclB).wB p).sclR) ⟨o2, g5.hA, g5.hnb⟩ b2

theorem MS.Good.row (h : st.Good c0 n) (y k : Nat) : (st.row p y k).Good c0 (n + 6 * k) := by
  induction k with
  | zero => exact h
  | succ k ih => exact ih.unit hp (16 * k) y

theorem MS.Good.rows (h : st.Good c0 n) (k : Nat) : (st.rows p k).Good c0 (n + 18 * k) := by
  induction k with
  | zero => exact h
  | succ k ih =>
    have g := ih.row hp (16 * k) ((p.wide + 15) / 16)
    have hw := hp.w2
    exact ⟨g.ok.mono (by omega), g.hA, g.hnb⟩
end

theorem sosP_length (p : Par) (hp : p.Ok) (s : BS) (hA : s.A < 2 ^ s.nb) (hnb : s.nb ≤ 7) : (sosP p s).c.length ≤ s.c.length + 200000 := by
  have h0 : (MS.zero ⟨s.c ++ sosHdr, s.A, s.nb⟩).Good (s.c ++ sosHdr).length 0 := ⟨MS.Ok.zero _, hA, hnb⟩
  have g := h0.rows hp ((p.high + 15) / 16)
  have l := g.ok.len
  have hh := hp.h2
  unfold sosP
  have := BS.put_len ((MS.zero ⟨s.c ++ sosHdr, s.A, s.nb⟩).rows p ((p.high + 15) / 16)).s 127 7 g.hnb (by omega)
  have e : (s.c ++ sosHdr).length = s.c.length + 14 := by rw [List.length_append]; rfl
  omega

end Go.Proofs.YtpophkigihfjoaaDoor
