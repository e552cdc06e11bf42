/- The walks of the encoder's segment headers. -/
import Derived.Test.YtpophkigihfjoaaDoorSosW
namespace Go.Proofs.YtpophkigihfjoaaDoor
open Go.RowKit
set_option maxRecDepth 100000

theorem EncW.setBuf' {w : World} {I : Ids} {v : Value} {c : List Int} {A nb : Nat} {sc q : List Int} (h : EncW w I v c A nb sc q) (i a : Nat) (hi : i < 16) (ha : a = 2 + i) (b : Int) : EncW (w.setCell ⟨I.E, a, none⟩ (.int .u8 b)) I v c A nb (sc.set i b) q := by
  subst ha
  exact h.setBuf i hi b

theorem EncW.cbuf' {w : World} {I : Ids} {v : Value} {c : List Int} {A nb : Nat} {sc q : List Int} (h : EncW w I v c A nb sc q) (i a : Nat) (hi : i < 16) (ha : a = 2 + i) : w.cell? ⟨I.E, a, none⟩ = some (B8 (sc.getD i 0)) := by
  subst ha
  exact h.cbuf i hi

/-- The first scratch bytes as what is written. -/
theorem EncW.src {w : World} {I : Ids} {v : Value} {c : List Int} {A nb : Nat} {sc q p : List Int} (h : EncW w I v c A nb sc q) (hp : p.length ≤ 16) (hs : ∀ j, j < p.length → sc.getD j 0 = p.getD j 0) : Src w I.BW I.BF I.WW v I.E 2 p :=
  ⟨fun j hj => by rw [← hs j hj]; exact h.cbuf j (by omega), h.blk.lt, h.ap⟩

theorem set_getD (l : List Int) (i j : Nat) (b : Int) (hi : i < l.length) : (l.set i b).getD j 0 = if i = j then b else l.getD j 0 := by
  simp only [List.getD_eq_getElem?_getD, List.getElem?_set]
  by_cases h : i = j
  · subst h; simp [hi]
  · simp [h]

set_option maxHeartbeats 1000000 in
theorem marker {w : World} {I : Ids} {v : Value} {c : List Int} {A nb : Nat} {sc q : List Int} (h : EncW w I v c A nb sc q) (m n : Int) (hm0 : 0 ≤ m) (hm1 : m ≤ 255) (hn0 : 0 ≤ n) (hn1 : n ≤ 65535) (hlo : bits BinOp.and IntKind.i64 n 255 = n % 256)
    (hlen : c.length + 4 ≤ 4096) :
    Calls Tryd.prog 42 #[.pointer (some ⟨I.E, 0, none⟩), .int .u8 m, .int .i64 n] w fun e w' => e = .returned (.tuple #[]) ∧
      ∃ v' sc', EncW w' I v' (c ++ [255, m, n / 256, n % 256]) A nb sc' q ∧ AdvE I v v' w w' := by
  have b0 := h.cbuf' 0 2 (by omega) rfl
  have b1 := h.cbuf' 1 3 (by omega) rfl
  have b2 := h.cbuf' 2 4 (by omega) rfl
  have b3 := h.cbuf' 3 5 (by omega) rfl
  have fz := fun i => h.fz i
  have H := hu h
  have HLEN := hu hlen
  have h4 := (((h.setBuf' 0 2 (by omega) rfl 255).setBuf' 1 3 (by omega) rfl m).setBuf' 2 4 (by omega) rfl (n / 256)).setBuf' 3 5 (by omega) rfl (n % 256)
  have hsrc : ∀ j, j < [255, m, n / 256, n % 256].length → ((((sc.set 0 255).set 1 m).set 2 (n / 256)).set 3 (n % 256)).getD j 0 = [255, m, n / 256, n % 256].getD j 0 := by
    intro j hj
    have hl := h.sl
    simp only [List.length_cons, List.length_nil] at hj
    rw [set_getD _ _ _ _ (by simp [hl]), set_getD _ _ _ _ (by simp [hl]), set_getD _ _ _ _ (by simp [hl]), set_getD _ _ _ _ (by simp [hl])]
    rcases (by omega : j = 0 ∨ j = 1 ∨ j = 2 ∨ j = 3) with rfl | rfl | rfl | rfl <;> rfl
  have H4 := hu h4
  have HS := hu (h4.src (p := [255, m, n / 256, n % 256]) (by simp) hsrc)
  clear h hlen h4 hsrc
  go_enter Tryd.func42, Tryd.ntmps42
  go_wp2_with fail
  refine (ewrite (H4.out ()) (HS.out ()) 4 rfl (by omega) (.inl (HLEN.out ())) (by have := HLEN.out (); unfold BIG; omega)).mono ?_
  rintro e w1 ⟨rfl, v1, h1, a1⟩
  have H1 := hu h1
  have A1 := hu a1
  clear h1 a1 b0 b1 b2 b3 fz
  go_wp2
  go_end0
  exact ⟨rfl, v1, _, H1.out (), ((((((AdvE.refl I v w).setCell (a := ⟨I.E, 2, none⟩) rfl _).setCell (a := ⟨I.E, 3, none⟩) rfl _).setCell (a := ⟨I.E, 4, none⟩) rfl _).setCell (a := ⟨I.E, 5, none⟩) rfl _)).trans (A1.out ())⟩

/-- A quantization table as what is written. -/
theorem EncW.srcQ {w : World} {I : Ids} {v : Value} {c : List Int} {A nb : Nat} {sc q : List Int} (h : EncW w I v c A nb sc q) (i o : Nat) (hi : i < 2) (ho : o = 20 + i * 64) : Src w I.BW I.BF I.WW v I.E o ((q.drop (i * 64)).take 64) := by
  have hl := h.ql
  subst ho
  refine ⟨fun j hj => ?_, h.blk.lt, h.ap⟩
  have hj' : j < 64 := by simp at hj; omega
  rw [Nat.add_assoc, h.cq (i * 64 + j) (by omega)]
  congr 2
  simp [List.getD_eq_getElem?_getD, hj', List.getElem?_take]

set_option maxHeartbeats 1000000 in
theorem dqt {w : World} {I : Ids} {v : Value} {c : List Int} {A nb : Nat} {sc q : List Int} (h : EncW w I v c A nb sc q) (hlen : c.length + 134 ≤ 4096) :
    Calls Tryd.prog 26 #[.pointer (some ⟨I.E, 0, none⟩)] w fun e w' => e = .returned (.tuple #[]) ∧
      ∃ v' sc', EncW w' I v' (c ++ [255, 219, 0, 132] ++ [0] ++ q.take 64 ++ [1] ++ q.drop 64) A nb sc' q ∧ AdvE I v v' w w' := by
  have H := hu h
  have HLEN := hu hlen
  have hql := h.ql
  have e0 : (q.drop (0 * 64)).take 64 = q.take 64 := by simp
  have e1 : (q.drop (1 * 64)).take 64 = q.drop 64 := by rw [List.take_of_length_le]; simp [hql]
  have l0 : (q.take 64).length = 64 := by simp [hql]
  have l1 : (q.drop 64).length = 64 := by simp [hql]
  have E0 := hu e0
  have E1 := hu e1
  have L0 := hu l0
  have L1 := hu l1
  clear h hlen hql e0 e1 l0 l1
  go_enter Tryd.func26, Tryd.ntmps26
  go_wp2_with fail
  refine (marker (H.out ()) 219 132 (by omega) (by omega) (by omega) (by omega) (by decide +kernel) (by have := HLEN.out (); omega)).mono ?_
  rintro e w1 ⟨rfl, v1, sc1, h1, a1⟩
  have H1 := hu h1
  have A1 := hu a1
  clear h1 a1
  go_wp2
  refine wp_loop_rounds 3 ?_
  rw [rounds_succ]
  go_wp2_with fail
  refine (ebyte (H1.out ()) 0 (by have := HLEN.out (); simp; unfold BIG; omega)).mono ?_
  rintro e w2 ⟨rfl, v2, h2, a2⟩
  have H2 := hu h2
  have A2 := hu a2
  clear h2 a2
  go_wp2_with fail
  have HS2 := hu ((H2.out ()).srcQ 0 20 (by omega) rfl)
  rw [E0.out ()] at HS2
  refine (ewrite (H2.out ()) (HS2.out ()) 64 (L0.out ()) (by omega) (.inl (by have := HLEN.out (); simp; omega)) (by have := HLEN.out (); simp; unfold BIG; omega)).mono ?_
  rintro e w3 ⟨rfl, v3, h3, a3⟩
  have H3 := hu h3
  have A3 := hu a3
  clear h3 a3
  go_wp2
  rw [rounds_succ]
  go_wp2_with fail
  refine (ebyte (H3.out ()) 1 (by have := HLEN.out (); have := L0.out (); simp; unfold BIG; omega)).mono ?_
  rintro e w4 ⟨rfl, v4, h4, a4⟩
  have H4 := hu h4
  have A4 := hu a4
  clear h4 a4
  go_wp2_with fail
  have HS4 := hu ((H4.out ()).srcQ 1 84 (by omega) rfl)
  rw [E1.out ()] at HS4
  refine (ewrite (H4.out ()) (HS4.out ()) 64 (L1.out ()) (by omega) (.inl (by have := HLEN.out (); have := L0.out (); simp; omega)) (by have := HLEN.out (); have := L0.out (); simp; unfold BIG; omega)).mono ?_
  rintro e w5 ⟨rfl, v5, h5, a5⟩
  have H5 := hu h5
  have A5 := hu a5
  clear h5 a5
  go_wp2
  rw [rounds_succ]
  go_wp2
  go_end0
  exact ⟨rfl, v5, _, H5.out (), ((((A1.out ()).trans (A2.out ())).trans (A3.out ())).trans (A4.out ())).trans (A5.out ())⟩
end Go.Proofs.YtpophkigihfjoaaDoor
