/- Walks of bufio.Writer's Flush, WriteByte and Write. -/
import Derived.Test.YtpophkigihfjoaaDoorBuf
namespace Go.Proofs.YtpophkigihfjoaaDoor
open Go.RowKit
set_option maxRecDepth 100000

set_option maxHeartbeats 400000 in
theorem flush_some {w : World} {BW BF WW : Nat} {v : Value} {xs buf : List Int} {n : Nat} (h : BufW w BW BF WW v xs buf n) (hn : 0 < n) (hsm : xs.length + n ≤ BIG) :
    Calls Tryd.prog 98 #[.pointer (some ⟨BW, 0, none⟩)] w fun e w' => e = .returned .nilIface ∧
      ∃ v', BufW w' BW BF WW v' (xs ++ buf.take n) buf 0 ∧ Adv BW BF WW v v' w w' := by
  have c0 := h.head.cellv 0 rfl
  have c1 := h.head.cellv 1 rfl
  have c2 := h.head.cellv 2 rfl
  have c3 := h.head.cellv 3 rfl
  have hn4 := h.fill
  have H := Lib.hid h
  have Hsm := Lib.hid hsm
  clear h hsm
  have hz : ((n : Int) == 0) = false := by simpa using (by omega : n ≠ 0)
  have hm := meth_sink
  have hi0 : (0 : Int) ≤ (n : Int) := by omega
  have hi1 : (n : Int) ≤ 4096 := by omega
  go_enter Tryd.func98, Tryd.ntmps98
  go_wp2
  go_region_held3 (fun w' => w'.cell? ⟨BW, 1, none⟩ = some (.slice (some ⟨BF, 0, none⟩) 4096 4096) ∧ w'.cell? ⟨BW, 2, none⟩ = some (.int .i64 n) ∧ w'.cell? ⟨BW, 3, none⟩ = some (.iface 53 (.pointer (some ⟨WW, 0, none⟩)))) (first | exact ⟨c1, c2, c3⟩ | exact ⟨HB2.out.head.cellv 1 rfl, HB2.out.head.cellv 2 rfl, HB2.out.head.cellv 3 rfl⟩ | go_keep)
    (first | (go_at_call 96; refine (sink_from H.out Hsm.out _ w.drew rfl).mono ?_; rintro e w1 ⟨rfl, v', HB, HA⟩; have HB2 := Lib.hid HB; have HA2 := Lib.hid HA; clear HB HA))
  have d0 := HB2.out.head.cellv 0 rfl
  have d2 := HB2.out.head.cellv 2 rfl
  have df := HB2.out.head.frozen 2
  clear c0 c1 c2 c3
  go_wp2
  go_ret
  refine ⟨rfl, v', HB2.out.setN 0 (by omega) (.int .i64 0) (by simp), ?_⟩
  exact (HA2.out.setCell (a := ⟨BW, 2, none⟩) (.inl rfl) _).ofDrew

/-- Flush, in either case. -/
theorem flush_any {w : World} {BW BF WW : Nat} {v : Value} {xs buf : List Int} {n : Nat} (h : BufW w BW BF WW v xs buf n) (hsm : xs.length + n ≤ BIG) :
    Calls Tryd.prog 98 #[.pointer (some ⟨BW, 0, none⟩)] w fun e w' => e = .returned .nilIface ∧
      ∃ v', BufW w' BW BF WW v' (xs ++ buf.take n) buf 0 ∧ Adv BW BF WW v v' w w' := by
  rcases Nat.eq_zero_or_pos n with rfl | hn
  · refine (flush_zero h).mono ?_
    rintro e w' ⟨rfl, rfl⟩
    exact ⟨rfl, v, by simpa using h, Adv.refl _ _ _ _ _⟩
  · exact flush_some h hn hsm

/-- The buffered writer has taken these bytes in all: they lie in the sink or wait in the buffer. -/
def Took (w : World) (BW BF WW : Nat) (v : Value) (c : List Int) : Prop := ∃ xs buf n, BufW w BW BF WW v xs buf n ∧ c = xs ++ buf.take n ∧ (xs = [] ∨ 4096 ≤ xs.length)

/-- A byte into the buffer, behind those that wait. -/
theorem BufW.put {w : World} {BW BF WW : Nat} {v : Value} {xs buf : List Int} {n : Nat} (h : BufW w BW BF WW v xs buf n) (hn : n < 4096) (b : Int) (a : Value) (ha : a = .int .i64 ((n : Int) + 1)) :
    BufW ((w.setCell ⟨BF, n, none⟩ (B8 b)).setCell ⟨BW, 2, none⟩ a) BW BF WW v xs (buf.set n b) (n + 1) := by
  have h1 : BufW (w.setCell ⟨BF, n, none⟩ (B8 b)) BW BF WW v xs (buf.set n b) n := by
    refine ⟨h.head.setOther h.ne1 _, ?_, by rw [List.length_set]; exact h.len, h.fill, h.sink.setOther (Ne.symm h.ne3) _, ?_, h.ne1, h.ne2, h.ne3, h.own1, h.own2, h.own3, h.small⟩
    · have := h.body.set n (B8 b)
      rw [← List.map_set] at this
      exact this
    · refine ownsRow_of_block h.row fun k hk => heap_setCell_other _ _ _ _ ?_
      rintro rfl
      exact h.own2 hk
  exact h1.setN (n + 1) (by omega) a (by rw [ha]; simp)

theorem take_set_succ (buf : List Int) (n : Nat) (b : Int) (h : n < buf.length) : (buf.set n b).take (n + 1) = buf.take n ++ [b] := by
  rw [List.take_succ_eq_append_getElem (by simpa using h)]
  simp [List.take_set_of_le]

set_option maxHeartbeats 400000 in
theorem byte_room {w : World} {BW BF WW : Nat} {v : Value} {xs buf : List Int} {n : Nat} (h : BufW w BW BF WW v xs buf n) (hn : n < 4096) (b : Int) :
    Calls Tryd.prog 100 #[.pointer (some ⟨BW, 0, none⟩), B8 b] w fun e w' => e = .returned .nilIface ∧
      BufW w' BW BF WW v xs (buf.set n b) (n + 1) ∧ Adv BW BF WW v v w w' := by
  have c0 := h.head.cellv 0 rfl
  have c1 := h.head.cellv 1 rfl
  have c2 := h.head.cellv 2 rfl
  have cb : w.cell? ⟨BF, n, none⟩ = some (B8 (buf.getD n 0)) := by
    rw [h.body.cell, List.getElem?_map, List.getD_eq_getElem?_getD, List.getElem?_eq_getElem (by rw [h.len]; omega)]; rfl
  have fb := h.body.frozen n
  have fh := h.head.frozen 2
  have ne1 := h.ne1
  have ne1' := Ne.symm h.ne1
  have H := Lib.hid h
  clear h
  have hi0 : (0 : Int) ≤ (n : Int) := by omega
  have hi1 : (n : Int) < 4096 := by omega
  have hd : decide ((4096 : Int) - (n : Int) ≤ 0) = false := by simpa using hi1
  go_enter Tryd.func100, Tryd.ntmps100
  go_wp2_with (go_at_call 97; refine (avail_any H.out).mono ?_; rintro e w1 ⟨rfl, k, rfl⟩)
  go_region
  go_wp2
  go_ret
  have HB : BufW (w.drewN (k + 1)) BW BF WW v xs buf n := H.out.heap rfl
  refine ⟨rfl, HB.put hn b _ rfl, ?_⟩
  exact (((Adv.refl BW BF WW v w).drewN (k + 1)).setCell (a := ⟨BF, n, none⟩) (.inr (.inl rfl)) _).setCell (a := ⟨BW, 2, none⟩) (.inl rfl) _

set_option maxHeartbeats 400000 in
theorem byte_full {w : World} {BW BF WW : Nat} {v : Value} {xs buf : List Int} (h : BufW w BW BF WW v xs buf 4096) (b : Int) (hsm : xs.length + 4096 ≤ BIG) :
    Calls Tryd.prog 100 #[.pointer (some ⟨BW, 0, none⟩), B8 b] w fun e w' => e = .returned .nilIface ∧
      ∃ v', BufW w' BW BF WW v' (xs ++ buf) (buf.set 0 b) 1 ∧ Adv BW BF WW v v' w w' := by
  have c0 := h.head.cellv 0 rfl
  have htake : buf.take 4096 = buf := List.take_of_length_le (by rw [h.len]; omega)
  have Ht := Lib.hid htake
  have H := Lib.hid h
  have Hsm := Lib.hid hsm
  clear h htake hsm
  go_enter Tryd.func100, Tryd.ntmps100
  go_wp2_with (first | (go_at_call 97; refine (avail_any H.out).mono ?_; rintro e w1 ⟨rfl, k, rfl⟩) | (go_at_call 98; refine (flush_any (w := w.drewN k) (H.out.heap rfl) Hsm.out).mono ?_; rintro e w1 ⟨rfl, v', HB, HA⟩; have HB2 := Lib.hid HB; have HA2 := Lib.hid HA; clear HB HA))
  have ne1 := HB2.out.ne1
  have ne1' := Ne.symm HB2.out.ne1
  have d1 := HB2.out.head.cellv 1 rfl
  have d2 := HB2.out.head.cellv 2 rfl
  have df := HB2.out.head.frozen 2
  have cb : w1.cell? ⟨BF, 0, none⟩ = some (B8 (buf.getD 0 0)) := by
    rw [HB2.out.body.cell, List.getElem?_map, List.getD_eq_getElem?_getD, List.getElem?_eq_getElem (by rw [HB2.out.len]; omega)]; rfl
  have fb := HB2.out.body.frozen 0
  clear c0
  go_region
  go_wp2
  go_ret
  have HB3 := (HB2.out.put (by omega) b (.int .i64 1) (by simp)).heap (w2 := ((w1.setCell ⟨BF, 0, none⟩ (Value.int IntKind.u8 b)).setCell ⟨BW, 2, none⟩ (Value.int IntKind.i64 1)).drew) rfl
  rw [Ht.out] at HB3
  refine ⟨rfl, v', HB3, ?_⟩
  exact ((HA2.out.ofDrewN.setCell (a := ⟨BF, 0, none⟩) (.inr (.inl rfl)) _).setCell (a := ⟨BW, 2, none⟩) (.inl rfl) _).drew

theorem Took.len {w : World} {BW BF WW : Nat} {v : Value} {xs buf : List Int} {n : Nat} (h : BufW w BW BF WW v xs buf n) : (xs ++ buf.take n).length = xs.length + n := by
  rw [List.length_append, List.length_take, h.len]; have := h.fill; omega

/-- WriteByte: one byte more. -/
theorem wbyte {w : World} {BW BF WW : Nat} {v : Value} {c : List Int} (h : Took w BW BF WW v c) (b : Int) (hsm : c.length ≤ BIG) :
    Calls Tryd.prog 100 #[.pointer (some ⟨BW, 0, none⟩), B8 b] w fun e w' => e = .returned .nilIface ∧
      ∃ v', Took w' BW BF WW v' (c ++ [b]) ∧ Adv BW BF WW v v' w w' := by
  obtain ⟨xs, buf, n, h, rfl, hx⟩ := h
  rw [Took.len h] at hsm
  rcases Nat.lt_or_ge n 4096 with hn | hn
  · refine (byte_room h hn b).mono ?_
    rintro e w' ⟨rfl, h1, h2⟩
    refine ⟨rfl, v, ⟨xs, _, n + 1, h1, ?_, hx⟩, h2⟩
    rw [take_set_succ _ _ _ (by rw [h.len]; exact hn), List.append_assoc]
  · obtain rfl : n = 4096 := by have := h.fill; omega
    refine (byte_full h b hsm).mono ?_
    rintro e w' ⟨rfl, v', h1, h2⟩
    refine ⟨rfl, v', ⟨_, _, 1, h1, ?_, .inr (by rw [List.length_append, h.len]; omega)⟩, h2⟩
    have h3 := take_set_succ buf 0 b (by rw [h.len]; omega)
    simp only [Nat.zero_add, List.take_zero, List.nil_append] at h3
    rw [h3, List.take_of_length_le (by rw [h.len]; omega)]

end Go.Proofs.YtpophkigihfjoaaDoor
