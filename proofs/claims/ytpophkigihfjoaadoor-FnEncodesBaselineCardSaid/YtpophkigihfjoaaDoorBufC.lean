/- The walk of bufio.Writer's Write: what fits into the buffer; what fits behind one flush. -/
import Derived.Test.YtpophkigihfjoaaDoorBufB
import Derived.Deep.RegionLaw
namespace Go.Proofs.YtpophkigihfjoaaDoor
open Go.RowKit
set_option maxRecDepth 100000

theorem size5 : (Tryd.prog.info? 5).map (·.size) = some 1 := by kernel_rfl

/-- Bytes p lie in memory from here on, in a block of which the buffered writer makes no use. -/
structure Src (w : World) (BW BF WW : Nat) (v : Value) (PB off : Nat) (p : List Int) : Prop where
  cell : ∀ j, j < p.length → w.cell? ⟨PB, off + j, none⟩ = some (B8 (p.getD j 0))
  lt : PB < w.heap.size
  out : ¬ Out BW BF WW v PB

theorem Src.adv {w w' : World} {BW BF WW : Nat} {v v' : Value} {PB off : Nat} {p : List Int} (h : Src w BW BF WW v PB off p) (ha : Adv BW BF WW v v' w w') : Src w' BW BF WW v' PB off p := by
  have hb := ha.fr.block PB h.lt h.out
  refine ⟨fun j hj => (World.cell?_of_block (a := ⟨PB, off + j, none⟩) hb).trans (h.cell j hj), Nat.lt_of_lt_of_le h.lt ha.fr.size, ?_⟩
  rintro (e | e | e | e)
  · exact h.out (.inl e)
  · exact h.out (.inr (.inl e))
  · exact h.out (.inr (.inr (.inl e)))
  · exact ha.mv.ne h.lt (fun e' => h.out (.inr (.inr (.inr e')))) e

theorem cellsAt1 {w : World} {B off : Nat} {x : Int} (hp : w.cell? ⟨B, off, none⟩ = some (B8 x)) :
    ∀ j u, ([x].map B8)[j]? = some u → w.cell? ((⟨B, off, none⟩ : Addr).add j) = some u := by
  intro j u hu
  rcases j with _ | j
  · simp at hu; subst hu; simpa [Addr.add] using hp
  · simp at hu

theorem splice_map (buf p : List Int) (n : Nat) : splice (buf.map B8) n (p.map B8) = (splice buf n p).map B8 := by
  simp [splice, List.map_take, List.map_drop]

theorem splice_take (buf p : List Int) (n : Nat) (h : n + p.length ≤ buf.length) : (splice buf n p).take (n + p.length) = buf.take n ++ p := by
  unfold splice
  have hl : (buf.take n).length = n := by rw [List.length_take]; omega
  rw [← List.append_assoc, List.take_append_of_le_length (by simp; omega), List.take_of_length_le (by simp; omega)]

/-- Behind a copy into the buffer. -/
theorem BufW.copied {w w2 : World} {BW BF WW : Nat} {v : Value} {xs buf : List Int} {n : Nat} (h : BufW w BW BF WW v xs buf n) {p : List Int}
    (hb : Blk w2 BF (splice (buf.map B8) n (p.map B8)) 5) (hf : Fr (· = BF) w w2) (hfit : n + p.length ≤ 4096) : BufW w2 BW BF WW v xs (splice buf n p) n :=
  ⟨hf.blk h.head h.ne1, by rw [← splice_map]; exact hb, by rw [length_splice _ _ _ (by rw [h.len]; exact hfit)]; exact h.len, h.fill, hf.blk h.sink (Ne.symm h.ne3),
   ownsRow_of_block h.row (fun k hk => hf.block k (h.row.lt k hk).2 (fun e => h.own2 (e ▸ hk))), h.ne1, h.ne2, h.ne3, h.own1, h.own2, h.own3, h.small⟩

theorem Adv.copied {w w2 : World} {BW BF WW : Nat} {v : Value} (hf : Fr (· = BF) w w2) : Adv BW BF WW v v w w2 := ⟨hf.mono (fun _ _ e => .inr (.inl e)), .inl rfl⟩

set_option maxHeartbeats 400000 in
theorem write_room {w : World} {BW BF WW : Nat} {v : Value} {xs buf : List Int} {n PB off cap : Nat} {p : List Int} (h : BufW w BW BF WW v xs buf n) (hs : Src w BW BF WW v PB off p)
    (m : Nat) (hpm : p.length = m) (hm : 0 < m) (hn : n + m ≤ 4096) :
    Calls Tryd.prog 99 #[.pointer (some ⟨BW, 0, none⟩), .slice (some ⟨PB, off, none⟩) m cap] w fun e w' => e = .returned (.tuple #[.int .i64 m, .nilIface]) ∧
      BufW w' BW BF WW v xs (splice buf n p) (n + m) ∧ Adv BW BF WW v v w w' := by
  have c0 := h.head.cellv 0 rfl
  have c1 := h.head.cellv 1 rfl
  have c2 := h.head.cellv 2 rfl
  have H := Lib.hid h
  have HS := Lib.hid hs
  have Hpm := Lib.hid hpm
  have HC1 : Hid ((p.map B8).length = Nat.min m (4096 - n)) := by unfold Hid; rw [List.length_map, hpm]; exact (Nat.min_eq_left (by omega)).symm
  have HFIT : Hid (n + (p.map B8).length ≤ (buf.map B8).length) := by unfold Hid; rw [List.length_map, List.length_map, hpm, h.len]; exact hn
  have HSRC : Hid (∀ k j u, (p.map B8)[j]? = some u → (w.drewN k).cell? ((⟨PB, off, none⟩ : Addr).add j) = some u) := fun k => cellsAt (w := w.drewN k) hs.cell
  have HN : Hid (n + p.length ≤ 4096) := by unfold Hid; rw [hpm]; exact hn
  clear h hs hpm
  have hi0 : (0 : Int) ≤ (n : Int) := by omega
  have hi1 : (n : Int) ≤ 4096 := by omega
  have hi2 : (n : Int) < 4096 := by omega
  have hne : ¬ (4096 = n) := by omega
  have hd : decide ((4096 : Int) - (n : Int) < (m : Int)) = false := by simp; omega
  go_enter Tryd.func99, Tryd.ntmps99
  go_wp2
  refine wp_loop_once ?_
  go_wp2_with (first | (go_at_call 97; refine (avail_any H.out).mono ?_; rintro e w1 ⟨rfl, k, rfl⟩))
  go_region_held3 (fun w' => w'.cell? ⟨BW, 1, none⟩ = some (.slice (some ⟨BF, 0, none⟩) 4096 4096) ∧ w'.cell? ⟨BW, 2, none⟩ = some (.int .i64 n)) (first | exact ⟨c1, c2⟩ | exact ⟨HW2.out.head.cellv 1 rfl, HW2.out.head.cellv 2 rfl⟩ | go_keep)
    (first | (refine step_copy_blk (w := w.drewN (k + 1)) rfl (.tmp 80) (.tmp 81) 25 25 rfl 5 und25 size5 (some ⟨BF, n, none⟩) (some ⟨PB, off, none⟩) (4096 - n) (4096 - n) m cap (by simp [Act.eval, Act.put]) (by simp [Act.eval, Act.put]) BF n (buf.map B8) 5 (H.out.body.of_heap rfl) (p.map B8) HC1.out (fun _ => ⟨rfl, _, rfl, HSRC.out _⟩) HFIT.out (ints_oneCell .u8 p) ?_; intro w2 hb2 hf2; have HW := BufW.copied (H.out.heap (w2 := w.drewN (k + 1)) rfl) hb2.out hf2.out HN.out; have HW2 := Lib.hid HW; clear HW hb2))
  have d0 := HW2.out.head.cellv 0 rfl
  have d2 := HW2.out.head.cellv 2 rfl
  have df := HW2.out.head.frozen 2
  clear c0 c1 c2
  have Hf := Lib.hid hf2
  clear hf2
  rw [Hpm.out] 
  go_wp2
  go_ret2
  exact ⟨rfl, HW2.out.setN (n + m) (by omega) _ (by simp), (Adv.ofDrewN (Adv.copied Hf.out)).setCell (a := ⟨BW, 2, none⟩) (.inl rfl) _⟩

set_option maxHeartbeats 1000000 in
theorem write_split0 {w : World} {BW BF WW : Nat} {v : Value} {xs buf : List Int} {PB off : Nat} {p0 p1 : Int} (h : BufW w BW BF WW v xs buf 4096) (hs : Src w BW BF WW v PB off [p0, p1])
    (hsm : xs.length + 4096 ≤ BIG) :
    Calls Tryd.prog 99 #[.pointer (some ⟨BW, 0, none⟩), .slice (some ⟨PB, off, none⟩) 2 16] w fun e w' => e = .returned (.tuple #[.int .i64 2, .nilIface]) ∧
      ∃ v' buf', BufW w' BW BF WW v' (xs ++ buf) buf' 2 ∧ buf'.take 2 = [p0, p1] ∧ Adv BW BF WW v v' w w' := by
  have c0 := h.head.cellv 0 rfl
  have c1 := h.head.cellv 1 rfl
  have c2 := h.head.cellv 2 rfl
  have H := Lib.hid h
  have HS := Lib.hid hs
  have Hsm := Lib.hid hsm
  have HFIT : Hid (4096 + (([] : List Int).map B8).length ≤ (buf.map B8).length) := by unfold Hid; simp [h.len]
  clear h hs hsm
  go_enter Tryd.func99, Tryd.ntmps99
  go_wp2
  refine wp_loop_rounds 2 ?_
  rw [rounds_succ]
  go_wp2_with (first | (go_at_call 97; refine (avail_any H.out).mono ?_; rintro e w1 ⟨rfl, k, rfl⟩) | (go_at_call 101; refine (buffered_any (w := w.drewN k) (H.out.heap rfl)).mono ?_; rintro e w1 ⟨rfl, rfl⟩))
  go_region_held3 (fun w' => w'.cell? ⟨BW, 1, none⟩ = some (.slice (some ⟨BF, 0, none⟩) 4096 4096) ∧ w'.cell? ⟨BW, 2, none⟩ = some (.int .i64 4096)) (first | exact ⟨c1, c2⟩ | exact ⟨HW2.out.head.cellv 1 rfl, HW2.out.head.cellv 2 rfl⟩ | go_keep)
    (first | (refine step_copy_blk (w := w.drewN (k + 1)) rfl (.tmp 43) (.tmp 44) 25 25 rfl 5 und25 size5 (some ⟨BF, 0, none⟩) (some ⟨PB, off, none⟩) 0 0 2 16 (by simp [Act.eval, Act.put]) (by simp [Act.eval, Act.put]) BF 4096 (buf.map B8) 5 (H.out.body.of_heap rfl) (([] : List Int).map B8) rfl (fun h => (Nat.not_lt_zero _ h).elim) HFIT.out (ints_oneCell .u8 []) ?_; intro w2 hb2 hf2; have HW := BufW.copied (H.out.heap (w2 := w.drewN (k + 1)) rfl) hb2.out hf2.out (by simp); have HW2 := Lib.hid HW; clear HW hb2))
  have d0 := HW2.out.head.cellv 0 rfl
  have d2 := HW2.out.head.cellv 2 rfl
  have df := HW2.out.head.frozen 2
  clear c0 c1 c2
  have Hf := Lib.hid hf2
  clear hf2
  have HW3 := Lib.hid (HW2.out.setN 4096 (by omega) (.int .i64 4096) (by simp))
  go_wp2_with (first | (go_at_call 98; refine (flush_any (w := w2.setCell ⟨BW, 2, none⟩ (.int .i64 4096)) HW3.out Hsm.out).mono ?_; rintro e w3 ⟨rfl, v', HB, HA⟩; have HB2 := Lib.hid HB; have HA2 := Lib.hid HA; clear HB HA))
  have HAA := Lib.hid (((Adv.ofDrewN (Adv.copied Hf.out)).setCell (a := ⟨BW, 2, none⟩) (.inl rfl) (.int .i64 4096)).trans HA2.out)
  have HS3 := Lib.hid (HS.out.adv HAA.out)
  have e0 := HB2.out.head.cellv 0 rfl
  have e1 := HB2.out.head.cellv 1 rfl
  have e2 := HB2.out.head.cellv 2 rfl
  have HFIT2 : Hid (0 + ([p0, p1].map B8).length ≤ ((splice buf 4096 []).map B8).length) := by unfold Hid; rw [List.length_map, List.length_map, HB2.out.len]; simp
  have HSRC : Hid (∀ k j u, ([p0, p1].map B8)[j]? = some u → (w3.drewN k).cell? ((⟨PB, off, none⟩ : Addr).add j) = some u) := fun k => cellsAt (w := w3.drewN k) HS3.out.cell
  clear d0 d2 df
  rw [rounds_succ]
  go_wp2_with (first | (go_at_call 97; refine (avail_any HB2.out).mono ?_; rintro e w1 ⟨rfl, k2, rfl⟩))
  go_region_held3 (fun w' => w'.cell? ⟨BW, 1, none⟩ = some (.slice (some ⟨BF, 0, none⟩) 4096 4096) ∧ w'.cell? ⟨BW, 2, none⟩ = some (.int .i64 0)) (first | exact ⟨e1, e2⟩ | exact ⟨HX2.out.head.cellv 1 rfl, HX2.out.head.cellv 2 rfl⟩ | go_keep)
    (first | (refine step_copy_blk (w := w3.drewN (k2 + 1)) rfl (.tmp 80) (.tmp 81) 25 25 rfl 5 und25 size5 (some ⟨BF, 0, none⟩) (some ⟨PB, off, none⟩) 4096 4096 2 16 (by simp [Act.eval, Act.put]) (by simp [Act.eval, Act.put]) BF 0 ((splice buf 4096 []).map B8) 5 (HB2.out.body.of_heap rfl) ([p0, p1].map B8) rfl (fun _ => ⟨rfl, _, rfl, HSRC.out _⟩) HFIT2.out (ints_oneCell .u8 [p0, p1]) ?_; intro w4 hb4 hf4; have HX := BufW.copied (HB2.out.heap (w2 := w3.drewN (k2 + 1)) rfl) hb4.out hf4.out (by simp); have HX2 := Lib.hid HX; clear HX hb4))
  have d0 := HX2.out.head.cellv 0 rfl
  have d2 := HX2.out.head.cellv 2 rfl
  have df := HX2.out.head.frozen 2
  have Hf4 := Lib.hid hf4
  clear e0 e1 e2 hf4
  go_wp2
  go_ret2
  have hbl : (splice buf 4096 []).take 4096 = buf := by
    have h1 : buf.length = 4096 := H.out.len
    simp [splice, List.take_of_length_le, h1]
  have HX3 := HX2.out
  rw [hbl] at HX3
  refine ⟨rfl, v', _, HX3.setN 2 (by omega) _ rfl, ?_, (HAA.out.trans (Adv.ofDrewN (Adv.copied Hf4.out))).setCell (a := ⟨BW, 2, none⟩) (.inl rfl) _⟩
  have := splice_take (splice buf 4096 []) [p0, p1] 0 (by rw [HB2.out.len]; simp)
  simpa using this
set_option maxHeartbeats 1000000 in
theorem write_split1 {w : World} {BW BF WW : Nat} {v : Value} {xs buf : List Int} {PB off : Nat} {p0 p1 : Int} (h : BufW w BW BF WW v xs buf 4095) (hs : Src w BW BF WW v PB off [p0, p1])
    (hsm : xs.length + 4096 ≤ BIG) :
    Calls Tryd.prog 99 #[.pointer (some ⟨BW, 0, none⟩), .slice (some ⟨PB, off, none⟩) 2 16] w fun e w' => e = .returned (.tuple #[.int .i64 2, .nilIface]) ∧
      ∃ v' buf', BufW w' BW BF WW v' (xs ++ (buf.take 4095 ++ [p0])) buf' 1 ∧ buf'.take 1 = [p1] ∧ Adv BW BF WW v v' w w' := by
  have c0 := h.head.cellv 0 rfl
  have c1 := h.head.cellv 1 rfl
  have c2 := h.head.cellv 2 rfl
  have H := Lib.hid h
  have HS := Lib.hid hs
  have Hsm := Lib.hid hsm
  have HFIT : Hid (4095 + ([p0].map B8).length ≤ (buf.map B8).length) := by unfold Hid; simp [h.len]
  have HSRC0 : Hid (∀ k j u, ([p0].map B8)[j]? = some u → (w.drewN k).cell? ((⟨PB, off, none⟩ : Addr).add j) = some u) := fun k => cellsAt1 (w := w.drewN k) (hs.cell 0 (by simp))
  clear h hs hsm
  go_enter Tryd.func99, Tryd.ntmps99
  go_wp2
  refine wp_loop_rounds 2 ?_
  rw [rounds_succ]
  go_wp2_with (first | (go_at_call 97; refine (avail_any H.out).mono ?_; rintro e w1 ⟨rfl, k, rfl⟩) | (go_at_call 101; refine (buffered_any (w := w.drewN k) (H.out.heap rfl)).mono ?_; rintro e w1 ⟨rfl, rfl⟩))
  go_region_held3 (fun w' => w'.cell? ⟨BW, 1, none⟩ = some (.slice (some ⟨BF, 0, none⟩) 4096 4096) ∧ w'.cell? ⟨BW, 2, none⟩ = some (.int .i64 4095)) (first | exact ⟨c1, c2⟩ | exact ⟨HW2.out.head.cellv 1 rfl, HW2.out.head.cellv 2 rfl⟩ | go_keep)
    (first | (refine step_copy_blk (w := w.drewN (k + 1)) rfl (.tmp 43) (.tmp 44) 25 25 rfl 5 und25 size5 (some ⟨BF, 4095, none⟩) (some ⟨PB, off, none⟩) 1 1 2 16 (by simp [Act.eval, Act.put]) (by simp [Act.eval, Act.put]) BF 4095 (buf.map B8) 5 (H.out.body.of_heap rfl) ([p0].map B8) rfl (fun _ => ⟨rfl, _, rfl, HSRC0.out _⟩) HFIT.out (ints_oneCell .u8 [p0]) ?_; intro w2 hb2 hf2; have HW := BufW.copied (H.out.heap (w2 := w.drewN (k + 1)) rfl) hb2.out hf2.out (by simp); have HW2 := Lib.hid HW; clear HW hb2))
  have d0 := HW2.out.head.cellv 0 rfl
  have d2 := HW2.out.head.cellv 2 rfl
  have df := HW2.out.head.frozen 2
  clear c0 c1 c2
  have Hf := Lib.hid hf2
  clear hf2
  have HW3 := Lib.hid (HW2.out.setN 4096 (by omega) (.int .i64 4096) (by simp))
  go_wp2_with (first | (go_at_call 98; refine (flush_any (w := w2.setCell ⟨BW, 2, none⟩ (.int .i64 4096)) HW3.out Hsm.out).mono ?_; rintro e w3 ⟨rfl, v', HB, HA⟩; have HB2 := Lib.hid HB; have HA2 := Lib.hid HA; clear HB HA))
  have HAA := Lib.hid (((Adv.ofDrewN (Adv.copied Hf.out)).setCell (a := ⟨BW, 2, none⟩) (.inl rfl) (.int .i64 4096)).trans HA2.out)
  have HS3 := Lib.hid (HS.out.adv HAA.out)
  have e0 := HB2.out.head.cellv 0 rfl
  have e1 := HB2.out.head.cellv 1 rfl
  have e2 := HB2.out.head.cellv 2 rfl
  have HFIT2 : Hid (0 + ([p1].map B8).length ≤ ((splice buf 4095 [p0]).map B8).length) := by unfold Hid; rw [List.length_map, List.length_map, HB2.out.len]; simp
  have HSRC : Hid (∀ k j u, ([p1].map B8)[j]? = some u → (w3.drewN k).cell? ((⟨PB, off + 1, none⟩ : Addr).add j) = some u) := fun k => cellsAt1 (w := w3.drewN k) (HS3.out.cell 1 (by simp))
  clear d0 d2 df
  rw [rounds_succ]
  go_wp2_with (first | (go_at_call 97; refine (avail_any HB2.out).mono ?_; rintro e w1 ⟨rfl, k2, rfl⟩))
  go_region_held3 (fun w' => w'.cell? ⟨BW, 1, none⟩ = some (.slice (some ⟨BF, 0, none⟩) 4096 4096) ∧ w'.cell? ⟨BW, 2, none⟩ = some (.int .i64 0)) (first | exact ⟨e1, e2⟩ | exact ⟨HX2.out.head.cellv 1 rfl, HX2.out.head.cellv 2 rfl⟩ | go_keep)
    (first | (refine step_copy_blk (w := w3.drewN (k2 + 1)) rfl (.tmp 80) (.tmp 81) 25 25 rfl 5 und25 size5 (some ⟨BF, 0, none⟩) (some ⟨PB, off + 1, none⟩) 4096 4096 1 15 (by simp [Act.eval, Act.put]) (by simp [Act.eval, Act.put]) BF 0 ((splice buf 4095 [p0]).map B8) 5 (HB2.out.body.of_heap rfl) ([p1].map B8) rfl (fun _ => ⟨rfl, _, rfl, HSRC.out _⟩) HFIT2.out (ints_oneCell .u8 [p1]) ?_; intro w4 hb4 hf4; have HX := BufW.copied (HB2.out.heap (w2 := w3.drewN (k2 + 1)) rfl) hb4.out hf4.out (by simp); have HX2 := Lib.hid HX; clear HX hb4))
  have d0 := HX2.out.head.cellv 0 rfl
  have d2 := HX2.out.head.cellv 2 rfl
  have df := HX2.out.head.frozen 2
  have Hf4 := Lib.hid hf4
  clear e0 e1 e2 hf4
  go_wp2
  go_ret2
  have hbl : (splice buf 4095 [p0]).take 4096 = buf.take 4095 ++ [p0] := by
    have := splice_take buf [p0] 4095 (by rw [H.out.len]; simp)
    simpa using this
  have HX3 := HX2.out
  rw [hbl] at HX3
  refine ⟨rfl, v', _, HX3.setN 1 (by omega) _ rfl, ?_, (HAA.out.trans (Adv.ofDrewN (Adv.copied Hf4.out))).setCell (a := ⟨BW, 2, none⟩) (.inl rfl) _⟩
  have := splice_take (splice buf 4095 [p0]) [p1] 0 (by rw [HB2.out.len]; simp)
  simpa using this

/-- Write: m bytes more, where they fit into the buffer as long as nothing has been flushed, or where they are two. -/
theorem wwrite {w : World} {BW BF WW : Nat} {v : Value} {c : List Int} {PB off cap : Nat} {p : List Int} (h : Took w BW BF WW v c) (hs : Src w BW BF WW v PB off p)
    (m : Nat) (hpm : p.length = m) (hm : 0 < m) (hc : c.length + m ≤ 4096 ∨ (m = 2 ∧ cap = 16)) (hsm : c.length < BIG) :
    Calls Tryd.prog 99 #[.pointer (some ⟨BW, 0, none⟩), .slice (some ⟨PB, off, none⟩) m cap] w fun e w' => e = .returned (.tuple #[.int .i64 m, .nilIface]) ∧
      ∃ v', Took w' BW BF WW v' (c ++ p) ∧ Adv BW BF WW v v' w w' := by
  obtain ⟨xs, buf, n, h, rfl, hx⟩ := h
  rw [Took.len h] at hsm hc
  by_cases hn : n + m ≤ 4096
  · refine (write_room h hs m hpm hm hn).mono ?_
    rintro e w' ⟨rfl, h1, h2⟩
    refine ⟨rfl, v, ⟨xs, _, n + m, h1, ?_, hx⟩, h2⟩
    subst hpm
    rw [splice_take _ _ _ (by rw [h.len]; exact hn), List.append_assoc]
  · obtain ⟨rfl, rfl⟩ : m = 2 ∧ cap = 16 := by
      rcases hc with hc | hc
      · omega
      · exact hc
    obtain ⟨p0, p1, rfl⟩ : ∃ p0 p1, p = [p0, p1] := by
      match p, hpm with
      | [a, b], _ => exact ⟨a, b, rfl⟩
    have hf := h.fill
    have hbl := h.len
    by_cases h4 : n = 4096
    · subst h4
      refine (write_split0 h hs (by omega)).mono ?_
      rintro e w' ⟨rfl, v', b', h1, h2, h3⟩
      refine ⟨rfl, v', ⟨_, _, 2, h1, ?_, .inr (by rw [List.length_append, hbl]; omega)⟩, h3⟩
      rw [h2, List.take_of_length_le (by rw [hbl]; omega)]
    · obtain rfl : n = 4095 := by omega
      refine (write_split1 h hs (by omega)).mono ?_
      rintro e w' ⟨rfl, v', b', h1, h2, h3⟩
      refine ⟨rfl, v', ⟨_, _, 1, h1, ?_, .inr (by simp [hbl])⟩, h3⟩
      rw [h2]; simp

end Go.Proofs.YtpophkigihfjoaaDoor
