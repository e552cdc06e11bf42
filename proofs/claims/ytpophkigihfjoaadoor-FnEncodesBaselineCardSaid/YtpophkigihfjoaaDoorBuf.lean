/- Walks of bufio.Writer over impl.writer: what is written comes out, byte by byte. -/
import Derived.Test.YtpophkigihfjoaaDoorProg
import Derived.Test.YtpophkigihfjoaaDoorMem
import Derived.Deep.QuietTactic
import Derived.BigQuiet
import Derived.Lib.Hide
import Derived.Deep.RegionWith
import Derived.Deep.RegionHeld3
import Derived.StillTailTactics
namespace Go.Proofs.YtpophkigihfjoaaDoor
open Go.RowKit
set_option maxRecDepth 100000

/-- A bound on how much is written; a name, since a walk does not like large numerals. -/
def BIG : Nat := 1099511627776

/-- A byte as a value. -/
abbrev B8 (n : Int) : Value := .int .u8 n

/-- The buffered writer at BW (its buffer BF, the writer behind it WW, whose slice is v): n bytes buf of the buffer wait, xs lie in the slice. -/
structure BufW (w : World) (BW BF WW : Nat) (v : Value) (xs buf : List Int) (n : Nat) : Prop where
  head : Blk w BW [.nilIface, .slice (some ⟨BF, 0, none⟩) 4096 4096, .int .i64 n, .iface 53 (.pointer (some ⟨WW, 0, none⟩))] 162
  body : Blk w BF (buf.map B8) 5
  len : buf.length = 4096
  fill : n ≤ 4096
  sink : Blk w WW [v] 55
  row : w.ownsRow 0 5 1 v xs.length (xs.map B8)
  ne1 : BW ≠ BF
  ne2 : BW ≠ WW
  ne3 : BF ≠ WW
  own1 : v.ownBlock ≠ some BW
  own2 : v.ownBlock ≠ some BF
  own3 : v.ownBlock ≠ some WW
  small : xs.length ≤ BIG

set_option maxHeartbeats 400000 in
theorem avail_any {w : World} {BW BF WW : Nat} {v : Value} {xs buf : List Int} {n : Nat} (h : BufW w BW BF WW v xs buf n) :
    Calls Tryd.prog 97 #[.pointer (some ⟨BW, 0, none⟩)] w fun e w' => e = .returned (.int .i64 (4096 - n)) ∧ ∃ k, w' = w.drewN k := by
  have c1 := h.head.cellv 1 rfl
  have c2 := h.head.cellv 2 rfl
  have hn := h.fill
  clear h
  go_enter Tryd.func97, Tryd.ntmps97
  go_wp2
  go_quiet (fail)
  go_wp2
  go_ret
  exact ⟨rfl, _, rfl⟩

set_option maxHeartbeats 400000 in
theorem buffered_any {w : World} {BW BF WW : Nat} {v : Value} {xs buf : List Int} {n : Nat} (h : BufW w BW BF WW v xs buf n) :
    Calls Tryd.prog 101 #[.pointer (some ⟨BW, 0, none⟩)] w fun e w' => e = .returned (.int .i64 n) ∧ w = w' := by
  have c2 := h.head.cellv 2 rfl
  clear h
  go_enter Tryd.func101, Tryd.ntmps101
  go_wp2
  go_ret
  exact ⟨rfl, rfl⟩

theorem info5 : (Tryd.prog.info? 5).map (fun i => (i.zero, i.size, i.bytes)) = some (some (.int .u8 0), 1, 1) := by kernel_rfl
theorem und25 : Tryd.prog.underlying 25 = some (.slice 5) := by kernel_rfl

set_option maxHeartbeats 400000 in
theorem sink_write {w : World} {WW PB off cap : Nat} {v : Value} {xs p : List Int} (hs : Blk w WW [v] 55) (hr : w.ownsRow 0 5 1 v xs.length (xs.map B8))
    (hp : ∀ j, j < p.length → w.cell? ⟨PB, off + j, none⟩ = some (B8 (p.getD j 0))) (h1 : v.ownBlock ≠ some WW) (hsm : xs.length + p.length ≤ BIG) :
    Calls Tryd.prog 96 #[.pointer (some ⟨WW, 0, none⟩), .slice (some ⟨PB, off, none⟩) p.length cap] w fun e w' => e = .returned (.tuple #[.int .i64 p.length, .nilIface]) ∧
      ∃ v', Blk w' WW [v'] 55 ∧ w'.ownsRow 0 5 1 v' (xs ++ p).length ((xs ++ p).map B8) ∧ v'.ownBlock ≠ some WW ∧ (v'.ownBlock = v.ownBlock ∨ ∀ k, v'.ownBlock = some k → w.heap.size ≤ k) ∧
        Fr (fun k => k = WW ∨ v.ownBlock = some k) w w' := by
  have c0 := hs.cellv 0 rfl
  have f0 := hs.frozen 0
  obtain ⟨i0, hi, hz0, hz1, hz2⟩ := info_parts info5
  have hb1 : xs.length + p.length ≤ maxLen := by unfold maxLen; unfold BIG at hsm; omega
  have hb2 : (xs.length + p.length) * 1 ≤ 140737488355328 := by unfold BIG at hsm; omega
  have hb2' := Lib.hid hb2; clear hb2
  have hb1' := Lib.hid hb1; clear hb1
  have hp' : ∀ j u, (p.map B8)[j]? = some u → w.cell? ((⟨PB, off, none⟩ : Addr).add j) = some u := by
    intro j u hu
    rw [List.getElem?_map] at hu
    rcases Nat.lt_or_ge j p.length with hj | hj
    · have := hp j hj
      rw [List.getElem?_eq_getElem hj] at hu
      rw [List.getD_eq_getElem?_getD, List.getElem?_eq_getElem hj] at this
      simp only [Option.map_some, Option.some.injEq] at hu
      subst hu
      by_cases h0 : j = 0
      · subst h0; simpa [Addr.add] using this
      · simpa [Addr.add, h0] using this
    · simp [List.getElem?_eq_none hj] at hu
  clear hp
  have hone : ∀ u ∈ p.map B8, u.oneCell' = true := ints_oneCell .u8 p
  have hp2 := Lib.hid hp'; clear hp'
  have hone2 := Lib.hid hone; clear hone
  have hr2 := Lib.hid hr; clear hr
  have hs2 := Lib.hid hs; clear hs
  have h12 := Lib.hid h1; clear h1
  clear hsm
  go_enter Tryd.func96, Tryd.ntmps96
  go_wp2_with (at_builtin; refine wpList_append_moved _ rfl (.tmp 10) (.tmp 11) 25 rfl 0 5 i0 (.int .u8 0) 1 1 und25 hi hz0 hz1 hz2 rfl (by decide) _ _ _ rfl hr2.out ⟨PB, off, none⟩ p.length cap (p.map B8) rfl ?c1 hp2.out hone2.out hb1'.out hb2'.out (Nat.zero_le _) ?_)
  case c1 => simp
  intro v' w1 hown hgrow hmov
  obtain ⟨a', c', rfl⟩ := ownsRow_slice hown
  have hWW : w1.heap[WW]? = w.heap[WW]? := hgrow.block WW hs2.out.lt (fun e => h12.out e.symm)
  have hs1 : Blk w1 WW [v] 55 := hs2.out.of_heap hWW
  have c1 := hs1.cellv 0 rfl
  have f1 := hs1.frozen 0
  have hown2 := Lib.hid hown; clear hown
  have hgrow2 := Lib.hid hgrow; clear hgrow
  have hmov2 := Lib.hid hmov; clear hmov
  have hs12 := Lib.hid hs1; clear hs1 hWW
  go_wp2
  go_ret2
  have hne : (Value.slice a' (xs.length + p.length) c').ownBlock ≠ some WW := hmov2.out.ne hs2.out.lt h12.out
  refine ⟨rfl, _, hs12.out.set 0 _, ?_, hne, hmov2.out, ?_⟩
  · refine ownsRow_of_block (w := w1) (by simpa using hown2.out) fun k hk => heap_setCell_other _ _ _ _ ?_
    rintro rfl
    exact hne hk
  · refine Fr.setCell (((Fr.refl _ w).grown hgrow2.out ?_)) (fun _ => .inl rfl) _
    intro k _ hk
    exact .inr hk

set_option maxHeartbeats 400000 in
theorem flush_zero {w : World} {BW BF WW : Nat} {v : Value} {xs buf : List Int} (h : BufW w BW BF WW v xs buf 0) :
    Calls Tryd.prog 98 #[.pointer (some ⟨BW, 0, none⟩)] w fun e w' => e = .returned .nilIface ∧ w = w' := by
  have c0 := h.head.cellv 0 rfl
  have c2 := h.head.cellv 2 rfl
  clear h
  go_enter Tryd.func98, Tryd.ntmps98
  go_wp2
  go_ret
  exact ⟨rfl, rfl⟩

theorem BufW.heap {w w2 : World} {BW BF WW : Nat} {v : Value} {xs buf : List Int} {n : Nat} (h : BufW w BW BF WW v xs buf n) (hw : w2.heap = w.heap) : BufW w2 BW BF WW v xs buf n :=
  ⟨h.head.of_heap (by rw [hw]), h.body.of_heap (by rw [hw]), h.len, h.fill, h.sink.of_heap (by rw [hw]), ownsRow_of_block h.row (fun k _ => by rw [hw]), h.ne1, h.ne2, h.ne3, h.own1, h.own2, h.own3, h.small⟩

theorem meth_sink (a : Addr) (w : World) : (method 318 53 (.pointer (some a)) "Write").run Tryd.prog w = .ok (96, .pointer (some a)) w := by kernel_rfl

/-- The sink is written to out of the buffer. -/
theorem sink_from {w : World} {BW BF WW : Nat} {v : Value} {xs buf : List Int} {n : Nat} (h : BufW w BW BF WW v xs buf n) (hsm : xs.length + n ≤ BIG) (cap : Nat) (w2 : World) (hw : w2.heap = w.heap) :
    Calls Tryd.prog 96 #[.pointer (some ⟨WW, 0, none⟩), .slice (some ⟨BF, 0, none⟩) n cap] w2 fun e w' => e = .returned (.tuple #[.int .i64 n, .nilIface]) ∧
      ∃ v', BufW w' BW BF WW v' (xs ++ buf.take n) buf n ∧ Adv BW BF WW v v' w2 w' := by
  have hl : (buf.take n).length = n := by rw [List.length_take, h.len]; have := h.fill; omega
  have hs : Blk w2 WW [v] 55 := h.sink.of_heap (by rw [hw])
  have hr : w2.ownsRow 0 5 1 v xs.length (xs.map B8) := ownsRow_of_block h.row (fun k _ => by rw [hw])
  have hb : Blk w2 BF (buf.map B8) 5 := h.body.of_heap (by rw [hw])
  have hh := h.head.of_heap (w' := w2) (by rw [hw])
  have key := sink_write (w := w2) (PB := BF) (off := 0) (cap := cap) (p := buf.take n) hs hr (by
    intro j hj
    rw [hl] at hj
    rw [Nat.zero_add, hb.cell, List.getElem?_map, List.getD_eq_getElem?_getD, List.getElem?_take, if_pos hj, List.getElem?_eq_getElem (by rw [h.len]; have := h.fill; omega)]
    rfl) h.own3 (by rw [hl]; exact hsm)
  rw [hl] at key
  refine key.mono ?_
  rintro e w' ⟨rfl, v', k1, k2, k3, k4, k5⟩
  refine ⟨rfl, v', ⟨?_, ?_, h.len, h.fill, k1, k2, h.ne1, h.ne2, h.ne3, ?_, ?_, k3, ?_⟩, k5.mono ?_, k4⟩
  · exact k5.blk hh (by rintro (e | e); exact h.ne2 e; exact h.own1 e)
  · exact k5.blk hb (by rintro (e | e); exact h.ne3 e; exact h.own2 e)
  · exact Moved.ne k4 hh.lt h.own1
  · exact Moved.ne k4 hb.lt h.own2
  · rw [List.length_append, hl]; exact hsm
  · rintro k _ (e | e)
    · exact .inr (.inr (.inl e))
    · exact .inr (.inr (.inr e))

/-- The count of the waiting bytes is set. -/
theorem BufW.setN {w : World} {BW BF WW : Nat} {v : Value} {xs buf : List Int} {n : Nat} (h : BufW w BW BF WW v xs buf n) (m : Nat) (hm : m ≤ 4096) (a : Value) (ha : a = .int .i64 m) :
    BufW (w.setCell ⟨BW, 2, none⟩ a) BW BF WW v xs buf m := by
  subst ha
  refine ⟨h.head.set 2 _, h.body.setOther (Ne.symm h.ne1) _, h.len, hm, h.sink.setOther (Ne.symm h.ne2) _, ?_, h.ne1, h.ne2, h.ne3, h.own1, h.own2, h.own3, h.small⟩
  refine ownsRow_of_block h.row fun k hk => heap_setCell_other _ _ _ _ ?_
  rintro rfl
  exact h.own1 hk

end Go.Proofs.YtpophkigihfjoaaDoor
