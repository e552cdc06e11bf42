/- The encoder in memory (EncW), and the walks of its writeByte, write and flush. -/
import Derived.Test.YtpophkigihfjoaaDoorBufC
namespace Go.Proofs.YtpophkigihfjoaaDoor
open Go.RowKit
set_option maxRecDepth 100000

/-- The blocks of an encoder: its own, those of its buffered writer and sink, and those of its four look-up tables. -/
structure Ids where
  E : Nat
  BW : Nat
  BF : Nat
  WW : Nat
  L0 : Nat
  L1 : Nat
  L2 : Nat
  L3 : Nat

abbrev W32 (n : Nat) : Value := .int .u32 n

/-- What the encoder's block holds: the writer, no error, the scratch bytes, the waiting bits (A, of nb bits, from the top), the tables. -/
def encCells (I : Ids) (A nb : Nat) (sc q : List Int) : List Value :=
  [.iface 101 (.pointer (some ⟨I.BW, 0, none⟩)), .nilIface] ++ (sc.map B8 ++ ([W32 (A * 2 ^ (32 - nb)), W32 nb] ++ (q.map B8 ++
    [.slice (some ⟨I.L0, 0, none⟩) 12 12, .slice (some ⟨I.L1, 0, none⟩) 251 251, .slice (some ⟨I.L2, 0, none⟩) 12 12, .slice (some ⟨I.L3, 0, none⟩) 251 251])))

/-- The encoder's blocks (v: the slice of its sink). -/
def OutE (I : Ids) (v : Value) (k : Nat) : Prop := k = I.E ∨ Out I.BW I.BF I.WW v k

structure AdvE (I : Ids) (v v' : Value) (w w' : World) : Prop where
  fr : Fr (OutE I v) w w'
  mv : Moved w v v'

theorem AdvE.refl (I : Ids) (v : Value) (w : World) : AdvE I v v w w := ⟨Fr.refl _ _, .inl rfl⟩

theorem AdvE.trans {I : Ids} {v v1 v2 : Value} {w w1 w2 : World} (h1 : AdvE I v v1 w w1) (h2 : AdvE I v1 v2 w1 w2) : AdvE I v v2 w w2 := by
  refine ⟨h1.fr.trans h2.fr ?_, ?_⟩
  · rintro k hk (h | h | h | h | h)
    · exact .inl h
    · exact .inr (.inl h)
    · exact .inr (.inr (.inl h))
    · exact .inr (.inr (.inr (.inl h)))
    · rcases h1.mv with e | e
      · exact .inr (.inr (.inr (.inr (e ▸ h))))
      · have := e k h; omega
  · rcases h2.mv with e | e
    · rcases h1.mv with e' | e'
      · exact .inl (e.trans e')
      · exact .inr fun k hk => e' k (e ▸ hk)
    · exact .inr fun k hk => Nat.le_trans h1.fr.size (e k hk)

theorem AdvE.ofAdv {I : Ids} {v v' : Value} {w w' : World} (h : Adv I.BW I.BF I.WW v v' w w') : AdvE I v v' w w' := ⟨h.fr.mono (fun _ _ e => .inr e), h.mv⟩

theorem AdvE.setCell {I : Ids} {v v' : Value} {w w' : World} (h : AdvE I v v' w w') {a : Addr} (ha : a.block = I.E) (u : Value) : AdvE I v v' w (w'.setCell a u) :=
  ⟨h.fr.setCell (fun _ => .inl ha) u, h.mv⟩

theorem AdvE.drewN {I : Ids} {v v' : Value} {w w' : World} (h : AdvE I v v' w w') (n : Nat) : AdvE I v v' w (w'.drewN n) := ⟨h.fr.drewN n, h.mv⟩
theorem AdvE.drew {I : Ids} {v v' : Value} {w w' : World} (h : AdvE I v v' w w') : AdvE I v v' w w'.drew := ⟨h.fr.drew, h.mv⟩
theorem AdvE.ofDrewN {I : Ids} {v v' : Value} {w w' : World} {n : Nat} (h : AdvE I v v' (w.drewN n) w') : AdvE I v v' w w' := ⟨h.fr.from rfl rfl rfl rfl, h.mv⟩
theorem AdvE.ofDrew {I : Ids} {v v' : Value} {w w' : World} (h : AdvE I v v' w.drew w') : AdvE I v v' w w' := ⟨h.fr.from rfl rfl rfl rfl, h.mv⟩
theorem AdvE.alloc {I : Ids} {v v' : Value} {w w' : World} (h : AdvE I v v' w w') (o : Obj) : AdvE I v v' w (w'.alloc o) := ⟨h.fr.alloc o, h.mv⟩

/-- A block that is none of the encoder's: it stays as it was. -/
structure Apart (w : World) (I : Ids) (v : Value) (b : Nat) : Prop where
  lt : b < w.heap.size
  out : ¬ OutE I v b

theorem Apart.adv {w w' : World} {I : Ids} {v v' : Value} {b : Nat} (h : Apart w I v b) (ha : AdvE I v v' w w') : Apart w' I v' b := by
  refine ⟨Nat.lt_of_lt_of_le h.lt ha.fr.size, ?_⟩
  rintro (e | e | e | e | e)
  · exact h.out (.inl e)
  · exact h.out (.inr (.inl e))
  · exact h.out (.inr (.inr (.inl e)))
  · exact h.out (.inr (.inr (.inr (.inl e))))
  · exact ha.mv.ne h.lt (fun e' => h.out (.inr (.inr (.inr (.inr e'))))) e

theorem AdvE.heap {w w' : World} {I : Ids} {v v' : Value} {b : Nat} (ha : AdvE I v v' w w') (h : Apart w I v b) : w'.heap[b]? = w.heap[b]? := ha.fr.block b h.lt h.out

theorem AdvE.blk {w w' : World} {I : Ids} {v v' : Value} {b : Nat} {cs : List Value} {t : TypeId} (ha : AdvE I v v' w w') (hb : Blk w b cs t) (h : Apart w I v b) : Blk w' b cs t :=
  hb.of_heap (ha.heap h)

theorem AdvE.cell {w w' : World} {I : Ids} {v v' : Value} {b : Nat} (ha : AdvE I v v' w w') (h : Apart w I v b) (i : Nat) : w'.cell? ⟨b, i, none⟩ = w.cell? ⟨b, i, none⟩ :=
  World.cell?_of_block (a := ⟨b, i, none⟩) (ha.heap h)

/-- The four look-up tables (their contents: l0 .. l3). -/
structure LutW (w : World) (I : Ids) (v : Value) (l0 l1 : List Nat) (l2 l3 : List Nat) : Prop where
  b0 : Blk w I.L0 (l0.map W32) 91
  b1 : Blk w I.L1 (l1.map W32) 91
  b2 : Blk w I.L2 (l2.map W32) 91
  b3 : Blk w I.L3 (l3.map W32) 91
  a0 : Apart w I v I.L0
  a1 : Apart w I v I.L1
  a2 : Apart w I v I.L2
  a3 : Apart w I v I.L3

theorem LutW.adv {w w' : World} {I : Ids} {v v' : Value} {l0 l1 l2 l3 : List Nat} (h : LutW w I v l0 l1 l2 l3) (ha : AdvE I v v' w w') : LutW w' I v' l0 l1 l2 l3 :=
  ⟨ha.blk h.b0 h.a0, ha.blk h.b1 h.a1, ha.blk h.b2 h.a2, ha.blk h.b3 h.a3, h.a0.adv ha, h.a1.adv ha, h.a2.adv ha, h.a3.adv ha⟩

/-- The encoder: c has been written in all, A (nb bits) waits; scratch sc; quantization tables q. -/
structure EncW (w : World) (I : Ids) (v : Value) (c : List Int) (A nb : Nat) (sc q : List Int) : Prop where
  blk : Blk w I.E (encCells I A nb sc q) 98
  sl : sc.length = 16
  ql : q.length = 128
  took : Took w I.BW I.BF I.WW v c
  ap : ¬ Out I.BW I.BF I.WW v I.E

section
variable {w : World} {I : Ids} {v : Value} {c : List Int} {A nb : Nat} {sc q : List Int}

theorem EncW.c0 (h : EncW w I v c A nb sc q) : w.cell? ⟨I.E, 0, none⟩ = some (.iface 101 (.pointer (some ⟨I.BW, 0, none⟩))) := h.blk.cellv 0 rfl
theorem EncW.c1 (h : EncW w I v c A nb sc q) : w.cell? ⟨I.E, 1, none⟩ = some .nilIface := h.blk.cellv 1 rfl
theorem EncW.fz (h : EncW w I v c A nb sc q) (i : Nat) : w.frozen? ⟨I.E, i, none⟩ = false := h.blk.frozen i
theorem EncW.cbuf (h : EncW w I v c A nb sc q) (i : Nat) (hi : i < 16) : w.cell? ⟨I.E, 2 + i, none⟩ = some (B8 (sc.getD i 0)) := by
  refine h.blk.cellv _ ?_
  have hs := h.sl
  unfold encCells
  rw [List.getElem?_append_right (by simp), List.getElem?_append_left (by simp; omega)]
  simp only [List.length_cons, List.length_nil, Nat.zero_add, Nat.reduceAdd, Nat.add_sub_cancel_left, List.getElem?_map, List.getD_eq_getElem?_getD]
  rw [List.getElem?_eq_getElem (by omega)]; rfl
theorem EncW.c18 (h : EncW w I v c A nb sc q) : w.cell? ⟨I.E, 18, none⟩ = some (W32 (A * 2 ^ (32 - nb))) := by
  refine h.blk.cellv _ ?_
  have hs := h.sl
  unfold encCells
  rw [List.getElem?_append_right (by simp), List.getElem?_append_right (by simp; omega), List.getElem?_append_left (by simp [hs])]
  simp [hs]
theorem EncW.c19 (h : EncW w I v c A nb sc q) : w.cell? ⟨I.E, 19, none⟩ = some (W32 nb) := by
  refine h.blk.cellv _ ?_
  have hs := h.sl
  unfold encCells
  rw [List.getElem?_append_right (by simp), List.getElem?_append_right (by simp; omega), List.getElem?_append_left (by simp [hs])]
  simp [hs]
theorem EncW.cq (h : EncW w I v c A nb sc q) (i : Nat) (hi : i < 128) : w.cell? ⟨I.E, 20 + i, none⟩ = some (B8 (q.getD i 0)) := by
  refine h.blk.cellv _ ?_
  have hs := h.sl
  have hq := h.ql
  unfold encCells
  rw [List.getElem?_append_right (by simp; omega), List.getElem?_append_right (by simp; omega), List.getElem?_append_right (by simp [hs]; omega), List.getElem?_append_left (by simp [hs, hq]; omega)]
  simp only [List.length_cons, List.length_nil, List.length_map, hs, List.getElem?_map, List.getD_eq_getElem?_getD]
  rw [show 20 + i - (0 + 1 + 1) - 16 - (0 + 1 + 1) = i from by omega, List.getElem?_eq_getElem (by omega)]; rfl
theorem EncW.clut (h : EncW w I v c A nb sc q) (i : Nat) (hi : i < 4) : w.cell? ⟨I.E, 148 + i, none⟩ =
    some (([.slice (some ⟨I.L0, 0, none⟩) 12 12, .slice (some ⟨I.L1, 0, none⟩) 251 251, .slice (some ⟨I.L2, 0, none⟩) 12 12, .slice (some ⟨I.L3, 0, none⟩) 251 251] : List Value).getD i .nilIface) := by
  refine h.blk.cellv _ ?_
  have hs := h.sl
  have hq := h.ql
  unfold encCells
  rw [List.getElem?_append_right (by simp; omega), List.getElem?_append_right (by simp; omega), List.getElem?_append_right (by simp [hs]; omega), List.getElem?_append_right (by simp [hs, hq]; omega)]
  simp only [List.length_cons, List.length_nil, List.length_map, hs, hq]
  rw [show 148 + i - (0 + 1 + 1) - 16 - (0 + 1 + 1) - 128 = i from by omega, List.getD_eq_getElem?_getD, List.getElem?_eq_getElem (by simpa using hi)]; rfl

/-- Where the writer behind has gone on, the encoder stands as it stood. -/
theorem EncW.adv {w' : World} {v' : Value} {c' : List Int} (h : EncW w I v c A nb sc q) (ht : Took w' I.BW I.BF I.WW v' c') (ha : Adv I.BW I.BF I.WW v v' w w') : EncW w' I v' c' A nb sc q := by
  refine ⟨ha.fr.blk h.blk h.ap, h.sl, h.ql, ht, ?_⟩
  have hlt := h.blk.lt
  rintro (e | e | e | e)
  · exact h.ap (.inl e)
  · exact h.ap (.inr (.inl e))
  · exact h.ap (.inr (.inr (.inl e)))
  · exact ha.mv.ne hlt (fun e' => h.ap (.inr (.inr (.inr e')))) e

theorem Took.setOther {BW BF WW : Nat} (h : Took w BW BF WW v c) {a : Addr} (ha : ¬ Out BW BF WW v a.block) (u : Value) : Took (w.setCell a u) BW BF WW v c := by
  obtain ⟨xs, buf, n, h, hc, hx⟩ := h
  refine ⟨xs, buf, n, ⟨h.head.setOther (fun e => ha (.inl e.symm)) u, h.body.setOther (fun e => ha (.inr (.inl e.symm))) u, h.len, h.fill, h.sink.setOther (fun e => ha (.inr (.inr (.inl e.symm)))) u, ?_, h.ne1, h.ne2, h.ne3, h.own1, h.own2, h.own3, h.small⟩, hc, hx⟩
  refine ownsRow_of_block h.row fun k hk => heap_setCell_other _ _ _ _ ?_
  rintro rfl
  exact ha (.inr (.inr (.inr hk)))

theorem Took.heap {BW BF WW : Nat} {w2 : World} (h : Took w BW BF WW v c) (hw : w2.heap = w.heap) : Took w2 BW BF WW v c := by
  obtain ⟨xs, buf, n, h, hc, hx⟩ := h
  exact ⟨xs, buf, n, h.heap hw, hc, hx⟩

theorem EncW.heap {w2 : World} (h : EncW w I v c A nb sc q) (hw : w2.heap = w.heap) : EncW w2 I v c A nb sc q :=
  ⟨h.blk.of_heap (by rw [hw]), h.sl, h.ql, h.took.heap hw, h.ap⟩

theorem EncW.set {A' nb' : Nat} {sc' q' : List Int} (h : EncW w I v c A nb sc q) (i : Nat) (u : Value) (hs : sc'.length = 16) (hq : q'.length = 128)
    (he : (encCells I A nb sc q).set i u = encCells I A' nb' sc' q') : EncW (w.setCell ⟨I.E, i, none⟩ u) I v c A' nb' sc' q' := by
  refine ⟨?_, hs, hq, h.took.setOther h.ap u, h.ap⟩
  rw [← he]
  exact h.blk.set i u

/-- The error is set to what it is. -/
theorem EncW.setErr (h : EncW w I v c A nb sc q) : EncW (w.setCell ⟨I.E, 1, none⟩ .nilIface) I v c A nb sc q := h.set 1 _ h.sl h.ql rfl

/-- A scratch byte is set. -/
theorem EncW.setBuf (h : EncW w I v c A nb sc q) (i : Nat) (hi : i < 16) (b : Int) : EncW (w.setCell ⟨I.E, 2 + i, none⟩ (B8 b)) I v c A nb (sc.set i b) q := by
  refine h.set _ _ (by rw [List.length_set]; exact h.sl) h.ql ?_
  have hs := h.sl
  unfold encCells
  rw [List.set_append, if_neg (by simp), List.set_append, if_pos (by simp; omega)]
  simp [← List.map_set]

theorem bits_set (I : Ids) (A nb A' nb' : Nat) (sc q : List Int) (hs : sc.length = 16) :
    ((encCells I A nb sc q).set 18 (W32 (A' * 2 ^ (32 - nb')))).set 19 (W32 nb') = encCells I A' nb' sc q := by
  unfold encCells
  rw [List.set_append, if_neg (by simp), List.set_append, if_neg (by simp; try omega), List.set_append, if_neg (by simp; try omega), List.set_append, if_neg (by simp; try omega)]
  simp [hs]

/-- The waiting bits are set. -/
theorem EncW.setBits (h : EncW w I v c A nb sc q) (A' nb' : Nat) (x y : Value) (hx : x = W32 (A' * 2 ^ (32 - nb'))) (hy : y = W32 nb') :
    EncW ((w.setCell ⟨I.E, 18, none⟩ x).setCell ⟨I.E, 19, none⟩ y) I v c A' nb' sc q := by
  subst hx hy
  refine ⟨?_, h.sl, h.ql, (h.took.setOther (a := ⟨I.E, 18, none⟩) h.ap _).setOther (a := ⟨I.E, 19, none⟩) h.ap _, h.ap⟩
  rw [← bits_set I A nb A' nb' sc q h.sl]
  exact (h.blk.set 18 _).set 19 _

/-- A quantization value is set. -/
theorem EncW.setQ (h : EncW w I v c A nb sc q) (i : Nat) (hi : i < 128) (b : Int) : EncW (w.setCell ⟨I.E, 20 + i, none⟩ (B8 b)) I v c A nb sc (q.set i b) := by
  refine h.set _ _ h.sl (by rw [List.length_set]; exact h.ql) ?_
  have hs := h.sl
  have hq := h.ql
  unfold encCells
  rw [List.set_append, if_neg (by simp; omega), List.set_append, if_neg (by simp; omega), List.set_append, if_neg (by simp [hs]; omega), List.set_append, if_pos (by simp [hs, hq]; omega)]
  simp only [List.length_cons, List.length_nil, List.length_map, hs]
  rw [show 20 + i - (0 + 1 + 1) - 16 - (0 + 1 + 1) = i from by omega, List.map_set]
end

end Go.Proofs.YtpophkigihfjoaaDoor
