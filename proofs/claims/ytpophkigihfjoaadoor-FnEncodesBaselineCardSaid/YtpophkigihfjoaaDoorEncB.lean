/- The walks of the encoder's writeByte, write, flush. -/
import Derived.Test.YtpophkigihfjoaaDoorEnc
namespace Go.Proofs.YtpophkigihfjoaaDoor
open Go.RowKit
set_option maxRecDepth 100000

theorem meth_byte (n : Nat) (hn : n = 318) (a : Addr) (w : World) : (method n 101 (.pointer (some a)) "WriteByte").run Tryd.prog w = .ok (100, .pointer (some a)) w := by subst hn; kernel_rfl

theorem meth_byte' (a : Addr) (w : World) : (method 318 101 (.pointer (some a)) "WriteByte").run Tryd.prog w = .ok (100, .pointer (some a)) w := by kernel_rfl
theorem meth_write' (a : Addr) (w : World) : (method 318 101 (.pointer (some a)) "Write").run Tryd.prog w = .ok (99, .pointer (some a)) w := by kernel_rfl
theorem meth_flush' (a : Addr) (w : World) : (method 318 101 (.pointer (some a)) "Flush").run Tryd.prog w = .ok (98, .pointer (some a)) w := by kernel_rfl

set_option maxHeartbeats 400000 in
theorem ebyte {w : World} {I : Ids} {v : Value} {c : List Int} {A nb : Nat} {sc q : List Int} (h : EncW w I v c A nb sc q) (b : Int) (hsm : c.length < BIG) :
    Calls Tryd.prog 43 #[.pointer (some ⟨I.E, 0, none⟩), B8 b] w fun e w' => e = .returned (.tuple #[]) ∧ ∃ v', EncW w' I v' (c ++ [b]) A nb sc q ∧ AdvE I v v' w w' := by
  have c0 := h.c0
  have c1 := h.c1
  have hm := meth_byte'
  have H := Lib.hid h
  have Hsm := Lib.hid hsm
  clear h hsm
  go_enter Tryd.func43, Tryd.ntmps43
  go_wp2_with (first | (go_at_call 100; refine (wbyte H.out.took b (Nat.le_of_lt Hsm.out)).mono ?_; rintro e w1 ⟨rfl, v', HT, HA⟩; have HT2 := Lib.hid HT; have HA2 := Lib.hid HA; clear HT HA; have HE := Lib.hid (H.out.adv HT2.out HA2.out); have d1 := HE.out.c1; have df := HE.out.fz 1; clear c0 c1))
  go_end0
  exact ⟨rfl, v', HE.out.setErr, (AdvE.ofAdv HA2.out).setCell (a := ⟨I.E, 1, none⟩) rfl _⟩

set_option maxHeartbeats 400000 in
theorem ewrite {w : World} {I : Ids} {v : Value} {c : List Int} {A nb : Nat} {sc q : List Int} {PB off cap : Nat} {p : List Int} (h : EncW w I v c A nb sc q) (hs : Src w I.BW I.BF I.WW v PB off p)
    (m : Nat) (hpm : p.length = m) (hm : 0 < m) (hc : c.length + m ≤ 4096 ∨ (m = 2 ∧ cap = 16)) (hsm : c.length < BIG) :
    Calls Tryd.prog 25 #[.pointer (some ⟨I.E, 0, none⟩), .slice (some ⟨PB, off, none⟩) m cap] w fun e w' => e = .returned (.tuple #[]) ∧ ∃ v', EncW w' I v' (c ++ p) A nb sc q ∧ AdvE I v v' w w' := by
  have c0 := h.c0
  have c1 := h.c1
  have hmm := meth_write'
  have H := Lib.hid h
  have Hsm := Lib.hid hsm
  have HC := Lib.hid hc
  have Hpm := Lib.hid hpm
  have Hs := Lib.hid hs
  clear h hsm hc hpm hs
  go_enter Tryd.func25, Tryd.ntmps25
  go_wp2_with (first | (go_at_call 99; refine (wwrite H.out.took Hs.out m Hpm.out hm HC.out Hsm.out).mono ?_; rintro e w1 ⟨rfl, v', HT, HA⟩; have HT2 := Lib.hid HT; have HA2 := Lib.hid HA; clear HT HA; have HE := Lib.hid (H.out.adv HT2.out HA2.out); have d1 := HE.out.c1; have df := HE.out.fz 1; clear c0 c1))
  go_end0
  exact ⟨rfl, v', HE.out.setErr, (AdvE.ofAdv HA2.out).setCell (a := ⟨I.E, 1, none⟩) rfl _⟩

set_option maxHeartbeats 400000 in
theorem eflush {w : World} {I : Ids} {v : Value} {c : List Int} {A nb : Nat} {sc q : List Int} (h : EncW w I v c A nb sc q) (hsm : c.length ≤ BIG) :
    Calls Tryd.prog 31 #[.pointer (some ⟨I.E, 0, none⟩)] w fun e w' => e = .returned (.tuple #[]) ∧
      ∃ v' buf, w'.cell? ⟨I.E, 1, none⟩ = some .nilIface ∧ BufW w' I.BW I.BF I.WW v' c buf 0 ∧ AdvE I v v' w w' := by
  obtain ⟨xs, buf, n, hB, hcc, hx⟩ := h.took
  have c0 := h.c0
  have c1 := h.c1
  have hmm := meth_flush'
  have H := Lib.hid h
  have hsm' : xs.length + n ≤ BIG := by rw [← Took.len hB, ← hcc]; exact hsm
  have Hsm := Lib.hid hsm'
  have HC := Lib.hid hcc
  have HB := Lib.hid hB
  clear h hsm hsm' hcc hx hB
  go_enter Tryd.func31, Tryd.ntmps31
  go_wp2_with (first | (go_at_call 98; refine (flush_any HB.out Hsm.out).mono ?_; rintro e w1 ⟨rfl, v', HT, HA⟩; have HT2 := Lib.hid HT; have HA2 := Lib.hid HA; clear HT HA; have HE := Lib.hid (HA2.out.fr.blk H.out.blk H.out.ap); have d1 := HE.out.cellv 1 rfl; have df := HE.out.frozen 1; clear c0 c1))
  go_end0
  have ap := H.out.ap
  refine ⟨rfl, v', buf, ?_, ?_, (AdvE.ofAdv HA2.out).setCell (a := ⟨I.E, 1, none⟩) rfl _⟩
  · exact (HE.out.set 1 _).cellv 1 rfl
  · have hB := HT2.out
    rw [← HC.out] at hB
    have hlt := H.out.blk.lt
    refine ⟨hB.head.setOther (fun e => ap (.inl e.symm)) _, hB.body.setOther (fun e => ap (.inr (.inl e.symm))) _, hB.len, hB.fill, hB.sink.setOther (fun e => ap (.inr (.inr (.inl e.symm)))) _, ?_, hB.ne1, hB.ne2, hB.ne3, hB.own1, hB.own2, hB.own3, hB.small⟩
    refine ownsRow_of_block hB.row fun k hk => heap_setCell_other _ _ _ _ ?_
    rintro rfl
    exact HA2.out.mv.ne hlt (fun e' => ap (.inr (.inr (.inr e')))) hk

end Go.Proofs.YtpophkigihfjoaaDoor
