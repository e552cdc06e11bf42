/- The walk of the encoder's frame header. -/
import Derived.Test.YtpophkigihfjoaaDoorHead
namespace Go.Proofs.YtpophkigihfjoaaDoor
open Go.RowKit
set_option maxRecDepth 100000

theorem and255 (n : Nat) (h : n < 256) : bits BinOp.and IntKind.i64 (n : Int) 255 = n := by
  have : ∀ m : Fin 256, bits BinOp.and IntKind.i64 ((m.val : Nat) : Int) 255 = (m.val : Nat) := by decide +kernel
  exact this ⟨n, h⟩

/-- One scratch byte more. -/
theorem EncW.put {w : World} {I : Ids} {v : Value} {c : List Int} {A nb : Nat} {sc q p : List Int} {k : Nat} (h : EncW w I v c A nb (p ++ sc.drop k) q) (hk : p.length = k) (hk16 : k < 16) (a : Nat) (ha : a = 2 + k) (b : Int) (hs : sc.length = 16) : EncW (w.setCell ⟨I.E, a, none⟩ (.int .u8 b)) I v c A nb ((p ++ [b]) ++ sc.drop (k + 1)) q := by
  have := h.setBuf' k a hk16 ha b
  have e : (p ++ sc.drop k).set k b = (p ++ [b]) ++ sc.drop (k + 1) := by
    rw [List.set_append_right _ _ (by omega), hk, Nat.sub_self, List.append_assoc]
    congr 1
    rw [List.drop_eq_getElem_cons (by omega)]
    rfl
  rwa [e] at this

theorem EncW.srcP {w : World} {I : Ids} {v : Value} {c : List Int} {A nb : Nat} {sc q p : List Int} {k : Nat} (h : EncW w I v c A nb (p ++ sc.drop k) q) (hp : p.length ≤ 16) : Src w I.BW I.BF I.WW v I.E 2 p :=
  h.src hp fun j hj => by simp [List.getD_eq_getElem?_getD, List.getElem?_append_left hj]

set_option maxHeartbeats 2000000 in
theorem sof {w : World} {I : Ids} {v : Value} {c : List Int} {A nb : Nat} {sc q : List Int} (h : EncW w I v c A nb sc q) (W H : Nat) (hW : W < 256) (hH : H < 256) (hlen : c.length + 19 ≤ 4096) :
    Calls Tryd.prog 27 #[.pointer (some ⟨I.E, 0, none⟩), .agg #[.int .i64 W, .int .i64 H], .int .i64 3] w fun e w' => e = .returned (.tuple #[]) ∧
      ∃ v' sc', EncW w' I v' (c ++ [255, 192, 0, 17] ++ [8, 0, (H : Int), 0, (W : Int), 3, 1, 34, 0, 2, 17, 1, 3, 17, 1]) A nb sc' q ∧ AdvE I v v' w w' := by
  have HE := hu h
  have HLEN := hu hlen
  have aW := and255 W hW
  have aH := and255 H hH
  have PN := hu (Blk.newA w #[.int .i64 W, .int .i64 H] 44)
  have ELT := h.blk.lt
  clear h hlen
  go_enter Tryd.func27, Tryd.ntmps27
  go_wp2_with fail
  have HA0 := hu ((HE.out ()).frame ((Fr.refl (fun _ => False) w).alloc (.cells #[.int .i64 W, .int .i64 H] 44)) (fun _ _ e => e))
  refine (marker (HA0.out ()) 192 17 (by omega) (by omega) (by omega) (by omega) (by decide +kernel) (by have := HLEN.out (); omega)).mono ?_
  rintro e w1 ⟨rfl, v1, sc1, h1, a1⟩
  have PP := hu (a1.blk (PN.out ()) ⟨by rw [World.size_alloc]; omega, fun e => by have := (HE.out ()).outlt _ e; omega⟩)
  have pc0 : w1.cell? ⟨w.heap.size, 0, none⟩ = some (.int .i64 W) := (PP.out ()).cellv 0 rfl
  have pc1 : w1.cell? ⟨w.heap.size, 1, none⟩ = some (.int .i64 H) := (PP.out ()).cellv 1 rfl
  have pne : w.heap.size ≠ I.E := by omega
  have pne' : I.E ≠ w.heap.size := by omega
  have b0 := h1.cbuf' 0 2 (by omega) rfl
  have b1 := h1.cbuf' 1 3 (by omega) rfl
  have b2 := h1.cbuf' 2 4 (by omega) rfl
  have b3 := h1.cbuf' 3 5 (by omega) rfl
  have b4 := h1.cbuf' 4 6 (by omega) rfl
  have b5 := h1.cbuf' 5 7 (by omega) rfl
  have b6 := h1.cbuf' 6 8 (by omega) rfl
  have b7 := h1.cbuf' 7 9 (by omega) rfl
  have b8 := h1.cbuf' 8 10 (by omega) rfl
  have b9 := h1.cbuf' 9 11 (by omega) rfl
  have b10 := h1.cbuf' 10 12 (by omega) rfl
  have b11 := h1.cbuf' 11 13 (by omega) rfl
  have b12 := h1.cbuf' 12 14 (by omega) rfl
  have b13 := h1.cbuf' 13 15 (by omega) rfl
  have b14 := h1.cbuf' 14 16 (by omega) rfl
  have fz := fun i => h1.fz i
  have H1 := hu h1
  have A1 := hu a1
  clear h1 a1
  go_wp2
  go_region
  go_wp2
  iterate 3 (go_region; go_wp2)
  refine wp_loop_rounds 4 ?_
  rw [rounds_succ]
  go_wp2
  iterate 2 (go_region; go_wp2)
  iterate 2 (rw [rounds_succ]; go_wp2; go_region; go_wp2; go_region; go_wp2)
  rw [rounds_succ]
  go_wp2_with fail
  have hl : sc1.length = 16 := (H1.out ()).sl
  have hT := ((((((((((((((((show EncW w1 I v1 (c ++ [255, 192, 0, 17]) A nb ([] ++ sc1.drop 0) q from H1.out ()).put (k := 0) rfl (by omega) 2 rfl 8 hl).put (k := 1) rfl (by omega) 3 rfl ((H : Int) / 256) hl).put (k := 2) rfl (by omega) 4 rfl (H : Int) hl).put (k := 3) rfl (by omega) 5 rfl ((W : Int) / 256) hl).put (k := 4) rfl (by omega) 6 rfl (W : Int) hl).put (k := 5) rfl (by omega) 7 rfl 3 hl).put (k := 6) rfl (by omega) 8 rfl 1 hl).put (k := 7) rfl (by omega) 9 rfl 34 hl).put (k := 8) rfl (by omega) 10 rfl 0 hl).put (k := 9) rfl (by omega) 11 rfl 2 hl).put (k := 10) rfl (by omega) 12 rfl 17 hl).put (k := 11) rfl (by omega) 13 rfl 1 hl).put (k := 12) rfl (by omega) 14 rfl 3 hl).put (k := 13) rfl (by omega) 15 rfl 17 hl).put (k := 14) rfl (by omega) 16 rfl 1 hl)
  have hT2 := hT.frame (((((((((((Fr.refl (fun _ => False) _).drew).drew).drew).drew).drew).drew).drew).drew).drew).drew) (fun _ _ e => e)
  have e1 : (H : Int) / 256 = 0 := by omega
  have e2 : (W : Int) / 256 = 0 := by omega
  have aT := (((((((((((((((((((((((((A1.out ()).setCell (a := ⟨I.E, 2, none⟩) rfl (.int .u8 8)).setCell (a := ⟨I.E, 3, none⟩) rfl (.int .u8 ((H : Int) / 256))).setCell (a := ⟨I.E, 4, none⟩) rfl (.int .u8 (H : Int))).setCell (a := ⟨I.E, 5, none⟩) rfl (.int .u8 ((W : Int) / 256))).setCell (a := ⟨I.E, 6, none⟩) rfl (.int .u8 (W : Int))).setCell (a := ⟨I.E, 7, none⟩) rfl (.int .u8 3)).setCell (a := ⟨I.E, 8, none⟩) rfl (.int .u8 1)).setCell (a := ⟨I.E, 9, none⟩) rfl (.int .u8 34)).setCell (a := ⟨I.E, 10, none⟩) rfl (.int .u8 0)).setCell (a := ⟨I.E, 11, none⟩) rfl (.int .u8 2)).setCell (a := ⟨I.E, 12, none⟩) rfl (.int .u8 17)).setCell (a := ⟨I.E, 13, none⟩) rfl (.int .u8 1)).setCell (a := ⟨I.E, 14, none⟩) rfl (.int .u8 3)).setCell (a := ⟨I.E, 15, none⟩) rfl (.int .u8 17)).setCell (a := ⟨I.E, 16, none⟩) rfl (.int .u8 1)).drew).drew).drew).drew).drew).drew).drew).drew).drew).drew
  clear hT
  have HT := hu hT2
  have AT := hu aT
  clear hT2 aT pc0 pc1 b0 b1 b2 b3 b4 b5 b6 b7 b8 b9 b10 b11 b12 b13 b14 fz
  refine (ewrite (HT.out ()) ((HT.out ()).srcP (by simp)) 15 rfl (by omega) (.inl (by have := HLEN.out (); simp; omega)) (by have := HLEN.out (); simp; unfold BIG; omega)).mono ?_
  rintro e w2 ⟨rfl, v2, h2, a2⟩
  have H2 := hu h2
  have A2 := hu a2
  clear h2 a2
  go_wp2
  go_end0
  have hR := H2.out ()
  simp only [List.nil_append, List.cons_append, e1, e2] at hR
  exact ⟨rfl, v2, _, hR, (((AdvE.refl I v w).alloc _).trans (AT.out ())).trans (A2.out ())⟩
end Go.Proofs.YtpophkigihfjoaaDoor
