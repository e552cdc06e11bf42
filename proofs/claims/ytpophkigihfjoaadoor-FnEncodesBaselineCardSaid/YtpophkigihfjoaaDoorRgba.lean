/- The walk of NewRGBA. -/
import Derived.Test.YtpophkigihfjoaaDoorRect
namespace Go.Proofs.YtpophkigihfjoaaDoor
open Go.RowKit Go.Great
set_option maxRecDepth 100000

/-- A fresh image: all its numbers are zero. -/
structure NewImg (w : World) (W H : Nat) (IB PX : Nat) (w' : World) : Prop where
  head : Blk w' IB [.slice (some ⟨PX, 0, none⟩) (4 * W * H) (4 * W * H), .int .i64 ((4 * W : Nat) : Int), .int .i64 0, .int .i64 0, .int .i64 W, .int .i64 H] 49
  body : Blk w' PX ((List.replicate (4 * W * H) (0 : Int)).map B8) 5
  ib : w.heap.size ≤ IB
  px : w.heap.size ≤ PX
  ne : PX < IB
  fr : Fr (fun _ => False) w w'

theorem rgba_new (w : World) (W H : Nat) (hW : W ≤ 40) (hH : H ≤ 40) : Calls Tryd.prog 9 #[.agg #[.int .i64 0, .int .i64 0, .int .i64 W, .int .i64 H]] w fun e w' => ∃ IB PX, e = .returned (.pointer (some ⟨IB, 0, none⟩)) ∧ NewImg w W H IB PX w' := by
  have hb2 : 4 * W ≤ 160 := by omega
  have hb : 4 * W * H ≤ 160 * 40 := Nat.mul_le_mul hb2 hH
  have m3 := fun w s => pixlen_any w W H s hW hH
  have hmk := fun w => mk25 w (4 * W * H) (by omega)
  obtain ⟨n, hn⟩ : ∃ n, 4 * W * H = n := ⟨_, rfl⟩
  have HN := hu hn
  rw [hn] at hb
  simp only [hn] at m3 hmk
  clear hn hb2
  go_enter Tryd.func9, Tryd.ntmps9
  go_upto_region 1 with (fail)
  have hB := Blk.newA w #[.int .i64 0, .int .i64 0, .int .i64 W, .int .i64 H] 46
  have hF := (Fr.refl (fun _ => False) w).alloc (.cells #[.int .i64 0, .int .i64 0, .int .i64 W, .int .i64 H] 46)
  obtain ⟨B, hBe⟩ : ∃ z, w.heap.size = z := ⟨_, rfl⟩
  obtain ⟨wb, hwb⟩ : ∃ z, w.alloc (.cells #[.int .i64 0, .int .i64 0, .int .i64 W, .int .i64 H] 46) = z := ⟨_, rfl⟩
  rw [hwb] at hB hF
  rw [hBe] at hB
  simp only [hwb, hBe]
  have c0 := hB.cellv 0 rfl
  have c1 := hB.cellv 1 rfl
  have c2 := hB.cellv 2 rfl
  have c3 := hB.cellv 3 rfl
  have lB := hB.lt
  have HB := hu hB
  have HF := hu hF
  clear hB hF hwb
  go_region_held3 (fun w' => w'.cell? ⟨B, 0, none⟩ = some (.int .i64 0) ∧ w'.cell? ⟨B, 1, none⟩ = some (.int .i64 0) ∧ w'.cell? ⟨B, 2, none⟩ = some (.int .i64 W) ∧ w'.cell? ⟨B, 3, none⟩ = some (.int .i64 H)) (first | exact ⟨c0, c1, c2, c3⟩ | exact ⟨d0, d1, d2, d3⟩ | go_keep)
    (first
      | (go_at_call 19; refine (m3 _ _).mono ?_; rintro e w1 ⟨rfl, f1⟩; have F1 := hu f1; have hB1 := hu (f1.blk (show Blk _ B _ _ from HB.out ()) (fun e => e)); have d0 := (hB1.out ()).cellv 0 rfl; have d1 := (hB1.out ()).cellv 1 rfl; have d2 := (hB1.out ()).cellv 2 rfl; have d3 := (hB1.out ()).cellv 3 rfl; have lB1 := (hB1.out ()).lt; clear f1)
      | (go_at_call 20; refine (dx_any _ W H (by omega) (by omega)).mono ?_; rintro e w1 ⟨rfl, rfl⟩))
  all_goals
    have hw4 : IntKind.i64.wrap (4 * (W : Int)) = 4 * (W : Int) := by rw [IntKind.wrap_i64]; omega
    have hs1 : wb.heap.size ≤ w1.heap.size := (F1.out ()).size
    have hs2 := (HF.out ()).size
    have hfr := (HF.out ()).trans (show Fr (fun _ => False) wb w1 from (F1.out ()).from rfl rfl rfl rfl) (S' := fun _ => False) (fun _ _ e => e)
  · go_wp2
    go_ret
    refine ⟨w1.heap.size + 1 + 1, w1.heap.size, rfl, ?_, ?_, by omega, by omega, by omega, ?_⟩
    · have h := Blk.newA ((w1.alloc (.cells (Array.replicate n (B8 0)) 5)).alloc (.cells #[.int .i64 0, .int .i64 0, .int .i64 W, .int .i64 H] 46)) #[.slice (some ⟨w1.heap.size, 0, none⟩) n n, .int .i64 (4 * W : Int), .int .i64 0, .int .i64 0, .int .i64 W, .int .i64 H] 49
      simp only [World.size_alloc] at h
      rw [HN.out (), hw4]
      exact h
    · rw [HN.out (), List.map_replicate]
      have h := Blk.newA w1 (Array.replicate n (B8 0)) 5
      simp only [World.size_alloc, Array.toList_replicate] at h
      exact (h.alloc _).alloc _
    · exact ((hfr.alloc _).alloc _).alloc _
  · go_wp2
    go_ret
    refine ⟨w1.heap.size + 1 + 1, (w1.heap.size + 1), rfl, ?_, ?_, by omega, by omega, by omega, ?_⟩
    · have h := Blk.newA ((w1.alloc (.cells #[.int .i64 0, .int .i64 0, .int .i64 W, .int .i64 H] 46)).alloc (.cells (Array.replicate n (B8 0)) 5)) #[.slice (some ⟨(w1.heap.size + 1), 0, none⟩) n n, .int .i64 (4 * W : Int), .int .i64 0, .int .i64 0, .int .i64 W, .int .i64 H] 49
      simp only [World.size_alloc] at h
      rw [HN.out (), hw4]
      exact h
    · rw [HN.out (), List.map_replicate]
      have h := Blk.newA (w1.alloc (.cells #[.int .i64 0, .int .i64 0, .int .i64 W, .int .i64 H] 46)) (Array.replicate n (B8 0)) 5
      simp only [World.size_alloc, Array.toList_replicate] at h
      exact h.alloc _
    · exact ((hfr.alloc _).alloc _).alloc _
end Go.Proofs.YtpophkigihfjoaaDoor
