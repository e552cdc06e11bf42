/- The walks of NewWriterSize and NewWriter. -/
import Derived.Test.YtpophkigihfjoaaDoorDht
namespace Go.Proofs.YtpophkigihfjoaaDoor
open Go.RowKit Go.Great
set_option maxRecDepth 100000

theorem mk25 (w : World) (m : Nat) (hm : m ≤ 1000000) : (Instr.makeSlice 25 (.int .i64 (m : Int)) (.int .i64 (m : Int))).run Tryd.prog w = .ok (.slice (some ⟨w.heap.size, 0, none⟩) m m) (w.alloc (.cells (Array.replicate m (B8 0)) 5)) := by
  exact made_cells (z := .int .u8 0) (b := 1) w _ m rfl (by kernel_rfl) (by kernel_rfl) (by kernel_rfl) (by kernel_rfl) rfl (by omega) (by omega)

theorem ta_wr (a : Addr) (w : World) : (Instr.typeAssert (.iface 53 (.pointer (some a))) 83 101 true).run Tryd.prog w = .ok (.tuple #[.pointer none, .bool false]) w := by kernel_rfl

/-- What NewWriter leaves: the writer's block, and its buffer's. -/
structure NewW (w : World) (a : Addr) (w' : World) : Prop where
  head : Blk w' (w.heap.size + 1) [.nilIface, .slice (some ⟨w.heap.size, 0, none⟩) 4096 4096, .int .i64 0, .iface 53 (.pointer (some a))] 162
  body : ∃ buf : List Int, buf.length = 4096 ∧ Blk w' w.heap.size (buf.map B8) 5
  fr : Fr (fun _ => False) w w'

theorem newsize (w : World) (a : Addr) : Calls Tryd.prog 41 #[.iface 53 (.pointer (some a)), .int .i64 4096] w fun e w' => e = .returned (.pointer (some ⟨w.heap.size + 1, 0, none⟩)) ∧ NewW w a w' := by
  have hta := ta_wr a
  go_enter Tryd.func41, Tryd.ntmps41
  go_upto_region 6 with (fail)
  rename_i K
  apply wp_region_lit
  refine wpList_runTo rfl (some 25) rfl (.int .i64 4096) w (by kernel_rfl) ?_
  refine wpList_runTo rfl (some 26) rfl (.slice (some ⟨w.heap.size, 0, none⟩) 4096 4096) (w.alloc (.cells (Array.replicate 4096 (B8 0)) 5)) (congrArg (fun r => r.andThen fun a w' => Result.ok (Next.value a) w') (mk25 w 4096 (by omega))) ?_
  obtain ⟨n, hn⟩ : ∃ n, n = 4096 := ⟨_, rfl⟩
  have hb : Blk (w.alloc (.cells (Array.replicate n (B8 0)) 5)) w.heap.size ((List.replicate n (0 : Int)).map B8) 5 := by
    have := Blk.newA w (Array.replicate n (B8 0)) 5
    rwa [Array.toList_replicate, ← List.map_replicate] at this
  have hf := (Fr.refl (fun _ => False) w).alloc (.cells (Array.replicate n (B8 0)) 5)
  obtain ⟨w1, hw1⟩ : ∃ z, w.alloc (.cells (Array.replicate n (B8 0)) 5) = z := ⟨_, rfl⟩
  have hs : w1.heap.size = w.heap.size + 1 := by rw [← hw1, World.size_alloc]
  rw [hw1] at hb hf
  rw [hn] at hw1
  rw [hw1]
  have hh := Blk.newA w1 #[.nilIface, .slice (some ⟨w.heap.size, 0, none⟩) 4096 4096, .int .i64 0, .iface 53 (.pointer (some a))] 162
  have hN : NewW w a (w1.alloc (.cells #[.nilIface, .slice (some ⟨w.heap.size, 0, none⟩) 4096 4096, .int .i64 0, .iface 53 (.pointer (some a))] 162)) :=
    ⟨by rw [← hs]; exact hh, ⟨List.replicate n 0, by rw [List.length_replicate, hn], hb.alloc _⟩, hf.alloc _⟩
  have HN := hu hN
  clear hw1 hb hf hh hN hn hta
  go_wp2
  go_ret
  exact ⟨rfl, HN.out ()⟩

theorem neww (w : World) (a : Addr) : Calls Tryd.prog 24 #[.iface 53 (.pointer (some a))] w fun e w' => e = .returned (.pointer (some ⟨w.heap.size + 1, 0, none⟩)) ∧ NewW w a w' := by
  have hm := newsize w a
  go_enter Tryd.func24, Tryd.ntmps24
  go_wp2_with fail
  refine hm.mono ?_
  rintro e w1 ⟨rfl, hw⟩
  have HW := hu hw
  clear hw hm
  go_wp2
  go_ret
  exact ⟨rfl, HW.out ()⟩
end Go.Proofs.YtpophkigihfjoaaDoor
