/- The walk of pixels. -/
import Derived.Test.YtpophkigihfjoaaDoorMeas
namespace Go.Proofs.YtpophkigihfjoaaDoor
open Go.RowKit Go.Great
set_option maxRecDepth 100000

/-- The numbers that came in: a slice of L whole numbers. -/
structure NumsW (w : World) (a : Option Addr) (L : Nat) : Prop where
  cell : ∀ i, i < L → ∃ b z, a = some b ∧ w.cell? (b.add i) = some (.int .i64 z)
  blk : ∀ b, a = some b → b.block < w.heap.size ∨ L = 0
  small : L ≤ 2147483647

/-- So many bytes in a slice of the call's own. -/
def PxRel (w : World) (n : Nat) (v : Value) (wr : World) : Prop := ∃ xs : List Int, xs.length = n ∧ (∀ i, 0 ≤ xs.getD i 0 ∧ xs.getD i 0 ≤ 255) ∧ wr.ownsRow w.heap.size 5 1 v n (xs.map B8) ∧ Fr (fun _ => False) w wr

theorem mk25z (w : World) (m : Nat) (hm : m ≤ 1000000) : (Instr.makeSlice 25 (.int .i64 0) (.int .i64 (m : Int))).run Tryd.prog w = .ok (.slice (some ⟨w.heap.size, 0, none⟩) 0 m) (w.alloc (.cells (Array.replicate m (B8 0)) 5)) := by
  obtain ⟨i, hi, hz, hs, hb⟩ := info_parts info5
  have := run_make (P := Tryd.prog) w 25 5 i (.int .u8 0) und25 hi hz .i64 .i64 0 (m : Int) (by omega) (by omega) (by rw [hb]; omega) (by omega)
  rw [Int.toNat_natCast, hs, Nat.mul_one] at this
  rw [this, show (Value.int IntKind.u8 0).cells = #[.int .u8 0] from rfl, show madeCells #[.int .u8 0] m = Array.replicate m (.int .u8 0) by rw [← Array.toList_inj, toList_madeCells_one, Array.toList_replicate]]
  rfl

theorem block_add' (a : Addr) (i : Nat) : (a.add i).block = a.block := by unfold Addr.add; split <;> rfl

/-- Behind the making of the one byte to be appended. -/
theorem px_ready {w wr : World} {n : Nat} {v : Value} (h : PxRel w n v wr) (b : Value) : ∃ xs : List Int, xs.length = n ∧ (∀ i, 0 ≤ xs.getD i 0 ∧ xs.getD i 0 ≤ 255) ∧ (wr.alloc (.cells #[b] 5)).ownsRow w.heap.size 5 1 v n (xs.map B8) ∧
    Fr (fun _ => False) w (wr.alloc (.cells #[b] 5)) ∧ (∀ k, v.ownBlock = some k → w.heap.size ≤ k) ∧ w.heap.size ≤ (wr.alloc (.cells #[b] 5)).heap.size ∧
    ∀ j u, [b][j]? = some u → (wr.alloc (.cells #[b] 5)).cell? ((⟨wr.heap.size, 0, none⟩ : Addr).add j) = some u := by
  obtain ⟨xs, hx, hb, ho, hf⟩ := h
  refine ⟨xs, hx, hb, ownsRow_of_block ho (fun k hk => Below.heap_alloc _ _ _ (ho.lt k hk).2), hf.alloc _, fun k hk => (ho.lt k hk).1, (hf.alloc _).size, ?_⟩
  intro j u hu
  have hB := Blk.new wr [b] 5
  rcases j with _ | j
  · simp only [List.getElem?_cons_zero, Option.some.injEq] at hu
    subst hu
    have : (⟨wr.heap.size, 0, none⟩ : Addr).add 0 = ⟨wr.heap.size, 0, none⟩ := by simp [Addr.add]
    rw [this]
    exact hB.cellv 0 rfl
  · simp at hu

theorem px_more {w wr w1 : World} {n : Nat} {v v' : Value} {xs : List Int} (b : Int) (hb : 0 ≤ b ∧ b ≤ 255) (hx : xs.length = n) (hbs : ∀ i, 0 ≤ xs.getD i 0 ∧ xs.getD i 0 ≤ 255) (hf : Fr (fun _ => False) w wr)
    (hv : ∀ k, v.ownBlock = some k → w.heap.size ≤ k) (hown : w1.ownsRow w.heap.size 5 1 v' (n + 1) (xs.map B8 ++ [B8 b])) (hg : wr.grownBy w1 v.ownBlock) : PxRel w (n + 1) v' w1 := by
  refine ⟨xs ++ [b], by simp [hx], ?_, by simpa using hown, ?_⟩
  · intro i
    rw [List.getD_eq_getElem?_getD, List.getElem?_append]
    split
    · rw [← List.getD_eq_getElem?_getD]; exact hbs i
    · rcases h : ([b] : List Int)[i - xs.length]? with _ | z
      · simp
      · have := List.mem_of_getElem? h
        simp at this; subst this; simpa using hb
  · exact hf.grown hg (fun k hk e => by have := hv k e; omega)

set_option maxHeartbeats 2000000 in
theorem pixels_any {w : World} {a : Option Addr} {L C W H : Nat} (hn : NumsW w a L) (w1 : 1 ≤ W) (w2 : W ≤ 40) (h1 : 1 ≤ H) (h2 : H ≤ 40) :
    Calls Tryd.prog 6 #[.int .i64 W, .int .i64 H, .slice a L C] w fun e w' => ∃ v, e = .returned v ∧ PxRel w (4 * W * H) v w' := by
  have hb : W * H ≤ 40 * 40 := Nat.mul_le_mul w2 h2
  obtain ⟨N, hN⟩ : ∃ N, W * H = N := ⟨_, rfl⟩
  have e1 : (W : Int) * (H : Int) = (N : Int) := by rw [← hN]; push_cast; rfl
  have e2 : 4 * (W : Int) * (H : Int) = ((4 * N : Nat) : Int) := by rw [Int.mul_assoc, e1]; push_cast; rfl
  have e3 : 4 * W * H = 4 * N := by rw [Nat.mul_assoc, hN]
  rw [hN] at hb
  have hm := fun w => mk25z w (4 * N) (by omega)
  have p1 : 0 ≤ 4 * (W : Int) * (H : Int) := by rw [e2]; omega
  have p2 : 4 * (W : Int) * (H : Int) ≤ 6400 := by rw [e2]; omega
  have p3 : 0 ≤ (W : Int) * (H : Int) := by rw [e1]; omega
  have p4 : (W : Int) * (H : Int) ≤ 1600 := by rw [e1]; omega
  have HN := hu hn
  have HE1 := hu e1
  have HM := hu hm
  obtain ⟨i0, hi, hz0, hz1, hz2⟩ := info_parts info5
  rw [← e2] at hm
  rw [e3]
  clear e1 e2 e3 hN hn HM
  go_enter Tryd.func6, Tryd.ntmps6
  go_wp2
  rw [HE1.out ()]
  have HE2 := hu p2
  clear hm p1 p2 p3 p4 HE2
  go_loopw [19, 7, 8, 22, 9, 10] (fun i v _ _ _ _ wr => ∃ k : Nat, k ≤ N ∧ i = .int .i64 k ∧ PxRel w (4 * k) v wr) (fun i _ _ _ _ _ _ => N - (intOf i).toNat)
  case atStart => exact ⟨0, by omega, rfl, [], rfl, fun i => by simp, World.ownsRow_made w _ (4 * N) (Nat.le_refl _) (by unfold maxLen; omega) (by simp), (Fr.refl _ w).alloc _⟩
  case round =>
    obtain ⟨k, hk, rfl, hR⟩ := hrel
    have HR := hu hR
    clear hR
    by_cases hkN : k < N
    · go_wp2
      go_loopw [22, 7, 9, 10] (fun j v _ _ wr => ∃ n : Nat, n ≤ 3 ∧ j = .int .i64 n ∧ PxRel w (4 * k + n) v wr) (fun j _ _ _ _ => 3 - (intOf j).toNat)
      case atStart => exact ⟨0, by omega, rfl, HR.out ()⟩
      case round =>
        obtain ⟨n, hn, rfl, hR2⟩ := hrel
        have HR2 := hu hR2
        clear hR2
        by_cases hn3 : n < 3
        · go_upto_region 8 with (fail)
          iterate 8 go_step
          go_cut [10] (fun z wx => ∃ y : Int, z = .int .i64 y ∧ wx = wr)
          case first =>
            by_cases hL : L = 0
            · subst hL
              go_wp2
              go_meet
              exact ⟨0, rfl, rfl⟩
            · have hL1 : 0 < L := by omega
              have hLs := (HN.out ()).small
              obtain ⟨b, z, rfl, hc⟩ := (HN.out ()).cell ((k * 3 + n) % L) (Nat.mod_lt _ hL1)
              have hblk : b.block < w.heap.size := by
                rcases (HN.out ()).blk b rfl with h | h
                · exact h
                · exact absurd h hL
              have hc2 : wr.cell? (b.add ((k * 3 + n) % L)) = some (.int .i64 z) := by
                obtain ⟨_, _, _, _, hf⟩ := HR2.out ()
                rw [← hc]
                exact World.cell?_of_block (by rw [block_add']; exact hf.block b.block hblk (fun e => e))
              have r1 : 0 ≤ ((k : Int) * 3 + n) % L := Int.emod_nonneg _ (by omega)
              have r2 : ((k : Int) * 3 + n) % L < L := Int.emod_lt_of_pos _ (by omega)
              clear hL hc hblk
              go_wp2
              go_meet
              exact ⟨_, rfl, rfl⟩
          case rest =>
            obtain ⟨y, rfl, rfl⟩ := hcut
            go_step
            have hy1 : 0 ≤ y % 256 := Int.emod_nonneg _ (by omega)
            have hy2 : y % 256 ≤ 255 := by omega
            obtain ⟨xs, hx, hbs, hown, hf, hlow, hsz, hnew⟩ := px_ready (HR2.out ()) (.int .u8 (y % 256))
            have HX := hu hx
            have HBS := hu hbs
            have OX := hu hown
            have HF := hu hf
            have HLO := hu hlow
            have SX := hu hsz
            have NX := hu hnew
            have ML := hu (show 4 * k + n + 1 ≤ maxLen by unfold maxLen; omega)
            have BL := hu (show (4 * k + n + 1) * 1 ≤ 140737488355328 by omega)
            clear hx hbs hown hf hlow hsz hnew
            go_upto_region 11 with (fail)
            go_wp2_with (at_builtin; refine wpList_append_moved _ rfl (.tmp 43) (.tmp 46) 25 rfl w.heap.size 5 i0 (.int .u8 0) 1 1 und25 hi hz0 hz1 hz2 rfl (by decide) _ _ _ rfl (OX.out ()) _ 1 1 [.int .u8 (y % 256)] rfl rfl (NX.out ()) ?c1 (ML.out ()) (BL.out ()) (SX.out ()) ?_)
            case c1 => intro u hu; simp at hu; subst hu; rfl
            intro v' wz hown hgrow _
            have hR3 := px_more (y % 256) ⟨hy1, hy2⟩ (HX.out ()) (HBS.out ()) (HF.out ()) (HLO.out ()) hown hgrow
            have HR3 := hu hR3
            clear hown hgrow hR3 hy1 hy2
            go_wp2
            go_roundw
            case rel => exact ⟨n + 1, by omega, by go_num, HR3.out ()⟩
            case measure => simp [intOf]; omega
        · obtain rfl : n = 3 := by omega
          obtain ⟨xs, hx, hbs, hown, hf, hlow, hsz, hnew⟩ := px_ready (HR2.out ()) (.int .u8 255)
          have HX := hu hx
          have HBS := hu hbs
          have OX := hu hown
          have HF := hu hf
          have HLO := hu hlow
          have SX := hu hsz
          have NX := hu hnew
          have ML := hu (show 4 * k + 3 + 1 ≤ maxLen by unfold maxLen; omega)
          have BL := hu (show (4 * k + 3 + 1) * 1 ≤ 140737488355328 by omega)
          clear hx hbs hown hf hlow hsz hnew
          go_wp2_with (at_builtin; refine wpList_append_moved _ rfl (.tmp 49) (.tmp 50) 25 rfl w.heap.size 5 i0 (.int .u8 0) 1 1 und25 hi hz0 hz1 hz2 rfl (by decide) _ _ _ rfl (OX.out ()) _ 1 1 [.int .u8 255] rfl rfl (NX.out ()) ?c1 (ML.out ()) (BL.out ()) (SX.out ()) ?_)
          case c1 => intro u hu; simp at hu; subst hu; rfl
          intro v' wz hown hgrow _
          have hR3 := px_more 255 ⟨by omega, by omega⟩ (HX.out ()) (HBS.out ()) (HF.out ()) (HLO.out ()) hown hgrow
          have HR3 := hu hR3
          clear hown hgrow hR3
          go_wp2
          go_roundw
          case rel => exact ⟨k + 1, by omega, by go_num, HR3.out ()⟩
          case measure => simp [intOf]; omega
    · obtain rfl : k = N := by omega
      go_wp2
      go_ret
      exact ⟨_, rfl, HR.out ()⟩
end Go.Proofs.YtpophkigihfjoaaDoor
