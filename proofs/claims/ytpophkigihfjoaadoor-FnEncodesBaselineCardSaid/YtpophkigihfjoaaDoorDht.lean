/- The walk of the encoder's Huffman tables segment. -/
import Derived.Test.YtpophkigihfjoaaDoorNewLut
namespace Go.Proofs.YtpophkigihfjoaaDoor
open Go.RowKit Go.Great
set_option maxRecDepth 100000

/-- A call by its contract, as a step of a list. -/
theorem wpList_callWith {P : Program} {ops : Array Oper} {rest : List Oper} {o : Oper} {a : Act} {w : World} {Q : Exit → Act → World → Prop} (hg : o.guard = none) (d : Option Tmp) (hd : o.dst = d)
    (f : FuncId) (args : Array Value) (hrun : (execOp a.eval o).run P w = .ok (.enter f args) w) {R : Ending → World → Prop}
    (hc : Calls P f args w R) (h : ∀ e w', R e w' → ∃ v, e = .returned v ∧ wpList P ops Q rest (a.put d v) w') : wpList P ops Q (o :: rest) a w := by
  subst hd
  refine wpList_plain hg fun K hK => ?_
  unfold Oper.wp
  rw [hrun, Oper.upon_enter]
  refine hc.mono fun e w'' hh => ?_
  obtain ⟨v, rfl, h2⟩ := h e w'' hh
  exact hK _ _ h2

theorem run_loadVar_cells {P : Program} (w : World) (a : Addr) (ty : TypeId) (cs : List Value) (d : TypeDesc) (hc : ∀ j v, cs[j]? = some v → w.cell? (a.add j) = some v)
    (hu : P.underlying ty = some d) (hd : (match d with | .struct _ | .array _ _ => true | _ => false) = true) (hi : (P.info? ty).map (·.size) = some cs.length) :
    (loadVar ty a).run P w = .ok (.agg cs.toArray) w := by
  have hl : (loadCells a cs.length).run P w = .ok cs.toArray w := run_loadCells_list (P := P) w a cs hc
  cases hq : P.info? ty with
  | none => simp [hq] at hi
  | some i =>
    have hs : i.size = cs.length := by simpa [hq] using hi
    have hagg : (isAgg ty).run P w = .ok true w := by
      unfold isAgg
      rw [Sem.run_bind, run_underlying hu w]
      cases d <;> simp_all
    simp [loadVar, Sem.run_bind, hagg, sizeOf, typeInfo, hq, hs, hl]

/-- A load of a whole value that lies within a block. -/
theorem wpList_load_cells {P : Program} {ops : Array Oper} {rest : List Oper} {o : Oper} {a : Act} {w : World} {Q : Exit → Act → World → Prop} (hgd : o.guard = none) (ty : TypeId) (x : Operand) (ho : o.op = .load ty x) (dst : Option Tmp) (hdst : o.dst = dst)
    (ad : Addr) (hx : a.eval x = .pointer (some ad)) (cs : List Value) (d : TypeDesc) (hc : ∀ j v, cs[j]? = some v → w.cell? (ad.add j) = some v)
    (hu : P.underlying ty = some d) (hd : (match d with | .struct _ | .array _ _ => true | _ => false) = true) (hi : (P.info? ty).map (·.size) = some cs.length)
    (h : wpList P ops Q rest (a.put dst (.agg cs.toArray)) w) : wpList P ops Q (o :: rest) a w := by
  subst hdst
  refine wpList_plain hgd fun _ hK => ?_
  unfold Oper.wp execOp
  simp only [ho, hx, Instr.loadAt, Instr.sureAddr, Sem.run_bind, Sem.run_pure, Result.andThen_ok, run_loadVar_cells w ad ty cs d hc hu hd hi]
  exact hK _ _ h

/-- A block that is none of the encoder's. -/
structure BA (w : World) (I : Ids) (v : Value) (b : Nat) (cs : List Value) (t : TypeId) : Prop where
  blk : Blk w b cs t
  ap : Apart w I v b

theorem BA.adv {w w' : World} {I : Ids} {v v' : Value} {b : Nat} {cs : List Value} {t : TypeId} (h : BA w I v b cs t) (ha : AdvE I v v' w w') : BA w' I v' b cs t := ⟨ha.blk h.blk h.ap, h.ap.adv ha⟩

theorem AdvE.ofFr {I : Ids} {v : Value} {w w' : World} (h : Fr (fun _ => False) w w') : AdvE I v v w w' := ⟨h.mono (fun _ _ e => e.elim), .inl rfl⟩

theorem BA.src {w : World} {I : Ids} {v : Value} {b off : Nat} {cs : List Value} {t : TypeId} {p : List Int} (h : BA w I v b cs t) (hp : ∀ j, j < p.length → cs[off + j]? = some (B8 (p.getD j 0))) : Src w I.BW I.BF I.WW v b off p :=
  ⟨fun j hj => h.blk.cellv _ (hp j hj), h.ap.lt, fun e => h.ap.out (.inr e)⟩

theorem map_at (p : List Int) (j : Nat) (hj : j < p.length) : (p.map B8)[0 + j]? = some (B8 (p.getD j 0)) := by
  rw [Nat.zero_add, List.getElem?_map, List.getD_eq_getElem?_getD, List.getElem?_eq_getElem hj]
  rfl

theorem spec_at0 (p : List Int) (b n j : Nat) (hj : j < p.length) : (specC p b n)[0 + j]? = some (B8 (p.getD j 0)) := by
  unfold specC
  rw [List.getElem?_append_left (by simp; omega)]
  exact map_at p j hj

theorem lc0 : cnt0.length = 16 := rfl
theorem lc1 : cnt1.length = 16 := rfl
theorem lc2 : cnt2.length = 16 := rfl
theorem lc3 : cnt3.length = 16 := rfl
theorem lv0 : val0.length = 12 := rfl
theorem lv1 : val1.length = 162 := rfl
theorem lv2 : val2.length = 12 := rfl
theorem lv3 : val3.length = 162 := rfl

theorem specs_part (P k : Nat) (hk : k < 4) : ∀ j u, ([specC cnt0 (P + 1) 12, specC cnt1 (P + 1 + 1) 162, specC cnt2 (P + 1 + 1 + 1) 12, specC cnt3 (P + 1 + 1 + 1 + 1) 162].getD k [])[j]? = some u → (specsC P)[17 * k + j]? = some u := by
  intro j u h
  have hj : j < 17 := by
    have := (List.getElem?_eq_some_iff.1 h).1
    rcases (by omega : k = 0 ∨ k = 1 ∨ k = 2 ∨ k = 3) with rfl | rfl | rfl | rfl <;> simpa [specC, lc0, lc1, lc2, lc3] using this
  rw [← h]
  rcases (by omega : k = 0 ∨ k = 1 ∨ k = 2 ∨ k = 3) with rfl | rfl | rfl | rfl
  · unfold specsC
    rw [List.getElem?_append_left (by simp [specC, lc0]; omega)]
    simp
  · unfold specsC
    rw [List.getElem?_append_right (by simp [specC, lc0])]
    rw [List.getElem?_append_left (by simp [specC, lc0, lc1]; omega)]
    simp [specC, lc0]
  · unfold specsC
    rw [List.getElem?_append_right (by simp [specC, lc0]; omega), List.getElem?_append_right (by simp [specC, lc0, lc1]; omega), List.getElem?_append_left (by simp [specC, lc0, lc1, lc2]; omega)]
    congr 1
    simp [specC, lc0, lc1]; omega
  · unfold specsC
    rw [List.getElem?_append_right (by simp [specC, lc0]; omega), List.getElem?_append_right (by simp [specC, lc0, lc1]; omega), List.getElem?_append_right (by simp [specC, lc0, lc1, lc2]; omega)]
    congr 1
    simp [specC, lc0, lc1, lc2]; omega

theorem cellAt_add {w : World} {b : Nat} {cs : List Value} {t : TypeId} (h : Blk w b cs t) (off j : Nat) {u : Value} (hu : cs[off + j]? = some u) : w.cell? ((⟨b, off, none⟩ : Addr).add j) = some u := by
  have e : (⟨b, off, none⟩ : Addr).add j = ⟨b, off + j, none⟩ := by
    unfold Addr.add
    split <;> simp_all
  rw [e]
  exact h.cellv _ hu

/-- What the segment holds. -/
def dhtBytes : List Int := [255, 196, 1, 162] ++ ([0] ++ cnt0 ++ val0) ++ ([16] ++ cnt1 ++ val1) ++ ([1] ++ cnt2 ++ val2) ++ ([17] ++ cnt3 ++ val3)

set_option maxHeartbeats 2000000 in
theorem dht {w : World} {I : Ids} {v : Value} {c : List Int} {A nb : Nat} {sc q : List Int} (h : EncW w I v c A nb sc q) (hlen : c.length + 420 ≤ 4096) :
    Calls Tryd.prog 29 #[.pointer (some ⟨I.E, 0, none⟩), .int .i64 3] w fun e w' => e = .returned (.tuple #[]) ∧
      ∃ v' sc', EncW w' I v' (c ++ dhtBytes) A nb sc' q ∧ AdvE I v v' w w' := by
  have HE := hu h
  have HLEN := hu hlen
  have hout := hu h.outlt
  clear h hlen
  obtain ⟨fs, und⟩ := und122
  go_enter Tryd.func29, Tryd.ntmps29
  go_upto_region 1 with (fail)
  rename_i KA
  apply wp_region_lit
  refine wpList_callWith rfl (some 11) rfl 39 #[] (by kernel_rfl) (specs_any w) ?_
  rintro e w1 ⟨rfl, f1, s0, s1, s2, s3⟩
  refine ⟨_, rfl, ?_⟩
  obtain ⟨P, hP⟩ : ∃ z, w.heap.size = z := ⟨_, rfl⟩
  rw [hP] at s0 s1 s2 s3
  simp only [hP]
  have hsz := f1.size
  rw [hP] at hsz
  refine wpList_runTo rfl (some 5) rfl (.pointer (some ⟨w1.heap.size, 0, none⟩)) (w1.alloc (.cells Tryd.zeroCells123 123)) (by kernel_rfl) ?_
  refine wpList_store_rowTo rfl 123 _ _ rfl rfl w1.heap.size (specsC P).toArray (by kernel_rfl) (by kernel_rfl) 123 _ (Blk.newA w1 _ _) (by kernel_rfl) (by kernel_rfl) (by kernel_rfl) ?_
  apply wpList_nil
  refine KA _ _ ?_
  clear KA
  obtain ⟨w2, hw2⟩ : ∃ z, (w1.alloc (.cells Tryd.zeroCells123 123)).setRow w1.heap.size (specsC P).toArray = z := ⟨_, rfl⟩
  have bS : Blk w2 w1.heap.size (specsC P) 123 := by rw [← hw2]; exact setRow_heap _ _ _ _ _ _ (Blk.newA w1 _ _)
  have f2 : Fr (fun _ => False) w1 w2 := by rw [← hw2]; exact ((Fr.refl _ w1).alloc _).setRow _ (fun e => absurd e (by omega)) _
  simp only [hw2]
  clear hw2
  obtain ⟨S, hS⟩ : ∃ z, w1.heap.size = z := ⟨_, rfl⟩
  simp only [hS]
  have h2s := f2.size
  rw [hS] at bS hsz h2s
  have FF2 := hu (f1.trans f2 (fun _ _ e => e))
  have hout2 : ∀ k, P ≤ k → k < w2.heap.size → Apart w2 I v k := fun k h1 h2 => ⟨h2, fun e => by have := hout.out () k e; omega⟩
  have hSl := bS.lt
  have SA2 := hu (show BA w2 I v S (specsC P) 123 from ⟨bS, hout2 S hsz hSl⟩)
  have V0_2 := hu (show BA w2 I v (P + 1) (val0.map B8) 5 from ⟨f2.blk s0 (fun e => e), hout2 _ (by omega) (by have := s0.lt; omega)⟩)
  have V1_2 := hu (show BA w2 I v (P + 1 + 1) (val1.map B8) 5 from ⟨f2.blk s1 (fun e => e), hout2 _ (by omega) (by have := s1.lt; omega)⟩)
  have V2_2 := hu (show BA w2 I v (P + 1 + 1 + 1) (val2.map B8) 5 from ⟨f2.blk s2 (fun e => e), hout2 _ (by omega) (by have := s2.lt; omega)⟩)
  have V3_2 := hu (show BA w2 I v (P + 1 + 1 + 1 + 1) (val3.map B8) 5 from ⟨f2.blk s3 (fun e => e), hout2 _ (by omega) (by have := s3.lt; omega)⟩)
  have E2 := hu ((HE.out ()).frame (FF2.out ()) (fun _ _ e => e))
  have A2 := hu (AdvE.ofFr (I := I) (v := v) (FF2.out ()))
  clear bS f1 f2 s0 s1 s2 s3 hout2 FF2 HE
  go_wp2
  refine wp_loop_rounds 5 ?_
  rw [rounds_succ]
  go_upto_region 7 with (fail)
  rename_i KK
  apply wp_region_lit
  refine wpList_runTo rfl (some 21) rfl (.pointer (some ⟨S, 0, none⟩)) w2 (by kernel_rfl) ?_
  refine wpList_load_cells rfl 122 _ rfl (some 22) rfl ⟨S, 0, none⟩ rfl (specC cnt0 (P + 1) 12) (.struct fs) (fun j u hu => cellAt_add (SA2.out ()).blk 0 j (specs_part P 0 (by decide) j u hu)) und rfl (by kernel_rfl) ?_
  refine wpList_runTo rfl (some 8) rfl (.pointer (some ⟨w2.heap.size, 0, none⟩)) (w2.alloc (.cells (Array.replicate 16 (B8 0) ++ #[.slice none 0 0]) 122)) (by kernel_rfl) ?_
  refine wpList_store_rowTo rfl 122 _ _ rfl rfl w2.heap.size (specC cnt0 (P + 1) 12).toArray (by kernel_rfl) (by kernel_rfl) 122 _ (Blk.newA w2 _ _) (by kernel_rfl) (by kernel_rfl) (by kernel_rfl) ?_
  apply wpList_nil
  refine KK _ _ ?_
  clear KK
  obtain ⟨w3, hwx⟩ : ∃ z, (w2.alloc (.cells (Array.replicate 16 (B8 0) ++ #[.slice none 0 0]) 122)).setRow w2.heap.size (specC cnt0 (P + 1) 12).toArray = z := ⟨_, rfl⟩
  have bX : Blk w3 w2.heap.size (specC cnt0 (P + 1) 12) 122 := by rw [← hwx]; exact setRow_heap _ _ _ _ _ _ (Blk.newA w2 _ _)
  have fX : Fr (fun _ => False) w2 w3 := by rw [← hwx]; exact ((Fr.refl _ w2).alloc _).setRow _ (fun e => absurd e (by omega)) _
  simp only [hwx]
  clear hwx
  obtain ⟨X, hX⟩ : ∃ z, w2.heap.size = z := ⟨_, rfl⟩
  simp only [hX]
  rw [hX] at bX
  have aX : AdvE I v v w2 w3 := AdvE.ofFr fX
  have SA3 := hu ((SA2.out ()).adv aX)
  have E3 := hu ((E2.out ()).frame fX (fun _ _ e => e))
  have A3 := hu ((A2.out ()).trans aX)
  have V0_3 := hu ((V0_2.out ()).adv aX)
  have V1_3 := hu ((V1_2.out ()).adv aX)
  have V2_3 := hu ((V2_2.out ()).adv aX)
  have V3_3 := hu ((V3_2.out ()).adv aX)
  have x16 : w3.cell? ⟨X, 16, none⟩ = some (.slice (some ⟨P + 1, 0, none⟩) 12 12) := (spec_at bX lc0).1
  clear fX aX bX hX SA2 E2 A2 V0_2 V1_2 V2_2 V3_2
  go_wp2
  clear x16
  rw [rounds_succ]
  go_upto_region 7 with (fail)
  rename_i KK
  apply wp_region_lit
  refine wpList_runTo rfl (some 21) rfl (.pointer (some ⟨S, 17, none⟩)) w3 (by kernel_rfl) ?_
  refine wpList_load_cells rfl 122 _ rfl (some 22) rfl ⟨S, 17, none⟩ rfl (specC cnt1 (P + 1 + 1) 162) (.struct fs) (fun j u hu => cellAt_add (SA3.out ()).blk 17 j (specs_part P 1 (by decide) j u hu)) und rfl (by kernel_rfl) ?_
  refine wpList_runTo rfl (some 8) rfl (.pointer (some ⟨w3.heap.size, 0, none⟩)) (w3.alloc (.cells (Array.replicate 16 (B8 0) ++ #[.slice none 0 0]) 122)) (by kernel_rfl) ?_
  refine wpList_store_rowTo rfl 122 _ _ rfl rfl w3.heap.size (specC cnt1 (P + 1 + 1) 162).toArray (by kernel_rfl) (by kernel_rfl) 122 _ (Blk.newA w3 _ _) (by kernel_rfl) (by kernel_rfl) (by kernel_rfl) ?_
  apply wpList_nil
  refine KK _ _ ?_
  clear KK
  obtain ⟨w4, hwx⟩ : ∃ z, (w3.alloc (.cells (Array.replicate 16 (B8 0) ++ #[.slice none 0 0]) 122)).setRow w3.heap.size (specC cnt1 (P + 1 + 1) 162).toArray = z := ⟨_, rfl⟩
  have bX : Blk w4 w3.heap.size (specC cnt1 (P + 1 + 1) 162) 122 := by rw [← hwx]; exact setRow_heap _ _ _ _ _ _ (Blk.newA w3 _ _)
  have fX : Fr (fun _ => False) w3 w4 := by rw [← hwx]; exact ((Fr.refl _ w3).alloc _).setRow _ (fun e => absurd e (by omega)) _
  simp only [hwx]
  clear hwx
  obtain ⟨X, hX⟩ : ∃ z, w3.heap.size = z := ⟨_, rfl⟩
  simp only [hX]
  rw [hX] at bX
  have aX : AdvE I v v w3 w4 := AdvE.ofFr fX
  have SA4 := hu ((SA3.out ()).adv aX)
  have E4 := hu ((E3.out ()).frame fX (fun _ _ e => e))
  have A4 := hu ((A3.out ()).trans aX)
  have V0_4 := hu ((V0_3.out ()).adv aX)
  have V1_4 := hu ((V1_3.out ()).adv aX)
  have V2_4 := hu ((V2_3.out ()).adv aX)
  have V3_4 := hu ((V3_3.out ()).adv aX)
  have x16 : w4.cell? ⟨X, 16, none⟩ = some (.slice (some ⟨P + 1 + 1, 0, none⟩) 162 162) := (spec_at bX lc1).1
  clear fX aX bX hX SA3 E3 A3 V0_3 V1_3 V2_3 V3_3
  go_wp2
  clear x16
  rw [rounds_succ]
  go_upto_region 7 with (fail)
  rename_i KK
  apply wp_region_lit
  refine wpList_runTo rfl (some 21) rfl (.pointer (some ⟨S, 34, none⟩)) w4 (by kernel_rfl) ?_
  refine wpList_load_cells rfl 122 _ rfl (some 22) rfl ⟨S, 34, none⟩ rfl (specC cnt2 (P + 1 + 1 + 1) 12) (.struct fs) (fun j u hu => cellAt_add (SA4.out ()).blk 34 j (specs_part P 2 (by decide) j u hu)) und rfl (by kernel_rfl) ?_
  refine wpList_runTo rfl (some 8) rfl (.pointer (some ⟨w4.heap.size, 0, none⟩)) (w4.alloc (.cells (Array.replicate 16 (B8 0) ++ #[.slice none 0 0]) 122)) (by kernel_rfl) ?_
  refine wpList_store_rowTo rfl 122 _ _ rfl rfl w4.heap.size (specC cnt2 (P + 1 + 1 + 1) 12).toArray (by kernel_rfl) (by kernel_rfl) 122 _ (Blk.newA w4 _ _) (by kernel_rfl) (by kernel_rfl) (by kernel_rfl) ?_
  apply wpList_nil
  refine KK _ _ ?_
  clear KK
  obtain ⟨w5, hwx⟩ : ∃ z, (w4.alloc (.cells (Array.replicate 16 (B8 0) ++ #[.slice none 0 0]) 122)).setRow w4.heap.size (specC cnt2 (P + 1 + 1 + 1) 12).toArray = z := ⟨_, rfl⟩
  have bX : Blk w5 w4.heap.size (specC cnt2 (P + 1 + 1 + 1) 12) 122 := by rw [← hwx]; exact setRow_heap _ _ _ _ _ _ (Blk.newA w4 _ _)
  have fX : Fr (fun _ => False) w4 w5 := by rw [← hwx]; exact ((Fr.refl _ w4).alloc _).setRow _ (fun e => absurd e (by omega)) _
  simp only [hwx]
  clear hwx
  obtain ⟨X, hX⟩ : ∃ z, w4.heap.size = z := ⟨_, rfl⟩
  simp only [hX]
  rw [hX] at bX
  have aX : AdvE I v v w4 w5 := AdvE.ofFr fX
  have SA5 := hu ((SA4.out ()).adv aX)
  have E5 := hu ((E4.out ()).frame fX (fun _ _ e => e))
  have A5 := hu ((A4.out ()).trans aX)
  have V0_5 := hu ((V0_4.out ()).adv aX)
  have V1_5 := hu ((V1_4.out ()).adv aX)
  have V2_5 := hu ((V2_4.out ()).adv aX)
  have V3_5 := hu ((V3_4.out ()).adv aX)
  have x16 : w5.cell? ⟨X, 16, none⟩ = some (.slice (some ⟨P + 1 + 1 + 1, 0, none⟩) 12 12) := (spec_at bX lc2).1
  clear fX aX bX hX SA4 E4 A4 V0_4 V1_4 V2_4 V3_4
  go_wp2
  clear x16
  rw [rounds_succ]
  go_upto_region 7 with (fail)
  rename_i KK
  apply wp_region_lit
  refine wpList_runTo rfl (some 21) rfl (.pointer (some ⟨S, 51, none⟩)) w5 (by kernel_rfl) ?_
  refine wpList_load_cells rfl 122 _ rfl (some 22) rfl ⟨S, 51, none⟩ rfl (specC cnt3 (P + 1 + 1 + 1 + 1) 162) (.struct fs) (fun j u hu => cellAt_add (SA5.out ()).blk 51 j (specs_part P 3 (by decide) j u hu)) und rfl (by kernel_rfl) ?_
  refine wpList_runTo rfl (some 8) rfl (.pointer (some ⟨w5.heap.size, 0, none⟩)) (w5.alloc (.cells (Array.replicate 16 (B8 0) ++ #[.slice none 0 0]) 122)) (by kernel_rfl) ?_
  refine wpList_store_rowTo rfl 122 _ _ rfl rfl w5.heap.size (specC cnt3 (P + 1 + 1 + 1 + 1) 162).toArray (by kernel_rfl) (by kernel_rfl) 122 _ (Blk.newA w5 _ _) (by kernel_rfl) (by kernel_rfl) (by kernel_rfl) ?_
  apply wpList_nil
  refine KK _ _ ?_
  clear KK
  obtain ⟨w6, hwx⟩ : ∃ z, (w5.alloc (.cells (Array.replicate 16 (B8 0) ++ #[.slice none 0 0]) 122)).setRow w5.heap.size (specC cnt3 (P + 1 + 1 + 1 + 1) 162).toArray = z := ⟨_, rfl⟩
  have bX : Blk w6 w5.heap.size (specC cnt3 (P + 1 + 1 + 1 + 1) 162) 122 := by rw [← hwx]; exact setRow_heap _ _ _ _ _ _ (Blk.newA w5 _ _)
  have fX : Fr (fun _ => False) w5 w6 := by rw [← hwx]; exact ((Fr.refl _ w5).alloc _).setRow _ (fun e => absurd e (by omega)) _
  simp only [hwx]
  clear hwx
  obtain ⟨X, hX⟩ : ∃ z, w5.heap.size = z := ⟨_, rfl⟩
  simp only [hX]
  rw [hX] at bX
  have aX : AdvE I v v w5 w6 := AdvE.ofFr fX
  have SA6 := hu ((SA5.out ()).adv aX)
  have E6 := hu ((E5.out ()).frame fX (fun _ _ e => e))
  have A6 := hu ((A5.out ()).trans aX)
  have V0_6 := hu ((V0_5.out ()).adv aX)
  have V1_6 := hu ((V1_5.out ()).adv aX)
  have V2_6 := hu ((V2_5.out ()).adv aX)
  have V3_6 := hu ((V3_5.out ()).adv aX)
  have x16 : w6.cell? ⟨X, 16, none⟩ = some (.slice (some ⟨P + 1 + 1 + 1 + 1, 0, none⟩) 162 162) := (spec_at bX lc3).1
  clear fX aX bX hX SA5 E5 A5 V0_5 V1_5 V2_5 V3_5
  go_wp2
  clear x16
  rw [rounds_succ]
  go_wp2_with fail
  refine (marker (E6.out ()) 196 418 (by omega) (by omega) (by omega) (by omega) (by decide +kernel) (by have := HLEN.out (); omega)).mono ?_
  rintro e w7 ⟨rfl, v7, sc7, h7, a7⟩
  have E7 := hu (show EncW w7 I v7 (c ++ [255, 196, 1, 162]) A nb sc7 q from h7)
  have A7 := hu ((A6.out ()).trans a7)
  have SA7 := hu ((SA6.out ()).adv a7)
  have V0_7 := hu ((V0_6.out ()).adv a7)
  have V1_7 := hu ((V1_6.out ()).adv a7)
  have V2_7 := hu ((V2_6.out ()).adv a7)
  have V3_7 := hu ((V3_6.out ()).adv a7)
  clear h7 a7 SA6 E6 A6 V0_6 V1_6 V2_6 V3_6
  go_wp2
  refine wp_loop_rounds 5 ?_
  rw [rounds_succ]
  go_upto_region 13 with (fail)
  rename_i KK
  apply wp_region_lit
  refine wpList_runTo rfl (some 37) rfl (.int .i64 0) w7 (by kernel_rfl) ?_
  refine wpList_runTo rfl (some 38) rfl (.pointer (some ⟨S, 0, none⟩)) w7 (by kernel_rfl) ?_
  refine wpList_load_cells rfl 122 _ rfl (some 39) rfl ⟨S, 0, none⟩ rfl (specC cnt0 (P + 1) 12) (.struct fs) (fun j u hu => cellAt_add (SA7.out ()).blk 0 j (specs_part P 0 (by decide) j u hu)) und rfl (by kernel_rfl) ?_
  refine wpList_runTo rfl (some 10) rfl (.pointer (some ⟨w7.heap.size, 0, none⟩)) (w7.alloc (.cells (Array.replicate 16 (B8 0) ++ #[.slice none 0 0]) 122)) (by kernel_rfl) ?_
  refine wpList_runTo rfl (some 9) rfl (.int .i64 0) (w7.alloc (.cells (Array.replicate 16 (B8 0) ++ #[.slice none 0 0]) 122)) (by kernel_rfl) ?_
  refine wpList_store_rowTo rfl 122 _ _ rfl rfl w7.heap.size (specC cnt0 (P + 1) 12).toArray (by kernel_rfl) (by kernel_rfl) 122 _ (Blk.newA w7 _ _) (by kernel_rfl) (by kernel_rfl) (by kernel_rfl) ?_
  apply wpList_nil
  refine KK _ _ ?_
  clear KK
  obtain ⟨w8, hwx⟩ : ∃ z, (w7.alloc (.cells (Array.replicate 16 (B8 0) ++ #[.slice none 0 0]) 122)).setRow w7.heap.size (specC cnt0 (P + 1) 12).toArray = z := ⟨_, rfl⟩
  have bX : Blk w8 w7.heap.size (specC cnt0 (P + 1) 12) 122 := by rw [← hwx]; exact setRow_heap _ _ _ _ _ _ (Blk.newA w7 _ _)
  have fX : Fr (fun _ => False) w7 w8 := by rw [← hwx]; exact ((Fr.refl _ w7).alloc _).setRow _ (fun e => absurd e (by omega)) _
  simp only [hwx]
  clear hwx
  obtain ⟨X, hX⟩ : ∃ z, w7.heap.size = z := ⟨_, rfl⟩
  simp only [hX]
  rw [hX] at bX
  have aX : AdvE I v7 v7 w7 w8 := AdvE.ofFr fX
  have E8 := hu ((E7.out ()).frame fX (fun _ _ e => e))
  have BX8 := hu (show BA w8 I v7 X (specC cnt0 (P + 1) 12) 122 from ⟨bX, bX.lt, fun e => by have := (E7.out ()).outlt X e; omega⟩)
  have A8 := hu ((A7.out ()).trans aX)
  have SA8 := hu ((SA7.out ()).adv aX)
  have V0_8 := hu ((V0_7.out ()).adv aX)
  have V1_8 := hu ((V1_7.out ()).adv aX)
  have V2_8 := hu ((V2_7.out ()).adv aX)
  have V3_8 := hu ((V3_7.out ()).adv aX)
  clear bX hX fX aX A7 SA7 E7 V0_7 V1_7 V2_7 V3_7
  go_wp2_with fail
  refine (ebyte (E8.out ()) 0 (by have := HLEN.out (); simp [lc0, lc1, lc2, lc3, lv0, lv1, lv2, lv3]; unfold BIG; omega)).mono ?_
  rintro e w9 ⟨rfl, v9, hy, ay⟩
  have E9 := hu hy
  have A9 := hu ((A8.out ()).trans ay)
  have SA9 := hu ((SA8.out ()).adv ay)
  have V0_9 := hu ((V0_8.out ()).adv ay)
  have V1_9 := hu ((V1_8.out ()).adv ay)
  have V2_9 := hu ((V2_8.out ()).adv ay)
  have V3_9 := hu ((V3_8.out ()).adv ay)
  have BX9 := hu ((BX8.out ()).adv ay)
  clear hy ay A8 SA8 E8 V0_8 V1_8 V2_8 V3_8 BX8
  go_wp2_with fail
  refine (ewrite (E9.out ()) ((BX9.out ()).src (fun j hj => spec_at0 cnt0 (P + 1) 12 j hj)) 16 lc0 (by omega) (.inl (by have := HLEN.out (); simp [lc0, lc1, lc2, lc3, lv0, lv1, lv2, lv3]; omega)) (by have := HLEN.out (); simp [lc0, lc1, lc2, lc3, lv0, lv1, lv2, lv3]; unfold BIG; omega)).mono ?_
  rintro e w10 ⟨rfl, v10, hy, ay⟩
  have E10 := hu hy
  have A10 := hu ((A9.out ()).trans ay)
  have SA10 := hu ((SA9.out ()).adv ay)
  have V0_10 := hu ((V0_9.out ()).adv ay)
  have V1_10 := hu ((V1_9.out ()).adv ay)
  have V2_10 := hu ((V2_9.out ()).adv ay)
  have V3_10 := hu ((V3_9.out ()).adv ay)
  have BX10 := hu ((BX9.out ()).adv ay)
  clear hy ay A9 SA9 E9 V0_9 V1_9 V2_9 V3_9 BX9
  have x16 : w10.cell? ⟨X, 16, none⟩ = some (.slice (some ⟨P + 1, 0, none⟩) 12 12) := (spec_at (BX10.out ()).blk lc0).1
  go_wp2_with fail
  clear x16
  refine (ewrite (E10.out ()) ((V0_10.out ()).src (fun j hj => map_at val0 j hj)) 12 lv0 (by omega) (.inl (by have := HLEN.out (); simp [lc0, lc1, lc2, lc3, lv0, lv1, lv2, lv3]; omega)) (by have := HLEN.out (); simp [lc0, lc1, lc2, lc3, lv0, lv1, lv2, lv3]; unfold BIG; omega)).mono ?_
  rintro e w11 ⟨rfl, v11, hy, ay⟩
  have E11 := hu hy
  have A11 := hu ((A10.out ()).trans ay)
  have SA11 := hu ((SA10.out ()).adv ay)
  have V0_11 := hu ((V0_10.out ()).adv ay)
  have V1_11 := hu ((V1_10.out ()).adv ay)
  have V2_11 := hu ((V2_10.out ()).adv ay)
  have V3_11 := hu ((V3_10.out ()).adv ay)
  have BX11 := hu ((BX10.out ()).adv ay)
  clear hy ay A10 SA10 E10 V0_10 V1_10 V2_10 V3_10 BX10
  clear BX11
  go_wp2
  rw [rounds_succ]
  go_upto_region 13 with (fail)
  rename_i KK
  apply wp_region_lit
  refine wpList_runTo rfl (some 37) rfl (.int .i64 1) w11 (by kernel_rfl) ?_
  refine wpList_runTo rfl (some 38) rfl (.pointer (some ⟨S, 17, none⟩)) w11 (by kernel_rfl) ?_
  refine wpList_load_cells rfl 122 _ rfl (some 39) rfl ⟨S, 17, none⟩ rfl (specC cnt1 (P + 1 + 1) 162) (.struct fs) (fun j u hu => cellAt_add (SA11.out ()).blk 17 j (specs_part P 1 (by decide) j u hu)) und rfl (by kernel_rfl) ?_
  refine wpList_runTo rfl (some 10) rfl (.pointer (some ⟨w11.heap.size, 0, none⟩)) (w11.alloc (.cells (Array.replicate 16 (B8 0) ++ #[.slice none 0 0]) 122)) (by kernel_rfl) ?_
  refine wpList_runTo rfl (some 9) rfl (.int .i64 1) (w11.alloc (.cells (Array.replicate 16 (B8 0) ++ #[.slice none 0 0]) 122)) (by kernel_rfl) ?_
  refine wpList_store_rowTo rfl 122 _ _ rfl rfl w11.heap.size (specC cnt1 (P + 1 + 1) 162).toArray (by kernel_rfl) (by kernel_rfl) 122 _ (Blk.newA w11 _ _) (by kernel_rfl) (by kernel_rfl) (by kernel_rfl) ?_
  apply wpList_nil
  refine KK _ _ ?_
  clear KK
  obtain ⟨w12, hwx⟩ : ∃ z, (w11.alloc (.cells (Array.replicate 16 (B8 0) ++ #[.slice none 0 0]) 122)).setRow w11.heap.size (specC cnt1 (P + 1 + 1) 162).toArray = z := ⟨_, rfl⟩
  have bX : Blk w12 w11.heap.size (specC cnt1 (P + 1 + 1) 162) 122 := by rw [← hwx]; exact setRow_heap _ _ _ _ _ _ (Blk.newA w11 _ _)
  have fX : Fr (fun _ => False) w11 w12 := by rw [← hwx]; exact ((Fr.refl _ w11).alloc _).setRow _ (fun e => absurd e (by omega)) _
  simp only [hwx]
  clear hwx
  obtain ⟨X, hX⟩ : ∃ z, w11.heap.size = z := ⟨_, rfl⟩
  simp only [hX]
  rw [hX] at bX
  have aX : AdvE I v11 v11 w11 w12 := AdvE.ofFr fX
  have E12 := hu ((E11.out ()).frame fX (fun _ _ e => e))
  have BX12 := hu (show BA w12 I v11 X (specC cnt1 (P + 1 + 1) 162) 122 from ⟨bX, bX.lt, fun e => by have := (E11.out ()).outlt X e; omega⟩)
  have A12 := hu ((A11.out ()).trans aX)
  have SA12 := hu ((SA11.out ()).adv aX)
  have V0_12 := hu ((V0_11.out ()).adv aX)
  have V1_12 := hu ((V1_11.out ()).adv aX)
  have V2_12 := hu ((V2_11.out ()).adv aX)
  have V3_12 := hu ((V3_11.out ()).adv aX)
  clear bX hX fX aX A11 SA11 E11 V0_11 V1_11 V2_11 V3_11
  go_wp2_with fail
  refine (ebyte (E12.out ()) 16 (by have := HLEN.out (); simp [lc0, lc1, lc2, lc3, lv0, lv1, lv2, lv3]; unfold BIG; omega)).mono ?_
  rintro e w13 ⟨rfl, v13, hy, ay⟩
  have E13 := hu hy
  have A13 := hu ((A12.out ()).trans ay)
  have SA13 := hu ((SA12.out ()).adv ay)
  have V0_13 := hu ((V0_12.out ()).adv ay)
  have V1_13 := hu ((V1_12.out ()).adv ay)
  have V2_13 := hu ((V2_12.out ()).adv ay)
  have V3_13 := hu ((V3_12.out ()).adv ay)
  have BX13 := hu ((BX12.out ()).adv ay)
  clear hy ay A12 SA12 E12 V0_12 V1_12 V2_12 V3_12 BX12
  go_wp2_with fail
  refine (ewrite (E13.out ()) ((BX13.out ()).src (fun j hj => spec_at0 cnt1 (P + 1 + 1) 162 j hj)) 16 lc1 (by omega) (.inl (by have := HLEN.out (); simp [lc0, lc1, lc2, lc3, lv0, lv1, lv2, lv3]; omega)) (by have := HLEN.out (); simp [lc0, lc1, lc2, lc3, lv0, lv1, lv2, lv3]; unfold BIG; omega)).mono ?_
  rintro e w14 ⟨rfl, v14, hy, ay⟩
  have E14 := hu hy
  have A14 := hu ((A13.out ()).trans ay)
  have SA14 := hu ((SA13.out ()).adv ay)
  have V0_14 := hu ((V0_13.out ()).adv ay)
  have V1_14 := hu ((V1_13.out ()).adv ay)
  have V2_14 := hu ((V2_13.out ()).adv ay)
  have V3_14 := hu ((V3_13.out ()).adv ay)
  have BX14 := hu ((BX13.out ()).adv ay)
  clear hy ay A13 SA13 E13 V0_13 V1_13 V2_13 V3_13 BX13
  have x16 : w14.cell? ⟨X, 16, none⟩ = some (.slice (some ⟨P + 1 + 1, 0, none⟩) 162 162) := (spec_at (BX14.out ()).blk lc1).1
  go_wp2_with fail
  clear x16
  refine (ewrite (E14.out ()) ((V1_14.out ()).src (fun j hj => map_at val1 j hj)) 162 lv1 (by omega) (.inl (by have := HLEN.out (); simp [lc0, lc1, lc2, lc3, lv0, lv1, lv2, lv3]; omega)) (by have := HLEN.out (); simp [lc0, lc1, lc2, lc3, lv0, lv1, lv2, lv3]; unfold BIG; omega)).mono ?_
  rintro e w15 ⟨rfl, v15, hy, ay⟩
  have E15 := hu hy
  have A15 := hu ((A14.out ()).trans ay)
  have SA15 := hu ((SA14.out ()).adv ay)
  have V0_15 := hu ((V0_14.out ()).adv ay)
  have V1_15 := hu ((V1_14.out ()).adv ay)
  have V2_15 := hu ((V2_14.out ()).adv ay)
  have V3_15 := hu ((V3_14.out ()).adv ay)
  have BX15 := hu ((BX14.out ()).adv ay)
  clear hy ay A14 SA14 E14 V0_14 V1_14 V2_14 V3_14 BX14
  clear BX15
  go_wp2
  rw [rounds_succ]
  go_upto_region 13 with (fail)
  rename_i KK
  apply wp_region_lit
  refine wpList_runTo rfl (some 37) rfl (.int .i64 2) w15 (by kernel_rfl) ?_
  refine wpList_runTo rfl (some 38) rfl (.pointer (some ⟨S, 34, none⟩)) w15 (by kernel_rfl) ?_
  refine wpList_load_cells rfl 122 _ rfl (some 39) rfl ⟨S, 34, none⟩ rfl (specC cnt2 (P + 1 + 1 + 1) 12) (.struct fs) (fun j u hu => cellAt_add (SA15.out ()).blk 34 j (specs_part P 2 (by decide) j u hu)) und rfl (by kernel_rfl) ?_
  refine wpList_runTo rfl (some 10) rfl (.pointer (some ⟨w15.heap.size, 0, none⟩)) (w15.alloc (.cells (Array.replicate 16 (B8 0) ++ #[.slice none 0 0]) 122)) (by kernel_rfl) ?_
  refine wpList_runTo rfl (some 9) rfl (.int .i64 2) (w15.alloc (.cells (Array.replicate 16 (B8 0) ++ #[.slice none 0 0]) 122)) (by kernel_rfl) ?_
  refine wpList_store_rowTo rfl 122 _ _ rfl rfl w15.heap.size (specC cnt2 (P + 1 + 1 + 1) 12).toArray (by kernel_rfl) (by kernel_rfl) 122 _ (Blk.newA w15 _ _) (by kernel_rfl) (by kernel_rfl) (by kernel_rfl) ?_
  apply wpList_nil
  refine KK _ _ ?_
  clear KK
  obtain ⟨w16, hwx⟩ : ∃ z, (w15.alloc (.cells (Array.replicate 16 (B8 0) ++ #[.slice none 0 0]) 122)).setRow w15.heap.size (specC cnt2 (P + 1 + 1 + 1) 12).toArray = z := ⟨_, rfl⟩
  have bX : Blk w16 w15.heap.size (specC cnt2 (P + 1 + 1 + 1) 12) 122 := by rw [← hwx]; exact setRow_heap _ _ _ _ _ _ (Blk.newA w15 _ _)
  have fX : Fr (fun _ => False) w15 w16 := by rw [← hwx]; exact ((Fr.refl _ w15).alloc _).setRow _ (fun e => absurd e (by omega)) _
  simp only [hwx]
  clear hwx
  obtain ⟨X, hX⟩ : ∃ z, w15.heap.size = z := ⟨_, rfl⟩
  simp only [hX]
  rw [hX] at bX
  have aX : AdvE I v15 v15 w15 w16 := AdvE.ofFr fX
  have E16 := hu ((E15.out ()).frame fX (fun _ _ e => e))
  have BX16 := hu (show BA w16 I v15 X (specC cnt2 (P + 1 + 1 + 1) 12) 122 from ⟨bX, bX.lt, fun e => by have := (E15.out ()).outlt X e; omega⟩)
  have A16 := hu ((A15.out ()).trans aX)
  have SA16 := hu ((SA15.out ()).adv aX)
  have V0_16 := hu ((V0_15.out ()).adv aX)
  have V1_16 := hu ((V1_15.out ()).adv aX)
  have V2_16 := hu ((V2_15.out ()).adv aX)
  have V3_16 := hu ((V3_15.out ()).adv aX)
  clear bX hX fX aX A15 SA15 E15 V0_15 V1_15 V2_15 V3_15
  go_wp2_with fail
  refine (ebyte (E16.out ()) 1 (by have := HLEN.out (); simp [lc0, lc1, lc2, lc3, lv0, lv1, lv2, lv3]; unfold BIG; omega)).mono ?_
  rintro e w17 ⟨rfl, v17, hy, ay⟩
  have E17 := hu hy
  have A17 := hu ((A16.out ()).trans ay)
  have SA17 := hu ((SA16.out ()).adv ay)
  have V0_17 := hu ((V0_16.out ()).adv ay)
  have V1_17 := hu ((V1_16.out ()).adv ay)
  have V2_17 := hu ((V2_16.out ()).adv ay)
  have V3_17 := hu ((V3_16.out ()).adv ay)
  have BX17 := hu ((BX16.out ()).adv ay)
  clear hy ay A16 SA16 E16 V0_16 V1_16 V2_16 V3_16 BX16
  go_wp2_with fail
  refine (ewrite (E17.out ()) ((BX17.out ()).src (fun j hj => spec_at0 cnt2 (P + 1 + 1 + 1) 12 j hj)) 16 lc2 (by omega) (.inl (by have := HLEN.out (); simp [lc0, lc1, lc2, lc3, lv0, lv1, lv2, lv3]; omega)) (by have := HLEN.out (); simp [lc0, lc1, lc2, lc3, lv0, lv1, lv2, lv3]; unfold BIG; omega)).mono ?_
  rintro e w18 ⟨rfl, v18, hy, ay⟩
  have E18 := hu hy
  have A18 := hu ((A17.out ()).trans ay)
  have SA18 := hu ((SA17.out ()).adv ay)
  have V0_18 := hu ((V0_17.out ()).adv ay)
  have V1_18 := hu ((V1_17.out ()).adv ay)
  have V2_18 := hu ((V2_17.out ()).adv ay)
  have V3_18 := hu ((V3_17.out ()).adv ay)
  have BX18 := hu ((BX17.out ()).adv ay)
  clear hy ay A17 SA17 E17 V0_17 V1_17 V2_17 V3_17 BX17
  have x16 : w18.cell? ⟨X, 16, none⟩ = some (.slice (some ⟨P + 1 + 1 + 1, 0, none⟩) 12 12) := (spec_at (BX18.out ()).blk lc2).1
  go_wp2_with fail
  clear x16
  refine (ewrite (E18.out ()) ((V2_18.out ()).src (fun j hj => map_at val2 j hj)) 12 lv2 (by omega) (.inl (by have := HLEN.out (); simp [lc0, lc1, lc2, lc3, lv0, lv1, lv2, lv3]; omega)) (by have := HLEN.out (); simp [lc0, lc1, lc2, lc3, lv0, lv1, lv2, lv3]; unfold BIG; omega)).mono ?_
  rintro e w19 ⟨rfl, v19, hy, ay⟩
  have E19 := hu hy
  have A19 := hu ((A18.out ()).trans ay)
  have SA19 := hu ((SA18.out ()).adv ay)
  have V0_19 := hu ((V0_18.out ()).adv ay)
  have V1_19 := hu ((V1_18.out ()).adv ay)
  have V2_19 := hu ((V2_18.out ()).adv ay)
  have V3_19 := hu ((V3_18.out ()).adv ay)
  have BX19 := hu ((BX18.out ()).adv ay)
  clear hy ay A18 SA18 E18 V0_18 V1_18 V2_18 V3_18 BX18
  clear BX19
  go_wp2
  rw [rounds_succ]
  go_upto_region 13 with (fail)
  rename_i KK
  apply wp_region_lit
  refine wpList_runTo rfl (some 37) rfl (.int .i64 3) w19 (by kernel_rfl) ?_
  refine wpList_runTo rfl (some 38) rfl (.pointer (some ⟨S, 51, none⟩)) w19 (by kernel_rfl) ?_
  refine wpList_load_cells rfl 122 _ rfl (some 39) rfl ⟨S, 51, none⟩ rfl (specC cnt3 (P + 1 + 1 + 1 + 1) 162) (.struct fs) (fun j u hu => cellAt_add (SA19.out ()).blk 51 j (specs_part P 3 (by decide) j u hu)) und rfl (by kernel_rfl) ?_
  refine wpList_runTo rfl (some 10) rfl (.pointer (some ⟨w19.heap.size, 0, none⟩)) (w19.alloc (.cells (Array.replicate 16 (B8 0) ++ #[.slice none 0 0]) 122)) (by kernel_rfl) ?_
  refine wpList_runTo rfl (some 9) rfl (.int .i64 3) (w19.alloc (.cells (Array.replicate 16 (B8 0) ++ #[.slice none 0 0]) 122)) (by kernel_rfl) ?_
  refine wpList_store_rowTo rfl 122 _ _ rfl rfl w19.heap.size (specC cnt3 (P + 1 + 1 + 1 + 1) 162).toArray (by kernel_rfl) (by kernel_rfl) 122 _ (Blk.newA w19 _ _) (by kernel_rfl) (by kernel_rfl) (by kernel_rfl) ?_
  apply wpList_nil
  refine KK _ _ ?_
  clear KK
  obtain ⟨w20, hwx⟩ : ∃ z, (w19.alloc (.cells (Array.replicate 16 (B8 0) ++ #[.slice none 0 0]) 122)).setRow w19.heap.size (specC cnt3 (P + 1 + 1 + 1 + 1) 162).toArray = z := ⟨_, rfl⟩
  have bX : Blk w20 w19.heap.size (specC cnt3 (P + 1 + 1 + 1 + 1) 162) 122 := by rw [← hwx]; exact setRow_heap _ _ _ _ _ _ (Blk.newA w19 _ _)
  have fX : Fr (fun _ => False) w19 w20 := by rw [← hwx]; exact ((Fr.refl _ w19).alloc _).setRow _ (fun e => absurd e (by omega)) _
  simp only [hwx]
  clear hwx
  obtain ⟨X, hX⟩ : ∃ z, w19.heap.size = z := ⟨_, rfl⟩
  simp only [hX]
  rw [hX] at bX
  have aX : AdvE I v19 v19 w19 w20 := AdvE.ofFr fX
  have E20 := hu ((E19.out ()).frame fX (fun _ _ e => e))
  have BX20 := hu (show BA w20 I v19 X (specC cnt3 (P + 1 + 1 + 1 + 1) 162) 122 from ⟨bX, bX.lt, fun e => by have := (E19.out ()).outlt X e; omega⟩)
  have A20 := hu ((A19.out ()).trans aX)
  have SA20 := hu ((SA19.out ()).adv aX)
  have V0_20 := hu ((V0_19.out ()).adv aX)
  have V1_20 := hu ((V1_19.out ()).adv aX)
  have V2_20 := hu ((V2_19.out ()).adv aX)
  have V3_20 := hu ((V3_19.out ()).adv aX)
  clear bX hX fX aX A19 SA19 E19 V0_19 V1_19 V2_19 V3_19
  go_wp2_with fail
  refine (ebyte (E20.out ()) 17 (by have := HLEN.out (); simp [lc0, lc1, lc2, lc3, lv0, lv1, lv2, lv3]; unfold BIG; omega)).mono ?_
  rintro e w21 ⟨rfl, v21, hy, ay⟩
  have E21 := hu hy
  have A21 := hu ((A20.out ()).trans ay)
  have SA21 := hu ((SA20.out ()).adv ay)
  have V0_21 := hu ((V0_20.out ()).adv ay)
  have V1_21 := hu ((V1_20.out ()).adv ay)
  have V2_21 := hu ((V2_20.out ()).adv ay)
  have V3_21 := hu ((V3_20.out ()).adv ay)
  have BX21 := hu ((BX20.out ()).adv ay)
  clear hy ay A20 SA20 E20 V0_20 V1_20 V2_20 V3_20 BX20
  go_wp2_with fail
  refine (ewrite (E21.out ()) ((BX21.out ()).src (fun j hj => spec_at0 cnt3 (P + 1 + 1 + 1 + 1) 162 j hj)) 16 lc3 (by omega) (.inl (by have := HLEN.out (); simp [lc0, lc1, lc2, lc3, lv0, lv1, lv2, lv3]; omega)) (by have := HLEN.out (); simp [lc0, lc1, lc2, lc3, lv0, lv1, lv2, lv3]; unfold BIG; omega)).mono ?_
  rintro e w22 ⟨rfl, v22, hy, ay⟩
  have E22 := hu hy
  have A22 := hu ((A21.out ()).trans ay)
  have SA22 := hu ((SA21.out ()).adv ay)
  have V0_22 := hu ((V0_21.out ()).adv ay)
  have V1_22 := hu ((V1_21.out ()).adv ay)
  have V2_22 := hu ((V2_21.out ()).adv ay)
  have V3_22 := hu ((V3_21.out ()).adv ay)
  have BX22 := hu ((BX21.out ()).adv ay)
  clear hy ay A21 SA21 E21 V0_21 V1_21 V2_21 V3_21 BX21
  have x16 : w22.cell? ⟨X, 16, none⟩ = some (.slice (some ⟨P + 1 + 1 + 1 + 1, 0, none⟩) 162 162) := (spec_at (BX22.out ()).blk lc3).1
  go_wp2_with fail
  clear x16
  refine (ewrite (E22.out ()) ((V3_22.out ()).src (fun j hj => map_at val3 j hj)) 162 lv3 (by omega) (.inl (by have := HLEN.out (); simp [lc0, lc1, lc2, lc3, lv0, lv1, lv2, lv3]; omega)) (by have := HLEN.out (); simp [lc0, lc1, lc2, lc3, lv0, lv1, lv2, lv3]; unfold BIG; omega)).mono ?_
  rintro e w23 ⟨rfl, v23, hy, ay⟩
  have E23 := hu hy
  have A23 := hu ((A22.out ()).trans ay)
  have SA23 := hu ((SA22.out ()).adv ay)
  have V0_23 := hu ((V0_22.out ()).adv ay)
  have V1_23 := hu ((V1_22.out ()).adv ay)
  have V2_23 := hu ((V2_22.out ()).adv ay)
  have V3_23 := hu ((V3_22.out ()).adv ay)
  have BX23 := hu ((BX22.out ()).adv ay)
  clear hy ay A22 SA22 E22 V0_22 V1_22 V2_22 V3_22 BX22
  clear BX23
  go_wp2
  rw [rounds_succ]
  go_wp2
  go_end0
  refine ⟨rfl, v23, sc7, ?_, A23.out ()⟩
  have hR := E23.out ()
  have e : c ++ dhtBytes = c ++ [255, 196, 1, 162] ++ [0] ++ cnt0 ++ val0 ++ [16] ++ cnt1 ++ val1 ++ [1] ++ cnt2 ++ val2 ++ [17] ++ cnt3 ++ val3 := by
    unfold dhtBytes
    simp only [List.append_assoc]
  rw [e]
  exact hR
end Go.Proofs.YtpophkigihfjoaaDoor
