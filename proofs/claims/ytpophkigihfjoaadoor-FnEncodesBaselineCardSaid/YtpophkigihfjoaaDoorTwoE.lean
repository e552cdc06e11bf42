/- The walk of read at the marker 196. -/
import Derived.Test.YtpophkigihfjoaaDoorTwoD
import Derived.Test.YtpophkigihfjoaaDoorTwoC
import Derived.Test.YtpophkigihfjoaaDoorTwoB
/- The walk of read at the books' marker. -/
namespace Go.Proofs.YtpophkigihfjoaaDoor
open Go.RowKit
set_option maxRecDepth 100000

def dhtBody : List Int := ([0] ++ cnt0 ++ val0) ++ ([16] ++ cnt1 ++ val1) ++ ([1] ++ cnt2 ++ val2) ++ ([17] ++ cnt3 ++ val3)

theorem dhtBody_length : dhtBody.length = 416 := by decide +kernel

/-- One book's bytes from o on. -/
structure BookIn (o : Nat) (d : Int) (cnt val : List Int) (n : Nat) : Prop where
  id : dhtBody.getD o 0 = d
  cs : ∀ i, i < 16 → dhtBody.getD (o + (i + 1)) 0 = cnt.getD i 0
  vs : ∀ i, i < n → dhtBody.getD (o + 17 + i) 0 = val.getD i 0
  len : val.length = n
  sum : kAt cnt 16 = n
  fit : o + 17 + n ≤ 416

theorem bookIn0 : BookIn 0 0 cnt0 val0 12 := ⟨by decide +kernel, by decide +kernel, by decide +kernel, by decide +kernel, by decide +kernel, by decide⟩
theorem bookIn1 : BookIn 29 16 cnt1 val1 162 := ⟨by decide +kernel, by decide +kernel, by decide +kernel, by decide +kernel, by decide +kernel, by decide⟩
theorem bookIn2 : BookIn 208 1 cnt2 val2 12 := ⟨by decide +kernel, by decide +kernel, by decide +kernel, by decide +kernel, by decide +kernel, by decide⟩
theorem bookIn3 : BookIn 237 17 cnt3 val3 162 := ⟨by decide +kernel, by decide +kernel, by decide +kernel, by decide +kernel, by decide +kernel, by decide⟩

/-- The book's cells when i counts have been stored. -/
def bookZ (cnt : List Int) (i : Nat) : List Value := (0 :: (cnt.take i ++ List.replicate (16 - i) 0)).map I64 ++ [.slice none 0 0]

theorem bookZ_set {cnt : List Int} (hl : cnt.length = 16) {i : Nat} (hi : i < 16) : (bookZ cnt i).set (i + 1) (I64 (cnt.getD i 0)) = bookZ cnt (i + 1) := by
  unfold bookZ
  rw [List.map_cons, List.cons_append, List.set_cons_succ, List.map_cons, List.cons_append]
  congr 1
  rw [List.set_append_left _ _ (by simp [hl]; omega), ← List.map_set]
  congr 2
  rw [List.set_append_right _ _ (by simp [hl]; omega), show i - (cnt.take i).length = 0 by simp [hl]; omega, show 16 - i = (16 - (i + 1)) + 1 by omega, List.replicate_succ, List.set_cons_zero,
    List.take_succ_eq_append_getElem (by omega), List.append_assoc, List.getD_eq_getElem?_getD, List.getElem?_eq_getElem (by omega)]
  rfl

theorem bookZ_length {cnt : List Int} (hl : cnt.length = 16) {i : Nat} (hi : i ≤ 16) : (bookZ cnt i).length = 18 := by
  simp [bookZ, hl]; omega

theorem bookZ_full {cnt : List Int} (hl : cnt.length = 16) : bookZ cnt 16 = (0 :: cnt).map I64 ++ [.slice none 0 0] := by
  simp [bookZ, List.take_of_length_le (Nat.le_of_eq hl)]

def CntRel (w0 : World) (BB : Nat) (cnt : List Int) (n l : Value) (wr : World) : Prop :=
  ∃ i : Nat, i ≤ 16 ∧ l = .int .i64 ((i + 1 : Nat) : Int) ∧ n = .int .i64 ((kAt cnt i : Nat) : Int) ∧ Blk wr BB (bookZ cnt i) 111 ∧ Fr (· = BB) w0 wr

def SybRel (w0 : World) (BB : Nat) (cnt val : List Int) (j : Value) (wr : World) : Prop :=
  ∃ (i : Nat) (v : Value), i ≤ val.length ∧ j = .int .i64 i ∧ Blk wr BB ((0 :: cnt).map I64 ++ [v]) 111 ∧ wr.ownsRow w0.heap.size 3 1 v i ((val.take i).map I64) ∧ Fr (· = BB) w0 wr

theorem cnt_step {w0 wr : World} {BB i : Nat} {cnt : List Int} (hl : cnt.length = 16) (hi : i < 16) (hc : 0 ≤ cnt.getD i 0) (hb : Blk wr BB (bookZ cnt i) 111) (hf : Fr (· = BB) w0 wr) :
    CntRel w0 BB cnt (.int .i64 ((kAt cnt i : Nat) + cnt.getD i 0)) (.int .i64 ((i + 1 + 1 : Nat) : Int)) (wr.setCell ⟨BB, i + 1, none⟩ (.int .i64 (cnt.getD i 0))) := by
  refine ⟨i + 1, by omega, rfl, ?_, ?_, hf.setCell (a := ⟨BB, i + 1, none⟩) (fun _ => rfl) _⟩
  · simp only [kAt]
    congr 1
    push_cast
    omega
  · have := hb.set (i + 1) (I64 (cnt.getD i 0))
    rw [bookZ_set hl hi] at this
    exact this

theorem info3 : (Tryd.prog.info? 3).map (fun i => (i.zero, i.size, i.bytes)) = some (some (.int .i64 0), 1, 8) := by kernel_rfl

theorem und22 : Tryd.prog.underlying 22 = some (.slice 3) := by kernel_rfl

structure SybRdy (w0 wc wa : World) (BB : Nat) (cs : List Value) (v : Value) (k : Nat) (xs : List Value) (x : Value) : Prop where
  own : wa.ownsRow w0.heap.size 3 1 v k xs
  size : w0.heap.size ≤ wa.heap.size
  tb : Blk wa BB cs 111
  fr : Fr (· = BB) w0 wa
  new : ∀ j u, [x][j]? = some u → wa.cell? ((⟨wc.heap.size, 0, none⟩ : Addr).add j) = some u

theorem syb_ready {w0 wr : World} {BB k : Nat} {v : Value} {cs xs : List Value} (ho : wr.ownsRow w0.heap.size 3 1 v k xs) (hb : Blk wr BB cs 111) (hf : Fr (· = BB) w0 wr) (x : Value) :
    SybRdy w0 wr (wr.alloc (.cells #[x] 3)) BB cs v k xs x :=
  ⟨ownsRow_of_block ho (fun k hk => Below.heap_alloc _ _ _ (ho.lt k hk).2), (hf.alloc _).size, hb.alloc _, hf.alloc _, new_cells wr [x] 3⟩

theorem SybRdy.grown {w0 wc wa w1 : World} {BB k : Nat} {v : Value} {cs xs : List Value} {x : Value} (h : SybRdy w0 wc wa BB cs v k xs x) (hBB : BB < w0.heap.size) (hg : wa.grownBy w1 v.ownBlock) : Blk w1 BB cs 111 ∧ Fr (· = BB) w0 w1 := by
  have hlow : ∀ k, v.ownBlock = some k → w0.heap.size ≤ k := fun k hk => (h.own.lt k hk).1
  refine ⟨Blk.of_heap h.tb (hg.block BB h.tb.lt (fun e => by have := hlow BB e.symm; omega)), h.fr.grown hg (fun k hk e => by have := hlow k e; omega)⟩

theorem syb_more {w0 w1 : World} {BB i : Nat} {cnt val : List Int} {v v' : Value} (hl : cnt.length = 16) (hBB : BB < w0.heap.size) (hi : i < val.length) (b1 : Blk w1 BB ((0 :: cnt).map I64 ++ [v]) 111) (f1 : Fr (· = BB) w0 w1)
    (hown : w1.ownsRow w0.heap.size 3 1 v' (i + 1) ((val.take i).map I64 ++ [.int .i64 (val.getD i 0)])) : SybRel w0 BB cnt val (.int .i64 ((i : Int) + 1)) (w1.setCell ⟨BB, 17, none⟩ v') := by
  refine ⟨i + 1, v', hi, by push_cast; rfl, ?_, ?_, f1.setCell (a := ⟨BB, 17, none⟩) (fun _ => rfl) v'⟩
  · have := b1.set 17 v'
    rwa [List.set_append_right _ _ (by simp [hl]), show 17 - ((0 :: cnt).map I64).length = 0 by simp [hl], List.set_cons_zero] at this
  · have e : (val.take (i + 1)).map I64 = (val.take i).map I64 ++ [.int .i64 (val.getD i 0)] := by
      rw [List.take_succ_eq_append_getElem hi, List.map_append, List.getD_eq_getElem?_getD, List.getElem?_eq_getElem hi]; rfl
    rw [e]
    refine ownsRow_of_block hown (fun k hk => heap_setCell_other _ _ _ _ (fun e => ?_))
    have := (hown.lt k hk).1
    have e : k = BB := e
    omega

theorem book_of {w : World} {base n : Nat} {sa : Option Addr} {sc : Nat} {val : List Int} (h : w.ownsRow base 3 1 (.slice sa n sc) n (val.map I64)) (hn : 0 < n) (hl : val.length = n) :
    ∃ SB, sa = some ⟨SB, 0, none⟩ ∧ BookW w SB n val ∧ base ≤ SB := by
  have hc := fun g hg => h.cells (g := g) hg
  have hlt := h.lt
  rcases h.2 with ⟨h1, h2⟩ | ⟨g, cap, cur, hv, hbg, hg, hnc, hcm, hcs, htake⟩
  · omega
  · injection hv with e1 e2 e3
    subst e1
    refine ⟨g, rfl, ⟨hl, fun j hj => ?_, (hlt g rfl).2⟩, hbg⟩
    have := hc g rfl j (I64 (val.getD j 0)) (by rw [List.getElem?_map, List.getD_eq_getElem?_getD, List.getElem?_eq_getElem (by omega)]; rfl)
    have e : ((⟨g, 0, none⟩ : Addr).add j) = ⟨g, j, none⟩ := by rcases j with _ | j <;> simp [Addr.add]
    rwa [e] at this

theorem exec_load_row {P : Program} {w : World} {o : Oper} {f : Operand → Value} (ty : TypeId) (x : Operand) (ho : o.op = .load ty x)
    (g : Nat) (hx : f x = .pointer (some ⟨g, 0, none⟩)) (t : TypeId) (cs : Array Value) (fr : Nat × Nat) (d : TypeDesc) (hg : w.heap[g]? = some (.cells cs t fr))
    (hu : P.underlying ty = some d) (hd : (match d with | .struct _ | .array _ _ => true | _ => false) = true) (hi : (P.info? ty).map (·.size) = some cs.size) :
    (execOp f o).run P w = .ok (.value (.agg cs)) w := by
  unfold execOp
  simp only [ho, hx, Instr.loadAt, Instr.sureAddr, Sem.run_bind, Sem.run_pure, Result.andThen_ok, run_loadVar_row w g t ty cs fr d hg hu hd hi]

theorem round_end {wc w0 ws wr w1 : World} {TB BB s : Nat} (hBB : wc.heap.size = BB) (f0 : Fr (fun _ => False) wc w0) (fK : Fr (· = BB) w0 ws) (fS : Fr (· = BB) ws wr) (f1 : Fr (fun _ => False) wr w1) (v : Value) :
    Fr (· = TB) wc (w1.setCell ⟨TB, s, none⟩ v) :=
  ((((f0.mono (S := (· = TB)) (fun _ _ e => e.elim)).trans fK (fun k hk e => by have : k = BB := e; omega)).trans fS (fun k hk e => by have : k = BB := e; omega)).trans f1 (fun _ _ e => e.elim)).setCell (a := ⟨TB, s, none⟩) (fun _ => rfl) v

def DhtPost (w : World) (TB : Nat) (W H : Int) (cv tv sv m2 m3 m6 m7 : Value) (e : Ending) (w' : World) : Prop :=
  e = .returned (.bool true) ∧ ∃ M0 M1 M2 M3 : Nat, Blk w' TB (tblC W H cv tv [.map (some M0), .map (some M2), m2, m3, .map (some M1), .map (some M3), m6, m7] sv) 66 ∧
    MapIs w' M0 (entOut cnt0 val0 16) ∧ MapIs w' M1 (entOut cnt1 val1 16) ∧ MapIs w' M2 (entOut cnt2 val2 16) ∧ MapIs w' M3 (entOut cnt3 val3 16) ∧ Fr (· = TB) w w'

theorem alloc_all {w : World} {b : Addr} {x : Value} (h : w.cell? b = some x) : ∀ o, (w.alloc o).cell? b = some x := fun o => alloc_cell o h

set_option maxHeartbeats 4000000 in
theorem read_dht {w : World} {TB g off C : Nat} {W H : Int} {cv tv sv m0 m1 m2 m3 m4 m5 m6 m7 : Value} (ht : Blk w TB (tblC W H cv tv [m0, m1, m2, m3, m4, m5, m6, m7] sv) 66) (hb : BodyW w g off dhtBody) (hne : g ≠ TB) (hC : 416 ≤ C) :
    Calls Tryd.prog 13 #[.pointer (some ⟨TB, 0, none⟩), .agg #[.int .i64 196, .slice (some ⟨g, off, none⟩) 416 C]] w (DhtPost w TB W H cv tv sv m2 m3 m6 m7) := by
  have f0 : Fr (fun k => k = TB) w (w.alloc (.cells #[.int .i64 196, .slice (some ⟨g, off, none⟩) 416 C] 68)) := (Fr.refl _ w).alloc _
  have HTB := hu ht.lt
  have ht1 := ht.alloc (.cells #[.int .i64 196, .slice (some ⟨g, off, none⟩) 416 C] 68)
  have hb1 := hb.frame ((Fr.refl (fun _ => False) w).alloc (.cells #[.int .i64 196, .slice (some ⟨g, off, none⟩) 416 C] 68)) (fun e => e)
  clear ht hb
  go_enter Tryd.func13, Tryd.ntmps13
  go_wp2
  obtain ⟨wc, hwc⟩ : ∃ z, w.alloc (.cells #[.int .i64 196, .slice (some ⟨g, off, none⟩) 416 C] 68) = z := ⟨_, rfl⟩
  rw [hwc] at f0 ht1 hb1
  simp only [hwc]
  clear hwc
  have HT := hu ht1
  have HB := hu hb1
  have HF := hu f0
  clear f0 ht1 hb1
  refine wp_loop_rounds 5 ?_
  have d0 := (HB.out ()).cell 0 (by rw [dhtBody_length]; omega)
  rw [bookIn0.id] at d0
  simp only [Nat.add_zero] at d0
  have zb : Blk (wc.alloc (.cells (bookZ cnt0 0).toArray 111)) wc.heap.size (bookZ cnt0 0) 111 := Blk.new wc _ 111
  have hlB := (HB.out ()).lt
  have hlT := (HT.out ()).lt
  rw [rounds_succ]
  go_wp2
  obtain ⟨w0, hw0⟩ : ∃ z, wc.alloc (.cells (bookZ cnt0 0).toArray 111) = z := ⟨_, rfl⟩
  have hf0 : Fr (fun _ => False) wc w0 := by rw [← hw0]; exact (Fr.refl _ _).alloc _
  rw [hw0] at zb
  simp only [show wc.alloc (Obj.cells #[Value.int IntKind.i64 0, Value.int IntKind.i64 0, Value.int IntKind.i64 0, Value.int IntKind.i64 0, Value.int IntKind.i64 0, Value.int IntKind.i64 0, Value.int IntKind.i64 0, Value.int IntKind.i64 0, Value.int IntKind.i64 0, Value.int IntKind.i64 0, Value.int IntKind.i64 0, Value.int IntKind.i64 0, Value.int IntKind.i64 0, Value.int IntKind.i64 0, Value.int IntKind.i64 0, Value.int IntKind.i64 0, Value.int IntKind.i64 0, Value.slice none 0 0] 111) = w0 from hw0]
  obtain ⟨BB, hBB⟩ : ∃ z, wc.heap.size = z := ⟨_, rfl⟩
  rw [hBB] at zb hlB hlT
  simp only [hBB]
  have HB0 := hu ((HB.out ()).frame hf0 (fun e => e))
  have HT0 := hu (Blk.of_heap (HT.out ()) (hf0.block TB (HT.out ()).lt (fun e => e)))
  have HF0 := hu ((HF.out ()).trans hf0 (fun _ _ e => e.elim))
  have ZB := hu zb
  have hgB : g ≠ BB := by omega
  have hTB : TB ≠ BB := by omega
  have HFW := hu hf0
  clear d0 zb hlB hlT hf0 hw0
  go_loopw [7, 9] (fun n l wr => CntRel w0 BB cnt0 n l wr) (fun _ l _ => 17 - (intOf l).toNat)
  case atStart => exact ⟨0, by omega, rfl, rfl, ZB.out (), Fr.refl _ _⟩
  case round =>
    obtain ⟨i, hi, rfl, rfl, hb, hf⟩ := hrel
    by_cases hi16 : i < 16
    · have hcb := ok0.cb i hi16
      have hcell := ((HB0.out ()).frame hf hgB).cell (0 + (i + 1)) (by rw [dhtBody_length]; omega)
      rw [bookIn0.cs i hi16] at hcell
      rw [Nat.zero_add] at hcell
      have hk := ok0.kb i hi16
      have hvl := ok0.vl
      have hz := hb.frozen (i + 1)
      have hx : i + 1 < (bookZ cnt0 i).length := by rw [bookZ_length ok0.cl hi]; omega
      obtain ⟨q, hq⟩ : ∃ q, wr.cell? ⟨BB, i + 1, none⟩ = some q := ⟨_, hb.cellv (i + 1) (List.getElem?_eq_getElem hx)⟩
      have HBK := hu hb
      have HFK := hu hf
      obtain ⟨c, hc⟩ : ∃ c, cnt0.getD i 0 = c := ⟨_, rfl⟩
      obtain ⟨kk, hkk⟩ : ∃ kk, kAt cnt0 i = kk := ⟨_, rfl⟩
      rw [hc] at hcb hcell hk
      rw [hkk] at hk ⊢
      have HC := hu hc
      have HKK := hu hkk
      obtain ⟨hc0, hc1⟩ := hcb
      clear hb hf hx hc hkk
      go_wp2
      go_roundw
      case rel =>
        have := cnt_step (w0 := w0) ok0.cl hi16 (by rw [HC.out ()]; exact hc0) (HBK.out ()) (HFK.out ())
        rw [HC.out (), HKK.out ()] at this
        have ew : wrap64 ((kk : Int) + c) = (kk : Int) + c := IntWalk.wrap64_in _ ⟨by omega, by omega⟩
        first | (simpa using this) | (simpa [ew] using this)
      case measure => simp [intOf]; omega
    · obtain rfl : i = 16 := by omega
      rw [bookIn0.sum]
      rw [bookZ_full ok0.cl] at hb
      have c17 := hb.cellv 17 (v := .slice none 0 0) (by rw [List.getElem?_append_right (by simp [ok0.cl])]; simp [ok0.cl])
      have HBK := hu hb
      have HFK := hu hf
      have hBl := hb.lt
      have hBz := (HFK.out ()).size
      clear hb hf
      go_wp2
      clear c17
      obtain ⟨ws, rfl⟩ : ∃ z, z = wr := ⟨_, rfl⟩
      go_loopw [117, 11] (fun j _ wz => SybRel ws BB cnt0 val0 j wz) (fun j _ _ => 12 - (intOf j).toNat)
      case atStart => exact ⟨0, .slice none 0 0, by omega, rfl, HBK.out (), World.ownsRow_nil _ _ _ _, Fr.refl _ _⟩
      case round =>
        obtain ⟨i, v, hi, rfl, hb, hown, hf⟩ := hrel
        rw [bookIn0.len] at hi
        obtain ⟨sa, sc, rfl⟩ := ownsRow_slice hown
        by_cases hin : i < 12
        · have hcell := (((HB0.out ()).frame (HFK.out ()) hgB).frame hf hgB).cell (17 + i) (by rw [dhtBody_length]; omega)
          rw [show 17 + i = 0 + 17 + i by omega, bookIn0.vs i hin, show 0 + 17 + i = 17 + i by omega, ← Nat.add_assoc off 17 i] at hcell
          have c17 := hb.cellv 17 (v := .slice sa i sc) (by rw [List.getElem?_append_right (by simp [ok0.cl])]; simp [ok0.cl])
          have hvb := ok0.vb i (by rw [bookIn0.len]; exact hin)
          obtain ⟨x, hx⟩ : ∃ x, val0.getD i 0 = x := ⟨_, rfl⟩
          rw [hx] at hcell hvb
          have RD := hu (syb_ready hown hb hf (.int .i64 x))
          have HX := hu hx
          obtain ⟨hx0, hx1, _⟩ := hvb
          have ML := hu (show i + 1 ≤ maxLen by unfold maxLen; omega)
          have BL := hu (show (i + 1) * 8 ≤ 140737488355328 by omega)
          obtain ⟨i0, hi3, hz0, hz1, hz2⟩ := info_parts info3
          clear hb hown hf hx
          go_upto_region 28 with (fail)
          go_wp2_with (at_builtin; refine wpList_append_moved _ rfl (.tmp 122) (.tmp 125) 22 rfl ws.heap.size 3 i0 (.int .i64 0) 1 8 und22 hi3 hz0 hz1 hz2 rfl (by decide) _ _ _ rfl (RD.out ()).own _ 1 1 [.int .i64 x] rfl rfl (RD.out ()).new ?c1 (ML.out ()) (BL.out ()) (RD.out ()).size ?_)
          case c1 => intro u hu; simp at hu; subst hu; rfl
          intro v' w1 hown hg _
          obtain ⟨a', c', rfl⟩ := ownsRow_slice hown
          have hgr := (RD.out ()).grown hBl hg
          have y17 := hgr.1.cellv 17 (v := .slice sa i sc) (by rw [List.getElem?_append_right (by simp [ok0.cl])]; simp [ok0.cl])
          have z17 := hgr.1.frozen 17
          have HGR := hu hgr
          have HOWN := hu hown
          clear hgr hown hg
          go_wp2
          go_roundw
          case rel =>
            have hrl := syb_more ok0.cl hBl (by rw [bookIn0.len]; exact hin) (HGR.out ()).1 (HGR.out ()).2 (by rw [HX.out (), List.map_take]; exact HOWN.out ())
            first | exact hrl | ((repeat apply Exists.intro); exact ⟨hrl, rfl⟩)
          case measure => simp [intOf]; omega
        · obtain rfl : i = 12 := by omega
          rw [List.take_of_length_le (Nat.le_of_eq bookIn0.len)] at hown
          obtain ⟨SB, hsa, hBW, hSB⟩ := book_of hown (by omega) bookIn0.len
          subst hsa
          go_upto_region 30 with (fail)
          obtain ⟨fs, und⟩ := und111
          have hbc : Blk wr BB (bookC cnt0 SB 12 sc) 111 := hb
          have hbd := ((HB0.out ()).frame (HFK.out ()) hgB).frame hf hgB
          have dd := hbd.cell 0 (by rw [dhtBody_length]; omega)
          rw [bookIn0.id] at dd
          simp only [Nat.add_zero] at dd
          have andd : bits BinOp.and IntKind.u8 0 15 = 0 := by decide
          have HBD := hu hbd
          have HBC := hu hbc
          have HBW := hu hBW
          have HFS := hu hf
          clear hbd hbc hBW hf hb hown
          refine wp_region_takes 14 17 (fun w' => w'.heap[BB]? = some (.cells (bookC cnt0 SB 12 sc).toArray 111 (0, 0)) ∧ w'.cell? ⟨g, off, none⟩ = some (.int .u8 0)) (by kernel_rfl) (by kernel_rfl) (by kernel_rfl) (by kernel_rfl) (by decide) rfl (fun c a a' w e h => ⟨e.symm.trans h.1, h.2⟩) ⟨HBC.out (), dd⟩ ?_
          simp only [List.take_succ_cons, List.take_zero]
          iterate 13
            refine chainY_cons (v := ?_) rfl (fun w' hS => ?_) ?_
            rotate_left
            · obtain ⟨s0, s1⟩ := hS
              go_simp
              try with_reducible rfl
            simp only [Act.put, List.setIfInBounds_toArray, List.set_cons_zero, List.set_cons_succ]
          refine chainY_cons (v := .agg (bookC cnt0 SB 12 sc).toArray) rfl (fun w' hS => ?_) ?_
          · exact exec_load_row 111 (.tmp 8) (by rfl) BB (by rfl) 111 _ (0, 0) _ hS.1 und rfl (size111 cnt0 SB 12 sc ok0.cl)
          simp only [Act.put, List.setIfInBounds_toArray, List.set_cons_zero, List.set_cons_succ]
          refine chainY_nil ?_
          refine wpAnyH_takeL (v := ?_) 15 rfl (by kernel_rfl) (by kernel_rfl) (by kernel_rfl) (fun c a a' w e h => ⟨e.symm.trans h.1, h.2⟩) rfl (fun w' hS => ?_) ⟨HBC.out (), dd⟩ ?_
          rotate_left
          · go_simp
            try with_reducible rfl
          simp only [Act.put, List.setIfInBounds_toArray, List.set_cons_zero, List.set_cons_succ]
          refine wpAnyH_takeL (v := ?_) 16 rfl (by kernel_rfl) (by kernel_rfl) (by kernel_rfl) (fun c a a' w e h => ⟨e.symm.trans h.1, h.2⟩) rfl (fun w' hS => ?_) ⟨HBC.out (), dd⟩ ?_
          rotate_left
          · go_simp
            try with_reducible rfl
          simp only [Act.put, List.setIfInBounds_toArray, List.set_cons_zero, List.set_cons_succ]
          refine wpAnyH_next 14 rfl (by kernel_rfl) (fun K hK => ?_)
          go_simp
          refine (turned_any (cap := sc) ok0 ((HBW.out ()).frame ((Fr.refl (fun _ => False) wr).drew) (fun e => e)) eok0).mono ?_
          rintro e w1 ⟨M, rfl, hM, hmap, hf1⟩
          have HM1 := hu hmap
          have HF1 := hu (Fr.from hf1 (by rfl) (by rfl) (by rfl) (by rfl) : Fr (fun _ => False) wr w1)
          have hT1 := Blk.of_heap (Blk.of_heap (Blk.of_heap (HT0.out ()) ((HFK.out ()).block TB (HT0.out ()).lt hTB)) ((HFS.out ()).block TB (Nat.lt_of_lt_of_le (HT0.out ()).lt (HFK.out ()).size) hTB)) ((HF1.out ()).block TB (Nat.lt_of_lt_of_le (Nat.lt_of_lt_of_le (HT0.out ()).lt (HFK.out ()).size) (HFS.out ()).size) (fun e => e))
          refine hK _ _ ⟨((HF1.out ()).block BB (HBC.out ()).lt (fun e => e)).trans (HBC.out ()), ((HBD.out ()).frame (HF1.out ()) (fun e => e)).cell 0 (by rw [dhtBody_length]; omega)⟩ ?_
          have y := hT1.cellv 4 rfl
          have z := hT1.frozen 4
          have HT1 := hu hT1
          have hMT : M ≠ TB := by have h1 : wr.heap.size ≤ M := hM; have h2 := (HT0.out ()).lt; have h3 := (HFK.out ()).size; have h4 := (HFS.out ()).size; omega
          clear hK K hT1 hM hmap hf1 dd
          refine wpAnyH_done (by kernel_rfl) ?_ 0
          simp only [Tail, List.drop_succ_cons, List.drop_zero]
          go_wp2
          have FRn := round_end hBB (HFW.out ()) (HFK.out ()) (HFS.out ()) (HF1.out ()) (TB := TB) (s := 4) (.map (some M))
          have hTn : Blk (w1.setCell ⟨TB, 4, none⟩ (.map (some M))) TB (tblC W H cv tv [.map (some M), m1, m2, m3, m4, m5, m6, m7] sv) 66 := (HT1.out ()).set 4 _
          have hMn := (HM1.out ()).of_heap (heap_setCell_other w1 ⟨TB, 4, none⟩ M (.map (some M)) hMT)
          have hBn := (HB.out ()).frame FRn hne
          have hFn := (HF.out ()).trans FRn (fun _ _ e => e)
          obtain ⟨wn, hwn⟩ : ∃ z, w1.setCell ⟨TB, 4, none⟩ (.map (some M)) = z := ⟨_, rfl⟩
          rw [hwn] at FRn hTn hMn hBn hFn
          simp only [hwn]
          clear HT HB HF HB0 HT0 HF0 ZB HFW HBK HFK HBD HBC HBW HFS HM1 HF1 HT1 y z andd und fs hSB hwn FRn hgB hTB hBl hBz
          have HT := hu hTn
          have HB := hu hBn
          have HF := hu hFn
          have HMP0 := hu hMn
          have hMT0 : M ≠ TB := hMT
          clear hMT hTn hBn hFn hMn
          obtain ⟨M0, hMr⟩ : ∃ z, z = M := ⟨_, rfl⟩
          subst hMr
          obtain ⟨wc, hwc⟩ : ∃ z, z = wn := ⟨_, rfl⟩
          subst hwc
          have d0 := (HB.out ()).cell 29 (by rw [dhtBody_length]; omega)
          rw [bookIn1.id] at d0
          have zb : Blk (wc.alloc (.cells (bookZ cnt1 0).toArray 111)) wc.heap.size (bookZ cnt1 0) 111 := Blk.new wc _ 111
          have hlB := (HB.out ()).lt
          have hlT := (HT.out ()).lt
          rw [rounds_succ]
          go_wp2
          obtain ⟨w0, hw0⟩ : ∃ z, wc.alloc (.cells (bookZ cnt1 0).toArray 111) = z := ⟨_, rfl⟩
          have hf0 : Fr (fun _ => False) wc w0 := by rw [← hw0]; exact (Fr.refl _ _).alloc _
          rw [hw0] at zb
          simp only [show wc.alloc (Obj.cells #[Value.int IntKind.i64 0, Value.int IntKind.i64 0, Value.int IntKind.i64 0, Value.int IntKind.i64 0, Value.int IntKind.i64 0, Value.int IntKind.i64 0, Value.int IntKind.i64 0, Value.int IntKind.i64 0, Value.int IntKind.i64 0, Value.int IntKind.i64 0, Value.int IntKind.i64 0, Value.int IntKind.i64 0, Value.int IntKind.i64 0, Value.int IntKind.i64 0, Value.int IntKind.i64 0, Value.int IntKind.i64 0, Value.int IntKind.i64 0, Value.slice none 0 0] 111) = w0 from hw0]
          obtain ⟨BB, hBB⟩ : ∃ z, wc.heap.size = z := ⟨_, rfl⟩
          rw [hBB] at zb hlB hlT
          simp only [hBB]
          have HB0 := hu ((HB.out ()).frame hf0 (fun e => e))
          have HT0 := hu (Blk.of_heap (HT.out ()) (hf0.block TB (HT.out ()).lt (fun e => e)))
          have HF0 := hu ((HF.out ()).trans hf0 (fun _ _ e => e.elim))
          have ZB := hu zb
          have hgB : g ≠ BB := by omega
          have hTB : TB ≠ BB := by omega
          have HFW := hu hf0
          clear d0 zb hlB hlT hf0 hw0
          go_loopw [7, 9] (fun n l wr => CntRel w0 BB cnt1 n l wr) (fun _ l _ => 17 - (intOf l).toNat)
          case atStart => exact ⟨0, by omega, rfl, rfl, ZB.out (), Fr.refl _ _⟩
          case round =>
            obtain ⟨i, hi, rfl, rfl, hb, hf⟩ := hrel
            by_cases hi16 : i < 16
            · have hcb := ok1.cb i hi16
              have hcell := ((HB0.out ()).frame hf hgB).cell (29 + (i + 1)) (by rw [dhtBody_length]; omega)
              rw [bookIn1.cs i hi16] at hcell
              rw [← Nat.add_assoc off 29 (i + 1)] at hcell
              have hk := ok1.kb i hi16
              have hvl := ok1.vl
              have hz := hb.frozen (i + 1)
              have hx : i + 1 < (bookZ cnt1 i).length := by rw [bookZ_length ok1.cl hi]; omega
              obtain ⟨q, hq⟩ : ∃ q, wr.cell? ⟨BB, i + 1, none⟩ = some q := ⟨_, hb.cellv (i + 1) (List.getElem?_eq_getElem hx)⟩
              have HBK := hu hb
              have HFK := hu hf
              obtain ⟨c, hc⟩ : ∃ c, cnt1.getD i 0 = c := ⟨_, rfl⟩
              obtain ⟨kk, hkk⟩ : ∃ kk, kAt cnt1 i = kk := ⟨_, rfl⟩
              rw [hc] at hcb hcell hk
              rw [hkk] at hk ⊢
              have HC := hu hc
              have HKK := hu hkk
              obtain ⟨hc0, hc1⟩ := hcb
              clear hb hf hx hc hkk
              go_wp2
              go_roundw
              case rel =>
                have := cnt_step (w0 := w0) ok1.cl hi16 (by rw [HC.out ()]; exact hc0) (HBK.out ()) (HFK.out ())
                rw [HC.out (), HKK.out ()] at this
                have ew : wrap64 ((kk : Int) + c) = (kk : Int) + c := IntWalk.wrap64_in _ ⟨by omega, by omega⟩
                first | (simpa using this) | (simpa [ew] using this)
              case measure => simp [intOf]; omega
            · obtain rfl : i = 16 := by omega
              rw [bookIn1.sum]
              rw [bookZ_full ok1.cl] at hb
              have c17 := hb.cellv 17 (v := .slice none 0 0) (by rw [List.getElem?_append_right (by simp [ok1.cl])]; simp [ok1.cl])
              have HBK := hu hb
              have HFK := hu hf
              have hBl := hb.lt
              have hBz := (HFK.out ()).size
              clear hb hf
              go_wp2
              clear c17
              obtain ⟨ws, rfl⟩ : ∃ z, z = wr := ⟨_, rfl⟩
              go_loopw [117, 11] (fun j _ wz => SybRel ws BB cnt1 val1 j wz) (fun j _ _ => 162 - (intOf j).toNat)
              case atStart => exact ⟨0, .slice none 0 0, by omega, rfl, HBK.out (), World.ownsRow_nil _ _ _ _, Fr.refl _ _⟩
              case round =>
                obtain ⟨i, v, hi, rfl, hb, hown, hf⟩ := hrel
                rw [bookIn1.len] at hi
                obtain ⟨sa, sc, rfl⟩ := ownsRow_slice hown
                by_cases hin : i < 162
                · have hcell := (((HB0.out ()).frame (HFK.out ()) hgB).frame hf hgB).cell (46 + i) (by rw [dhtBody_length]; omega)
                  rw [show 46 + i = 29 + 17 + i by omega, bookIn1.vs i hin, show 29 + 17 + i = 46 + i by omega, ← Nat.add_assoc off 46 i] at hcell
                  have c17 := hb.cellv 17 (v := .slice sa i sc) (by rw [List.getElem?_append_right (by simp [ok1.cl])]; simp [ok1.cl])
                  have hvb := ok1.vb i (by rw [bookIn1.len]; exact hin)
                  obtain ⟨x, hx⟩ : ∃ x, val1.getD i 0 = x := ⟨_, rfl⟩
                  rw [hx] at hcell hvb
                  have RD := hu (syb_ready hown hb hf (.int .i64 x))
                  have HX := hu hx
                  obtain ⟨hx0, hx1, _⟩ := hvb
                  have ML := hu (show i + 1 ≤ maxLen by unfold maxLen; omega)
                  have BL := hu (show (i + 1) * 8 ≤ 140737488355328 by omega)
                  obtain ⟨i0, hi3, hz0, hz1, hz2⟩ := info_parts info3
                  clear hb hown hf hx
                  go_upto_region 28 with (fail)
                  go_wp2_with (at_builtin; refine wpList_append_moved _ rfl (.tmp 122) (.tmp 125) 22 rfl ws.heap.size 3 i0 (.int .i64 0) 1 8 und22 hi3 hz0 hz1 hz2 rfl (by decide) _ _ _ rfl (RD.out ()).own _ 1 1 [.int .i64 x] rfl rfl (RD.out ()).new ?c1 (ML.out ()) (BL.out ()) (RD.out ()).size ?_)
                  case c1 => intro u hu; simp at hu; subst hu; rfl
                  intro v' w1 hown hg _
                  obtain ⟨a', c', rfl⟩ := ownsRow_slice hown
                  have hgr := (RD.out ()).grown hBl hg
                  have y17 := hgr.1.cellv 17 (v := .slice sa i sc) (by rw [List.getElem?_append_right (by simp [ok1.cl])]; simp [ok1.cl])
                  have z17 := hgr.1.frozen 17
                  have HGR := hu hgr
                  have HOWN := hu hown
                  clear hgr hown hg
                  go_wp2
                  go_roundw
                  case rel =>
                    have hrl := syb_more ok1.cl hBl (by rw [bookIn1.len]; exact hin) (HGR.out ()).1 (HGR.out ()).2 (by rw [HX.out (), List.map_take]; exact HOWN.out ())
                    first | exact hrl | ((repeat apply Exists.intro); exact ⟨hrl, rfl⟩)
                  case measure => simp [intOf]; omega
                · obtain rfl : i = 162 := by omega
                  rw [List.take_of_length_le (Nat.le_of_eq bookIn1.len)] at hown
                  obtain ⟨SB, hsa, hBW, hSB⟩ := book_of hown (by omega) bookIn1.len
                  subst hsa
                  go_upto_region 30 with (fail)
                  obtain ⟨fs, und⟩ := und111
                  have hbc : Blk wr BB (bookC cnt1 SB 162 sc) 111 := hb
                  have hbd := ((HB0.out ()).frame (HFK.out ()) hgB).frame hf hgB
                  have dd := hbd.cell 29 (by rw [dhtBody_length]; omega)
                  rw [bookIn1.id] at dd
                  have andd : bits BinOp.and IntKind.u8 16 15 = 0 := by decide
                  have HBD := hu hbd
                  have HBC := hu hbc
                  have HBW := hu hBW
                  have HFS := hu hf
                  clear hbd hbc hBW hf hb hown
                  refine wp_region_takes 14 17 (fun w' => w'.heap[BB]? = some (.cells (bookC cnt1 SB 162 sc).toArray 111 (0, 0)) ∧ w'.cell? ⟨g, off + 29, none⟩ = some (.int .u8 16)) (by kernel_rfl) (by kernel_rfl) (by kernel_rfl) (by kernel_rfl) (by decide) rfl (fun c a a' w e h => ⟨e.symm.trans h.1, h.2⟩) ⟨HBC.out (), dd⟩ ?_
                  simp only [List.take_succ_cons, List.take_zero]
                  iterate 13
                    refine chainY_cons (v := ?_) rfl (fun w' hS => ?_) ?_
                    rotate_left
                    · obtain ⟨s0, s1⟩ := hS
                      go_simp
                      try with_reducible rfl
                    simp only [Act.put, List.setIfInBounds_toArray, List.set_cons_zero, List.set_cons_succ]
                  refine chainY_cons (v := .agg (bookC cnt1 SB 162 sc).toArray) rfl (fun w' hS => ?_) ?_
                  · exact exec_load_row 111 (.tmp 8) (by rfl) BB (by rfl) 111 _ (0, 0) _ hS.1 und rfl (size111 cnt1 SB 162 sc ok1.cl)
                  simp only [Act.put, List.setIfInBounds_toArray, List.set_cons_zero, List.set_cons_succ]
                  refine chainY_nil ?_
                  refine wpAnyH_takeL (v := ?_) 15 rfl (by kernel_rfl) (by kernel_rfl) (by kernel_rfl) (fun c a a' w e h => ⟨e.symm.trans h.1, h.2⟩) rfl (fun w' hS => ?_) ⟨HBC.out (), dd⟩ ?_
                  rotate_left
                  · go_simp
                    try with_reducible rfl
                  simp only [Act.put, List.setIfInBounds_toArray, List.set_cons_zero, List.set_cons_succ]
                  refine wpAnyH_takeL (v := ?_) 16 rfl (by kernel_rfl) (by kernel_rfl) (by kernel_rfl) (fun c a a' w e h => ⟨e.symm.trans h.1, h.2⟩) rfl (fun w' hS => ?_) ⟨HBC.out (), dd⟩ ?_
                  rotate_left
                  · go_simp
                    try with_reducible rfl
                  simp only [Act.put, List.setIfInBounds_toArray, List.set_cons_zero, List.set_cons_succ]
                  refine wpAnyH_next 14 rfl (by kernel_rfl) (fun K hK => ?_)
                  go_simp
                  refine (turned_any (cap := sc) ok1 ((HBW.out ()).frame ((Fr.refl (fun _ => False) wr).drew) (fun e => e)) eok1).mono ?_
                  rintro e w1 ⟨M, rfl, hM, hmap, hf1⟩
                  have HM1 := hu hmap
                  have HF1 := hu (Fr.from hf1 (by rfl) (by rfl) (by rfl) (by rfl) : Fr (fun _ => False) wr w1)
                  have hT1 := Blk.of_heap (Blk.of_heap (Blk.of_heap (HT0.out ()) ((HFK.out ()).block TB (HT0.out ()).lt hTB)) ((HFS.out ()).block TB (Nat.lt_of_lt_of_le (HT0.out ()).lt (HFK.out ()).size) hTB)) ((HF1.out ()).block TB (Nat.lt_of_lt_of_le (Nat.lt_of_lt_of_le (HT0.out ()).lt (HFK.out ()).size) (HFS.out ()).size) (fun e => e))
                  refine hK _ _ ⟨((HF1.out ()).block BB (HBC.out ()).lt (fun e => e)).trans (HBC.out ()), ((HBD.out ()).frame (HF1.out ()) (fun e => e)).cell 29 (by rw [dhtBody_length]; omega)⟩ ?_
                  have y := hT1.cellv 8 rfl
                  have z := hT1.frozen 8
                  have HT1 := hu hT1
                  have hMT : M ≠ TB := by have h1 : wr.heap.size ≤ M := hM; have h2 := (HT0.out ()).lt; have h3 := (HFK.out ()).size; have h4 := (HFS.out ()).size; omega
                  clear hK K hT1 hM hmap hf1 dd
                  refine wpAnyH_done (by kernel_rfl) ?_ 0
                  simp only [Tail, List.drop_succ_cons, List.drop_zero]
                  go_wp2
                  have FRn := round_end hBB (HFW.out ()) (HFK.out ()) (HFS.out ()) (HF1.out ()) (TB := TB) (s := 8) (.map (some M))
                  have hTn : Blk (w1.setCell ⟨TB, 8, none⟩ (.map (some M))) TB (tblC W H cv tv [.map (some M0), m1, m2, m3, .map (some M), m5, m6, m7] sv) 66 := (HT1.out ()).set 8 _
                  have hMn := (HM1.out ()).of_heap (heap_setCell_other w1 ⟨TB, 8, none⟩ M (.map (some M)) hMT)
                  have hMo0 := (HMP0.out ()).frame FRn hMT0
                  have hBn := (HB.out ()).frame FRn hne
                  have hFn := (HF.out ()).trans FRn (fun _ _ e => e)
                  obtain ⟨wn, hwn⟩ : ∃ z, w1.setCell ⟨TB, 8, none⟩ (.map (some M)) = z := ⟨_, rfl⟩
                  rw [hwn] at FRn hTn hMn hBn hFn hMo0
                  simp only [hwn]
                  clear HT HB HF HB0 HT0 HF0 ZB HFW HBK HFK HBD HBC HBW HFS HM1 HF1 HT1 y z andd und fs hSB hwn FRn hgB hTB hBl hBz HMP0
                  have HT := hu hTn
                  have HB := hu hBn
                  have HF := hu hFn
                  have HMP1 := hu hMn
                  have hMT1 : M ≠ TB := hMT
                  have HMP0 := hu hMo0
                  clear hMT hTn hBn hFn hMn hMo0
                  obtain ⟨M1, hMr⟩ : ∃ z, z = M := ⟨_, rfl⟩
                  subst hMr
                  obtain ⟨wc, hwc⟩ : ∃ z, z = wn := ⟨_, rfl⟩
                  subst hwc
                  have d0 := (HB.out ()).cell 208 (by rw [dhtBody_length]; omega)
                  rw [bookIn2.id] at d0
                  have zb : Blk (wc.alloc (.cells (bookZ cnt2 0).toArray 111)) wc.heap.size (bookZ cnt2 0) 111 := Blk.new wc _ 111
                  have hlB := (HB.out ()).lt
                  have hlT := (HT.out ()).lt
                  rw [rounds_succ]
                  go_wp2
                  obtain ⟨w0, hw0⟩ : ∃ z, wc.alloc (.cells (bookZ cnt2 0).toArray 111) = z := ⟨_, rfl⟩
                  have hf0 : Fr (fun _ => False) wc w0 := by rw [← hw0]; exact (Fr.refl _ _).alloc _
                  rw [hw0] at zb
                  simp only [show wc.alloc (Obj.cells #[Value.int IntKind.i64 0, Value.int IntKind.i64 0, Value.int IntKind.i64 0, Value.int IntKind.i64 0, Value.int IntKind.i64 0, Value.int IntKind.i64 0, Value.int IntKind.i64 0, Value.int IntKind.i64 0, Value.int IntKind.i64 0, Value.int IntKind.i64 0, Value.int IntKind.i64 0, Value.int IntKind.i64 0, Value.int IntKind.i64 0, Value.int IntKind.i64 0, Value.int IntKind.i64 0, Value.int IntKind.i64 0, Value.int IntKind.i64 0, Value.slice none 0 0] 111) = w0 from hw0]
                  obtain ⟨BB, hBB⟩ : ∃ z, wc.heap.size = z := ⟨_, rfl⟩
                  rw [hBB] at zb hlB hlT
                  simp only [hBB]
                  have HB0 := hu ((HB.out ()).frame hf0 (fun e => e))
                  have HT0 := hu (Blk.of_heap (HT.out ()) (hf0.block TB (HT.out ()).lt (fun e => e)))
                  have HF0 := hu ((HF.out ()).trans hf0 (fun _ _ e => e.elim))
                  have ZB := hu zb
                  have hgB : g ≠ BB := by omega
                  have hTB : TB ≠ BB := by omega
                  have HFW := hu hf0
                  clear d0 zb hlB hlT hf0 hw0
                  go_loopw [7, 9] (fun n l wr => CntRel w0 BB cnt2 n l wr) (fun _ l _ => 17 - (intOf l).toNat)
                  case atStart => exact ⟨0, by omega, rfl, rfl, ZB.out (), Fr.refl _ _⟩
                  case round =>
                    obtain ⟨i, hi, rfl, rfl, hb, hf⟩ := hrel
                    by_cases hi16 : i < 16
                    · have hcb := ok2.cb i hi16
                      have hcell := ((HB0.out ()).frame hf hgB).cell (208 + (i + 1)) (by rw [dhtBody_length]; omega)
                      rw [bookIn2.cs i hi16] at hcell
                      rw [← Nat.add_assoc off 208 (i + 1)] at hcell
                      have hk := ok2.kb i hi16
                      have hvl := ok2.vl
                      have hz := hb.frozen (i + 1)
                      have hx : i + 1 < (bookZ cnt2 i).length := by rw [bookZ_length ok2.cl hi]; omega
                      obtain ⟨q, hq⟩ : ∃ q, wr.cell? ⟨BB, i + 1, none⟩ = some q := ⟨_, hb.cellv (i + 1) (List.getElem?_eq_getElem hx)⟩
                      have HBK := hu hb
                      have HFK := hu hf
                      obtain ⟨c, hc⟩ : ∃ c, cnt2.getD i 0 = c := ⟨_, rfl⟩
                      obtain ⟨kk, hkk⟩ : ∃ kk, kAt cnt2 i = kk := ⟨_, rfl⟩
                      rw [hc] at hcb hcell hk
                      rw [hkk] at hk ⊢
                      have HC := hu hc
                      have HKK := hu hkk
                      obtain ⟨hc0, hc1⟩ := hcb
                      clear hb hf hx hc hkk
                      go_wp2
                      go_roundw
                      case rel =>
                        have := cnt_step (w0 := w0) ok2.cl hi16 (by rw [HC.out ()]; exact hc0) (HBK.out ()) (HFK.out ())
                        rw [HC.out (), HKK.out ()] at this
                        have ew : wrap64 ((kk : Int) + c) = (kk : Int) + c := IntWalk.wrap64_in _ ⟨by omega, by omega⟩
                        first | (simpa using this) | (simpa [ew] using this)
                      case measure => simp [intOf]; omega
                    · obtain rfl : i = 16 := by omega
                      rw [bookIn2.sum]
                      rw [bookZ_full ok2.cl] at hb
                      have c17 := hb.cellv 17 (v := .slice none 0 0) (by rw [List.getElem?_append_right (by simp [ok2.cl])]; simp [ok2.cl])
                      have HBK := hu hb
                      have HFK := hu hf
                      have hBl := hb.lt
                      have hBz := (HFK.out ()).size
                      clear hb hf
                      go_wp2
                      clear c17
                      obtain ⟨ws, rfl⟩ : ∃ z, z = wr := ⟨_, rfl⟩
                      go_loopw [117, 11] (fun j _ wz => SybRel ws BB cnt2 val2 j wz) (fun j _ _ => 12 - (intOf j).toNat)
                      case atStart => exact ⟨0, .slice none 0 0, by omega, rfl, HBK.out (), World.ownsRow_nil _ _ _ _, Fr.refl _ _⟩
                      case round =>
                        obtain ⟨i, v, hi, rfl, hb, hown, hf⟩ := hrel
                        rw [bookIn2.len] at hi
                        obtain ⟨sa, sc, rfl⟩ := ownsRow_slice hown
                        by_cases hin : i < 12
                        · have hcell := (((HB0.out ()).frame (HFK.out ()) hgB).frame hf hgB).cell (225 + i) (by rw [dhtBody_length]; omega)
                          rw [show 225 + i = 208 + 17 + i by omega, bookIn2.vs i hin, show 208 + 17 + i = 225 + i by omega, ← Nat.add_assoc off 225 i] at hcell
                          have c17 := hb.cellv 17 (v := .slice sa i sc) (by rw [List.getElem?_append_right (by simp [ok2.cl])]; simp [ok2.cl])
                          have hvb := ok2.vb i (by rw [bookIn2.len]; exact hin)
                          obtain ⟨x, hx⟩ : ∃ x, val2.getD i 0 = x := ⟨_, rfl⟩
                          rw [hx] at hcell hvb
                          have RD := hu (syb_ready hown hb hf (.int .i64 x))
                          have HX := hu hx
                          obtain ⟨hx0, hx1, _⟩ := hvb
                          have ML := hu (show i + 1 ≤ maxLen by unfold maxLen; omega)
                          have BL := hu (show (i + 1) * 8 ≤ 140737488355328 by omega)
                          obtain ⟨i0, hi3, hz0, hz1, hz2⟩ := info_parts info3
                          clear hb hown hf hx
                          go_upto_region 28 with (fail)
                          go_wp2_with (at_builtin; refine wpList_append_moved _ rfl (.tmp 122) (.tmp 125) 22 rfl ws.heap.size 3 i0 (.int .i64 0) 1 8 und22 hi3 hz0 hz1 hz2 rfl (by decide) _ _ _ rfl (RD.out ()).own _ 1 1 [.int .i64 x] rfl rfl (RD.out ()).new ?c1 (ML.out ()) (BL.out ()) (RD.out ()).size ?_)
                          case c1 => intro u hu; simp at hu; subst hu; rfl
                          intro v' w1 hown hg _
                          obtain ⟨a', c', rfl⟩ := ownsRow_slice hown
                          have hgr := (RD.out ()).grown hBl hg
                          have y17 := hgr.1.cellv 17 (v := .slice sa i sc) (by rw [List.getElem?_append_right (by simp [ok2.cl])]; simp [ok2.cl])
                          have z17 := hgr.1.frozen 17
                          have HGR := hu hgr
                          have HOWN := hu hown
                          clear hgr hown hg
                          go_wp2
                          go_roundw
                          case rel =>
                            have hrl := syb_more ok2.cl hBl (by rw [bookIn2.len]; exact hin) (HGR.out ()).1 (HGR.out ()).2 (by rw [HX.out (), List.map_take]; exact HOWN.out ())
                            first | exact hrl | ((repeat apply Exists.intro); exact ⟨hrl, rfl⟩)
                          case measure => simp [intOf]; omega
                        · obtain rfl : i = 12 := by omega
                          rw [List.take_of_length_le (Nat.le_of_eq bookIn2.len)] at hown
                          obtain ⟨SB, hsa, hBW, hSB⟩ := book_of hown (by omega) bookIn2.len
                          subst hsa
                          go_upto_region 30 with (fail)
                          obtain ⟨fs, und⟩ := und111
                          have hbc : Blk wr BB (bookC cnt2 SB 12 sc) 111 := hb
                          have hbd := ((HB0.out ()).frame (HFK.out ()) hgB).frame hf hgB
                          have dd := hbd.cell 208 (by rw [dhtBody_length]; omega)
                          rw [bookIn2.id] at dd
                          have andd : bits BinOp.and IntKind.u8 1 15 = 1 := by decide
                          have HBD := hu hbd
                          have HBC := hu hbc
                          have HBW := hu hBW
                          have HFS := hu hf
                          clear hbd hbc hBW hf hb hown
                          refine wp_region_takes 14 17 (fun w' => w'.heap[BB]? = some (.cells (bookC cnt2 SB 12 sc).toArray 111 (0, 0)) ∧ w'.cell? ⟨g, off + 208, none⟩ = some (.int .u8 1)) (by kernel_rfl) (by kernel_rfl) (by kernel_rfl) (by kernel_rfl) (by decide) rfl (fun c a a' w e h => ⟨e.symm.trans h.1, h.2⟩) ⟨HBC.out (), dd⟩ ?_
                          simp only [List.take_succ_cons, List.take_zero]
                          iterate 13
                            refine chainY_cons (v := ?_) rfl (fun w' hS => ?_) ?_
                            rotate_left
                            · obtain ⟨s0, s1⟩ := hS
                              go_simp
                              try with_reducible rfl
                            simp only [Act.put, List.setIfInBounds_toArray, List.set_cons_zero, List.set_cons_succ]
                          refine chainY_cons (v := .agg (bookC cnt2 SB 12 sc).toArray) rfl (fun w' hS => ?_) ?_
                          · exact exec_load_row 111 (.tmp 8) (by rfl) BB (by rfl) 111 _ (0, 0) _ hS.1 und rfl (size111 cnt2 SB 12 sc ok2.cl)
                          simp only [Act.put, List.setIfInBounds_toArray, List.set_cons_zero, List.set_cons_succ]
                          refine chainY_nil ?_
                          refine wpAnyH_takeL (v := ?_) 15 rfl (by kernel_rfl) (by kernel_rfl) (by kernel_rfl) (fun c a a' w e h => ⟨e.symm.trans h.1, h.2⟩) rfl (fun w' hS => ?_) ⟨HBC.out (), dd⟩ ?_
                          rotate_left
                          · go_simp
                            try with_reducible rfl
                          simp only [Act.put, List.setIfInBounds_toArray, List.set_cons_zero, List.set_cons_succ]
                          refine wpAnyH_takeL (v := ?_) 16 rfl (by kernel_rfl) (by kernel_rfl) (by kernel_rfl) (fun c a a' w e h => ⟨e.symm.trans h.1, h.2⟩) rfl (fun w' hS => ?_) ⟨HBC.out (), dd⟩ ?_
                          rotate_left
                          · go_simp
                            try with_reducible rfl
                          simp only [Act.put, List.setIfInBounds_toArray, List.set_cons_zero, List.set_cons_succ]
                          refine wpAnyH_next 14 rfl (by kernel_rfl) (fun K hK => ?_)
                          go_simp
                          refine (turned_any (cap := sc) ok2 ((HBW.out ()).frame ((Fr.refl (fun _ => False) wr).drew) (fun e => e)) eok2).mono ?_
                          rintro e w1 ⟨M, rfl, hM, hmap, hf1⟩
                          have HM1 := hu hmap
                          have HF1 := hu (Fr.from hf1 (by rfl) (by rfl) (by rfl) (by rfl) : Fr (fun _ => False) wr w1)
                          have hT1 := Blk.of_heap (Blk.of_heap (Blk.of_heap (HT0.out ()) ((HFK.out ()).block TB (HT0.out ()).lt hTB)) ((HFS.out ()).block TB (Nat.lt_of_lt_of_le (HT0.out ()).lt (HFK.out ()).size) hTB)) ((HF1.out ()).block TB (Nat.lt_of_lt_of_le (Nat.lt_of_lt_of_le (HT0.out ()).lt (HFK.out ()).size) (HFS.out ()).size) (fun e => e))
                          refine hK _ _ ⟨((HF1.out ()).block BB (HBC.out ()).lt (fun e => e)).trans (HBC.out ()), ((HBD.out ()).frame (HF1.out ()) (fun e => e)).cell 208 (by rw [dhtBody_length]; omega)⟩ ?_
                          have y := hT1.cellv 5 rfl
                          have z := hT1.frozen 5
                          have HT1 := hu hT1
                          have hMT : M ≠ TB := by have h1 : wr.heap.size ≤ M := hM; have h2 := (HT0.out ()).lt; have h3 := (HFK.out ()).size; have h4 := (HFS.out ()).size; omega
                          clear hK K hT1 hM hmap hf1 dd
                          refine wpAnyH_done (by kernel_rfl) ?_ 0
                          simp only [Tail, List.drop_succ_cons, List.drop_zero]
                          go_wp2
                          have FRn := round_end hBB (HFW.out ()) (HFK.out ()) (HFS.out ()) (HF1.out ()) (TB := TB) (s := 5) (.map (some M))
                          have hTn : Blk (w1.setCell ⟨TB, 5, none⟩ (.map (some M))) TB (tblC W H cv tv [.map (some M0), .map (some M), m2, m3, .map (some M1), m5, m6, m7] sv) 66 := (HT1.out ()).set 5 _
                          have hMn := (HM1.out ()).of_heap (heap_setCell_other w1 ⟨TB, 5, none⟩ M (.map (some M)) hMT)
                          have hMo0 := (HMP0.out ()).frame FRn hMT0
                          have hMo1 := (HMP1.out ()).frame FRn hMT1
                          have hBn := (HB.out ()).frame FRn hne
                          have hFn := (HF.out ()).trans FRn (fun _ _ e => e)
                          obtain ⟨wn, hwn⟩ : ∃ z, w1.setCell ⟨TB, 5, none⟩ (.map (some M)) = z := ⟨_, rfl⟩
                          rw [hwn] at FRn hTn hMn hBn hFn hMo0 hMo1
                          simp only [hwn]
                          clear HT HB HF HB0 HT0 HF0 ZB HFW HBK HFK HBD HBC HBW HFS HM1 HF1 HT1 y z andd und fs hSB hwn FRn hgB hTB hBl hBz HMP0 HMP1
                          have HT := hu hTn
                          have HB := hu hBn
                          have HF := hu hFn
                          have HMP2 := hu hMn
                          have hMT2 : M ≠ TB := hMT
                          have HMP0 := hu hMo0
                          have HMP1 := hu hMo1
                          clear hMT hTn hBn hFn hMn hMo0 hMo1
                          obtain ⟨M2, hMr⟩ : ∃ z, z = M := ⟨_, rfl⟩
                          subst hMr
                          obtain ⟨wc, hwc⟩ : ∃ z, z = wn := ⟨_, rfl⟩
                          subst hwc
                          have d0 := (HB.out ()).cell 237 (by rw [dhtBody_length]; omega)
                          rw [bookIn3.id] at d0
                          have zb : Blk (wc.alloc (.cells (bookZ cnt3 0).toArray 111)) wc.heap.size (bookZ cnt3 0) 111 := Blk.new wc _ 111
                          have hlB := (HB.out ()).lt
                          have hlT := (HT.out ()).lt
                          rw [rounds_succ]
                          go_wp2
                          obtain ⟨w0, hw0⟩ : ∃ z, wc.alloc (.cells (bookZ cnt3 0).toArray 111) = z := ⟨_, rfl⟩
                          have hf0 : Fr (fun _ => False) wc w0 := by rw [← hw0]; exact (Fr.refl _ _).alloc _
                          rw [hw0] at zb
                          simp only [show wc.alloc (Obj.cells #[Value.int IntKind.i64 0, Value.int IntKind.i64 0, Value.int IntKind.i64 0, Value.int IntKind.i64 0, Value.int IntKind.i64 0, Value.int IntKind.i64 0, Value.int IntKind.i64 0, Value.int IntKind.i64 0, Value.int IntKind.i64 0, Value.int IntKind.i64 0, Value.int IntKind.i64 0, Value.int IntKind.i64 0, Value.int IntKind.i64 0, Value.int IntKind.i64 0, Value.int IntKind.i64 0, Value.int IntKind.i64 0, Value.int IntKind.i64 0, Value.slice none 0 0] 111) = w0 from hw0]
                          obtain ⟨BB, hBB⟩ : ∃ z, wc.heap.size = z := ⟨_, rfl⟩
                          rw [hBB] at zb hlB hlT
                          simp only [hBB]
                          have HB0 := hu ((HB.out ()).frame hf0 (fun e => e))
                          have HT0 := hu (Blk.of_heap (HT.out ()) (hf0.block TB (HT.out ()).lt (fun e => e)))
                          have HF0 := hu ((HF.out ()).trans hf0 (fun _ _ e => e.elim))
                          have ZB := hu zb
                          have hgB : g ≠ BB := by omega
                          have hTB : TB ≠ BB := by omega
                          have HFW := hu hf0
                          clear d0 zb hlB hlT hf0 hw0
                          go_loopw [7, 9] (fun n l wr => CntRel w0 BB cnt3 n l wr) (fun _ l _ => 17 - (intOf l).toNat)
                          case atStart => exact ⟨0, by omega, rfl, rfl, ZB.out (), Fr.refl _ _⟩
                          case round =>
                            obtain ⟨i, hi, rfl, rfl, hb, hf⟩ := hrel
                            by_cases hi16 : i < 16
                            · have hcb := ok3.cb i hi16
                              have hcell := ((HB0.out ()).frame hf hgB).cell (237 + (i + 1)) (by rw [dhtBody_length]; omega)
                              rw [bookIn3.cs i hi16] at hcell
                              rw [← Nat.add_assoc off 237 (i + 1)] at hcell
                              have hk := ok3.kb i hi16
                              have hvl := ok3.vl
                              have hz := hb.frozen (i + 1)
                              have hx : i + 1 < (bookZ cnt3 i).length := by rw [bookZ_length ok3.cl hi]; omega
                              obtain ⟨q, hq⟩ : ∃ q, wr.cell? ⟨BB, i + 1, none⟩ = some q := ⟨_, hb.cellv (i + 1) (List.getElem?_eq_getElem hx)⟩
                              have HBK := hu hb
                              have HFK := hu hf
                              obtain ⟨c, hc⟩ : ∃ c, cnt3.getD i 0 = c := ⟨_, rfl⟩
                              obtain ⟨kk, hkk⟩ : ∃ kk, kAt cnt3 i = kk := ⟨_, rfl⟩
                              rw [hc] at hcb hcell hk
                              rw [hkk] at hk ⊢
                              have HC := hu hc
                              have HKK := hu hkk
                              obtain ⟨hc0, hc1⟩ := hcb
                              clear hb hf hx hc hkk
                              go_wp2
                              go_roundw
                              case rel =>
                                have := cnt_step (w0 := w0) ok3.cl hi16 (by rw [HC.out ()]; exact hc0) (HBK.out ()) (HFK.out ())
                                rw [HC.out (), HKK.out ()] at this
                                have ew : wrap64 ((kk : Int) + c) = (kk : Int) + c := IntWalk.wrap64_in _ ⟨by omega, by omega⟩
                                first | (simpa using this) | (simpa [ew] using this)
                              case measure => simp [intOf]; omega
                            · obtain rfl : i = 16 := by omega
                              rw [bookIn3.sum]
                              rw [bookZ_full ok3.cl] at hb
                              have c17 := hb.cellv 17 (v := .slice none 0 0) (by rw [List.getElem?_append_right (by simp [ok3.cl])]; simp [ok3.cl])
                              have HBK := hu hb
                              have HFK := hu hf
                              have hBl := hb.lt
                              have hBz := (HFK.out ()).size
                              clear hb hf
                              go_wp2
                              clear c17
                              obtain ⟨ws, rfl⟩ : ∃ z, z = wr := ⟨_, rfl⟩
                              go_loopw [117, 11] (fun j _ wz => SybRel ws BB cnt3 val3 j wz) (fun j _ _ => 162 - (intOf j).toNat)
                              case atStart => exact ⟨0, .slice none 0 0, by omega, rfl, HBK.out (), World.ownsRow_nil _ _ _ _, Fr.refl _ _⟩
                              case round =>
                                obtain ⟨i, v, hi, rfl, hb, hown, hf⟩ := hrel
                                rw [bookIn3.len] at hi
                                obtain ⟨sa, sc, rfl⟩ := ownsRow_slice hown
                                by_cases hin : i < 162
                                · have hcell := (((HB0.out ()).frame (HFK.out ()) hgB).frame hf hgB).cell (254 + i) (by rw [dhtBody_length]; omega)
                                  rw [show 254 + i = 237 + 17 + i by omega, bookIn3.vs i hin, show 237 + 17 + i = 254 + i by omega, ← Nat.add_assoc off 254 i] at hcell
                                  have c17 := hb.cellv 17 (v := .slice sa i sc) (by rw [List.getElem?_append_right (by simp [ok3.cl])]; simp [ok3.cl])
                                  have hvb := ok3.vb i (by rw [bookIn3.len]; exact hin)
                                  obtain ⟨x, hx⟩ : ∃ x, val3.getD i 0 = x := ⟨_, rfl⟩
                                  rw [hx] at hcell hvb
                                  have RD := hu (syb_ready hown hb hf (.int .i64 x))
                                  have HX := hu hx
                                  obtain ⟨hx0, hx1, _⟩ := hvb
                                  have ML := hu (show i + 1 ≤ maxLen by unfold maxLen; omega)
                                  have BL := hu (show (i + 1) * 8 ≤ 140737488355328 by omega)
                                  obtain ⟨i0, hi3, hz0, hz1, hz2⟩ := info_parts info3
                                  clear hb hown hf hx
                                  go_upto_region 28 with (fail)
                                  go_wp2_with (at_builtin; refine wpList_append_moved _ rfl (.tmp 122) (.tmp 125) 22 rfl ws.heap.size 3 i0 (.int .i64 0) 1 8 und22 hi3 hz0 hz1 hz2 rfl (by decide) _ _ _ rfl (RD.out ()).own _ 1 1 [.int .i64 x] rfl rfl (RD.out ()).new ?c1 (ML.out ()) (BL.out ()) (RD.out ()).size ?_)
                                  case c1 => intro u hu; simp at hu; subst hu; rfl
                                  intro v' w1 hown hg _
                                  obtain ⟨a', c', rfl⟩ := ownsRow_slice hown
                                  have hgr := (RD.out ()).grown hBl hg
                                  have y17 := hgr.1.cellv 17 (v := .slice sa i sc) (by rw [List.getElem?_append_right (by simp [ok3.cl])]; simp [ok3.cl])
                                  have z17 := hgr.1.frozen 17
                                  have HGR := hu hgr
                                  have HOWN := hu hown
                                  clear hgr hown hg
                                  go_wp2
                                  go_roundw
                                  case rel =>
                                    have hrl := syb_more ok3.cl hBl (by rw [bookIn3.len]; exact hin) (HGR.out ()).1 (HGR.out ()).2 (by rw [HX.out (), List.map_take]; exact HOWN.out ())
                                    first | exact hrl | ((repeat apply Exists.intro); exact ⟨hrl, rfl⟩)
                                  case measure => simp [intOf]; omega
                                · obtain rfl : i = 162 := by omega
                                  rw [List.take_of_length_le (Nat.le_of_eq bookIn3.len)] at hown
                                  obtain ⟨SB, hsa, hBW, hSB⟩ := book_of hown (by omega) bookIn3.len
                                  subst hsa
                                  go_upto_region 30 with (fail)
                                  obtain ⟨fs, und⟩ := und111
                                  have hbc : Blk wr BB (bookC cnt3 SB 162 sc) 111 := hb
                                  have hbd := ((HB0.out ()).frame (HFK.out ()) hgB).frame hf hgB
                                  have dd := hbd.cell 237 (by rw [dhtBody_length]; omega)
                                  rw [bookIn3.id] at dd
                                  have andd : bits BinOp.and IntKind.u8 17 15 = 1 := by decide
                                  have HBD := hu hbd
                                  have HBC := hu hbc
                                  have HBW := hu hBW
                                  have HFS := hu hf
                                  clear hbd hbc hBW hf hb hown
                                  refine wp_region_takes 14 17 (fun w' => w'.heap[BB]? = some (.cells (bookC cnt3 SB 162 sc).toArray 111 (0, 0)) ∧ w'.cell? ⟨g, off + 237, none⟩ = some (.int .u8 17)) (by kernel_rfl) (by kernel_rfl) (by kernel_rfl) (by kernel_rfl) (by decide) rfl (fun c a a' w e h => ⟨e.symm.trans h.1, h.2⟩) ⟨HBC.out (), dd⟩ ?_
                                  simp only [List.take_succ_cons, List.take_zero]
                                  iterate 13
                                    refine chainY_cons (v := ?_) rfl (fun w' hS => ?_) ?_
                                    rotate_left
                                    · obtain ⟨s0, s1⟩ := hS
                                      go_simp
                                      try with_reducible rfl
                                    simp only [Act.put, List.setIfInBounds_toArray, List.set_cons_zero, List.set_cons_succ]
                                  refine chainY_cons (v := .agg (bookC cnt3 SB 162 sc).toArray) rfl (fun w' hS => ?_) ?_
                                  · exact exec_load_row 111 (.tmp 8) (by rfl) BB (by rfl) 111 _ (0, 0) _ hS.1 und rfl (size111 cnt3 SB 162 sc ok3.cl)
                                  simp only [Act.put, List.setIfInBounds_toArray, List.set_cons_zero, List.set_cons_succ]
                                  refine chainY_nil ?_
                                  refine wpAnyH_takeL (v := ?_) 15 rfl (by kernel_rfl) (by kernel_rfl) (by kernel_rfl) (fun c a a' w e h => ⟨e.symm.trans h.1, h.2⟩) rfl (fun w' hS => ?_) ⟨HBC.out (), dd⟩ ?_
                                  rotate_left
                                  · go_simp
                                    try with_reducible rfl
                                  simp only [Act.put, List.setIfInBounds_toArray, List.set_cons_zero, List.set_cons_succ]
                                  refine wpAnyH_takeL (v := ?_) 16 rfl (by kernel_rfl) (by kernel_rfl) (by kernel_rfl) (fun c a a' w e h => ⟨e.symm.trans h.1, h.2⟩) rfl (fun w' hS => ?_) ⟨HBC.out (), dd⟩ ?_
                                  rotate_left
                                  · go_simp
                                    try with_reducible rfl
                                  simp only [Act.put, List.setIfInBounds_toArray, List.set_cons_zero, List.set_cons_succ]
                                  refine wpAnyH_next 14 rfl (by kernel_rfl) (fun K hK => ?_)
                                  go_simp
                                  refine (turned_any (cap := sc) ok3 ((HBW.out ()).frame ((Fr.refl (fun _ => False) wr).drew) (fun e => e)) eok3).mono ?_
                                  rintro e w1 ⟨M, rfl, hM, hmap, hf1⟩
                                  have HM1 := hu hmap
                                  have HF1 := hu (Fr.from hf1 (by rfl) (by rfl) (by rfl) (by rfl) : Fr (fun _ => False) wr w1)
                                  have hT1 := Blk.of_heap (Blk.of_heap (Blk.of_heap (HT0.out ()) ((HFK.out ()).block TB (HT0.out ()).lt hTB)) ((HFS.out ()).block TB (Nat.lt_of_lt_of_le (HT0.out ()).lt (HFK.out ()).size) hTB)) ((HF1.out ()).block TB (Nat.lt_of_lt_of_le (Nat.lt_of_lt_of_le (HT0.out ()).lt (HFK.out ()).size) (HFS.out ()).size) (fun e => e))
                                  refine hK _ _ ⟨((HF1.out ()).block BB (HBC.out ()).lt (fun e => e)).trans (HBC.out ()), ((HBD.out ()).frame (HF1.out ()) (fun e => e)).cell 237 (by rw [dhtBody_length]; omega)⟩ ?_
                                  have y := hT1.cellv 9 rfl
                                  have z := hT1.frozen 9
                                  have HT1 := hu hT1
                                  have hMT : M ≠ TB := by have h1 : wr.heap.size ≤ M := hM; have h2 := (HT0.out ()).lt; have h3 := (HFK.out ()).size; have h4 := (HFS.out ()).size; omega
                                  clear hK K hT1 hM hmap hf1 dd
                                  refine wpAnyH_done (by kernel_rfl) ?_ 0
                                  simp only [Tail, List.drop_succ_cons, List.drop_zero]
                                  go_wp2
                                  all_goals
                                    have FRn := round_end hBB (HFW.out ()) (HFK.out ()) (HFS.out ()) (HF1.out ()) (TB := TB) (s := 9) (.map (some M))
                                    have hTn : Blk (w1.setCell ⟨TB, 9, none⟩ (.map (some M))) TB (tblC W H cv tv [.map (some M0), .map (some M2), m2, m3, .map (some M1), .map (some M), m6, m7] sv) 66 := (HT1.out ()).set 9 _
                                    have hMn := (HM1.out ()).of_heap (heap_setCell_other w1 ⟨TB, 9, none⟩ M (.map (some M)) hMT)
                                    have hMo0 := (HMP0.out ()).frame FRn hMT0
                                    have hMo1 := (HMP1.out ()).frame FRn hMT1
                                    have hMo2 := (HMP2.out ()).frame FRn hMT2
                                    have hBn := (HB.out ()).frame FRn hne
                                    have hFn := (HF.out ()).trans FRn (fun _ _ e => e)
                                    obtain ⟨wn, hwn⟩ : ∃ z, w1.setCell ⟨TB, 9, none⟩ (.map (some M)) = z := ⟨_, rfl⟩
                                    rw [hwn] at FRn hTn hMn hBn hFn hMo0 hMo1 hMo2
                                    simp only [hwn]
                                    clear HT HB HF HB0 HT0 HF0 ZB HFW HBK HFK HBD HBC HBW HFS HM1 HF1 HT1 y z andd und fs hSB hwn FRn hgB hTB hBl hBz HMP0 HMP1 HMP2
                                    have HT := hu hTn
                                    have HB := hu hBn
                                    have HF := hu hFn
                                    have HMP3 := hu hMn
                                    have hMT3 : M ≠ TB := hMT
                                    have HMP0 := hu hMo0
                                    have HMP1 := hu hMo1
                                    have HMP2 := hu hMo2
                                    clear hMT hTn hBn hFn hMn hMo0 hMo1 hMo2
                                    obtain ⟨M3, hMr⟩ : ∃ z, z = M := ⟨_, rfl⟩
                                    subst hMr
                                    obtain ⟨wc, hwc⟩ : ∃ z, z = wn := ⟨_, rfl⟩
                                    subst hwc
                                    rw [rounds_succ]
                                    go_wp2
                                    go_ret
                                    exact ⟨rfl, _, _, _, _, HT.out (), HMP0.out (), HMP1.out (), HMP2.out (), HMP3.out (), HF.out ()⟩
end Go.Proofs.YtpophkigihfjoaaDoor
