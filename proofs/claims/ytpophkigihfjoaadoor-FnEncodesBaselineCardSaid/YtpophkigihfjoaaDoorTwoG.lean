/- The walk of Segments. -/
import Derived.Test.YtpophkigihfjoaaDoorTwoE
import Derived.Test.YtpophkigihfjoaaDoorTwoF
import Derived.Test.YtpophkigihfjoaaDoorTwoA
/- The encoder's bytes as the reader of segments meets them. -/
namespace Go.Proofs.YtpophkigihfjoaaDoor
open Go.RowKit

/-- The file: four segments, the scan's bytes, the end. -/
def fileB (dq sf dh ss st : List Int) : List Int := [255, 216] ++ ([255, 219, 0, 132] ++ dq) ++ ([255, 192, 0, 17] ++ sf) ++ ([255, 196, 1, 162] ++ dh) ++ ([255, 218, 0, 12] ++ ss) ++ st ++ [255, 217]

theorem getD_mid (a b : List Int) (i : Nat) : (a ++ b).getD (a.length + i) 0 = b.getD i 0 := by
  rw [List.getD_eq_getElem?_getD, List.getElem?_append_right (by omega), Nat.add_sub_cancel_left, ← List.getD_eq_getElem?_getD]

theorem getD_left (a b : List Int) (i : Nat) (h : i < a.length) : (a ++ b).getD i 0 = a.getD i 0 := by
  rw [List.getD_eq_getElem?_getD, List.getElem?_append_left h, ← List.getD_eq_getElem?_getD]

structure FileL (dq sf dh ss : List Int) : Prop where
  dq : dq.length = 130
  sf : sf.length = 15
  dh : dh.length = 416
  ss : ss.length = 10

/-- A piece of the file and where it lies. -/
theorem file_piece {bs a p z : List Int} {o : Nat} (h : bs = a ++ (p ++ z)) (ha : a.length = o) : ∀ i, i < p.length → bs.getD (o + i) 0 = p.getD i 0 := by
  intro i hi
  subst h
  rw [← ha, getD_mid, getD_left _ _ _ hi]

theorem file_dq {dq sf dh ss st : List Int} (_h : FileL dq sf dh ss) : ∀ i, i < ([255, 219, 0, 132] ++ dq).length → (fileB dq sf dh ss st).getD (2 + i) 0 = ([255, 219, 0, 132] ++ dq).getD i 0 :=
  file_piece (a := [255, 216]) (z := ([255, 192, 0, 17] ++ sf) ++ ([255, 196, 1, 162] ++ dh) ++ ([255, 218, 0, 12] ++ ss) ++ st ++ [255, 217]) (by simp [fileB, List.append_assoc]) rfl
theorem file_sf {dq sf dh ss st : List Int} (h : FileL dq sf dh ss) : ∀ i, i < ([255, 192, 0, 17] ++ sf).length → (fileB dq sf dh ss st).getD (136 + i) 0 = ([255, 192, 0, 17] ++ sf).getD i 0 :=
  file_piece (a := [255, 216] ++ ([255, 219, 0, 132] ++ dq)) (z := ([255, 196, 1, 162] ++ dh) ++ ([255, 218, 0, 12] ++ ss) ++ st ++ [255, 217]) (by simp [fileB, List.append_assoc]) (by simp [h.dq])
theorem file_dh {dq sf dh ss st : List Int} (h : FileL dq sf dh ss) : ∀ i, i < ([255, 196, 1, 162] ++ dh).length → (fileB dq sf dh ss st).getD (155 + i) 0 = ([255, 196, 1, 162] ++ dh).getD i 0 :=
  file_piece (a := [255, 216] ++ ([255, 219, 0, 132] ++ dq) ++ ([255, 192, 0, 17] ++ sf)) (z := ([255, 218, 0, 12] ++ ss) ++ st ++ [255, 217]) (by simp [fileB, List.append_assoc]) (by simp [h.dq, h.sf])
theorem file_ss {dq sf dh ss st : List Int} (h : FileL dq sf dh ss) : ∀ i, i < ([255, 218, 0, 12] ++ ss).length → (fileB dq sf dh ss st).getD (575 + i) 0 = ([255, 218, 0, 12] ++ ss).getD i 0 :=
  file_piece (a := [255, 216] ++ ([255, 219, 0, 132] ++ dq) ++ ([255, 192, 0, 17] ++ sf) ++ ([255, 196, 1, 162] ++ dh)) (z := st ++ [255, 217]) (by simp [fileB, List.append_assoc]) (by simp [h.dq, h.sf, h.dh])
theorem file_st {dq sf dh ss st : List Int} (h : FileL dq sf dh ss) : ∀ i, i < st.length → (fileB dq sf dh ss st).getD (589 + i) 0 = st.getD i 0 :=
  file_piece (a := [255, 216] ++ ([255, 219, 0, 132] ++ dq) ++ ([255, 192, 0, 17] ++ sf) ++ ([255, 196, 1, 162] ++ dh) ++ ([255, 218, 0, 12] ++ ss)) (z := [255, 217]) (by simp [fileB, List.append_assoc]) (by simp [h.dq, h.sf, h.dh, h.ss])
theorem file_end {dq sf dh ss st : List Int} (h : FileL dq sf dh ss) : ∀ i, i < 2 → (fileB dq sf dh ss st).getD (589 + st.length + i) 0 = ([255, 217] : List Int).getD i 0 :=
  file_piece (p := [255, 217]) (a := [255, 216] ++ ([255, 219, 0, 132] ++ dq) ++ ([255, 192, 0, 17] ++ sf) ++ ([255, 196, 1, 162] ++ dh) ++ ([255, 218, 0, 12] ++ ss) ++ st) (z := []) (by simp [fileB, List.append_assoc]) (by simp [h.dq, h.sf, h.dh, h.ss]; omega)
theorem file_length {dq sf dh ss st : List Int} (h : FileL dq sf dh ss) : (fileB dq sf dh ss st).length = 591 + st.length := by
  simp [fileB, h.dq, h.sf, h.dh, h.ss]; omega

/-- The encoder's file is such a file. -/
theorem headBytes_file (W H Q : Nat) (sh st : List Int) : headBytes W H Q ++ ([255, 218, 0, 12] ++ sh) ++ st ++ [255, 217] = fileB (dqtBody (qTo Q 128)) (sofBody W H) dhtBody sh st := by
  simp [headBytes, fileB, dqtBody, sofBody, dhtBody, dqtBytes, sofBytes, dhtBytes, List.append_assoc]

theorem fileL_of (W H Q : Nat) {sh : List Int} (h : sh.length = 10) : FileL (dqtBody (qTo Q 128)) (sofBody W H) dhtBody sh :=
  ⟨dqtBody_length (qTo_length Q 128), rfl, dhtBody_length, h⟩
end Go.Proofs.YtpophkigihfjoaaDoor

/- The walk of Segments. -/
namespace Go.Proofs.YtpophkigihfjoaaDoor
open Go.RowKit
set_option maxRecDepth 100000

/-- Where the byte number k of D stands. -/
def pos (D : List Nat) (k : Nat) : Nat := (stuff (D.take k)).length

theorem stuff_cut (D : List Nat) (k : Nat) (hk : k < D.length) : stuff D = stuff (D.take k) ++ (((D.getD k 0 : Nat) : Int) :: ((if D.getD k 0 = 255 then [0] else []) ++ stuff (D.drop (k + 1)))) := by
  have e : D = D.take k ++ (D.getD k 0 :: D.drop (k + 1)) := by
    rw [List.getD_eq_getElem?_getD, List.getElem?_eq_getElem hk]
    simp
  conv => lhs; rw [e]
  rw [stuff_append]
  congr 1

theorem pos_byte {D : List Nat} {k : Nat} (hk : k < D.length) : (stuff D).getD (pos D k) 0 = ((D.getD k 0 : Nat) : Int) := by
  have h := getD_mid (stuff (D.take k)) ((((D.getD k 0 : Nat) : Int) :: ((if D.getD k 0 = 255 then [0] else []) ++ stuff (D.drop (k + 1))))) 0
  rw [← stuff_cut D k hk, Nat.add_zero] at h
  exact h

theorem pos_zero {D : List Nat} {k : Nat} (hk : k < D.length) (h : D.getD k 0 = 255) : (stuff D).getD (pos D k + 1) 0 = 0 := by
  have h2 := getD_mid (stuff (D.take k)) ((((D.getD k 0 : Nat) : Int) :: ((if D.getD k 0 = 255 then [0] else []) ++ stuff (D.drop (k + 1))))) 1
  rw [← stuff_cut D k hk, if_pos h] at h2
  exact h2

theorem pos_step {D : List Nat} {k : Nat} (hk : k < D.length) : pos D (k + 1) = pos D k + (if D.getD k 0 = 255 then 2 else 1) := by
  unfold pos
  rw [List.take_succ_eq_append_getElem hk, stuff_append, List.length_append]
  congr 1
  have e : D[k] = D.getD k 0 := by rw [List.getD_eq_getElem?_getD, List.getElem?_eq_getElem hk]; rfl
  rw [e]
  generalize D.getD k 0 = d
  by_cases h : d = 255 <;> simp [stuff, h]

theorem pos_le {D : List Nat} {k : Nat} (hk : k < D.length) : pos D k + (if D.getD k 0 = 255 then 2 else 1) ≤ (stuff D).length := by
  rw [stuff_cut D k hk]
  unfold pos
  generalize D.getD k 0 = d
  by_cases h : d = 255 <;> simp [h] <;> omega

theorem pos_end (D : List Nat) : pos D D.length = (stuff D).length := by simp [pos]
end Go.Proofs.YtpophkigihfjoaaDoor

/- The walk of Segments. -/
namespace Go.Proofs.YtpophkigihfjoaaDoor
open Go.RowKit
set_option maxRecDepth 100000

theorem ownsRow_base {w : World} {b b' : Nat} {e : TypeId} {size n : Nat} {v : Value} {xs : List Value} (h : w.ownsRow b e size v n xs) (hb : b' ≤ b) : w.ownsRow b' e size v n xs := by
  refine ⟨h.1, ?_⟩
  rcases h.2 with h0 | ⟨g, cap, cur, h1, h2, h3⟩
  · exact .inl h0
  · exact .inr ⟨g, cap, cur, h1, Nat.le_trans hb h2, h3⟩

theorem pos_ge (D : List Nat) : D.length ≤ (stuff D).length := by
  induction D with
  | nil => simp
  | cons d D ih =>
    have e : stuff (d :: D) = ((d : Int) :: if d = 255 then [0] else []) ++ stuff D := rfl
    rw [e, List.length_append, List.length_cons, List.length_cons]
    omega

structure DatRdy (w0 wc wa : World) (v : Value) (k : Nat) (xs : List Value) (x : Value) : Prop where
  own : wa.ownsRow w0.heap.size 5 1 v k xs
  size : w0.heap.size ≤ wa.heap.size
  fr : Fr (fun _ => False) w0 wa
  new : ∀ j u, [x][j]? = some u → wa.cell? ((⟨wc.heap.size, 0, none⟩ : Addr).add j) = some u

theorem dat_ready {w0 wr : World} {k : Nat} {v : Value} {xs : List Value} (ho : wr.ownsRow w0.heap.size 5 1 v k xs) (hf : Fr (fun _ => False) w0 wr) (x : Value) : DatRdy w0 wr (wr.alloc (.cells #[x] 5)) v k xs x :=
  ⟨ownsRow_of_block ho (fun k hk => Below.heap_alloc _ _ _ (ho.lt k hk).2), (hf.alloc (.cells #[x] 5)).size, hf.alloc _, new_cells wr [x] 5⟩

/-- The data that have been taken. -/
def DatRel (w0 : World) (D : List Nat) (i v : Value) (wr : World) : Prop :=
  ∃ k : Nat, k ≤ D.length ∧ i = .int .i64 ((pos D k : Nat) : Int) ∧ wr.ownsRow w0.heap.size 5 1 v k ((D.take k).map fun (d : Nat) => Value.int .u8 (d : Int)) ∧ Fr (fun _ => False) w0 wr

theorem dat_more {w0 w1 : World} {D : List Nat} {k q x : Nat} {v' : Value} (hk : k < D.length) (hx : D.getD k 0 = x) (hq : pos D (k + 1) = q)
    (hown : w1.ownsRow w0.heap.size 5 1 v' (k + 1) (((D.take k).map fun (d : Nat) => Value.int .u8 (d : Int)) ++ [.int .u8 (x : Int)])) (hf : Fr (fun _ => False) w0 w1) : DatRel w0 D (.int .i64 ((q : Nat) : Int)) v' w1 := by
  subst hq hx
  refine ⟨k + 1, hk, rfl, ?_, hf⟩
  rw [List.take_succ_eq_append_getElem hk, List.map_append]
  rw [List.getD_eq_getElem?_getD, List.getElem?_eq_getElem hk] at hown
  exact hown

theorem dat_fin {w0 w1 : World} {D : List Nat} {k p x : Nat} {v' : Value} (hk : k < D.length) (hx : D.getD k 0 = x) (hq : pos D (k + 1) = p + 1) (hp : p < 300000)
    (hown : w1.ownsRow w0.heap.size 5 1 v' (k + 1) ((List.take k (D.map fun (d : Nat) => Value.int .u8 (d : Int))) ++ [.int .u8 (x : Int)])) (hf : Fr (fun _ => False) w0 w1) (hL : p < (stuff D).length) :
    DatRel w0 D (Value.int IntKind.i64 (wrap64 ((p : Int) + 1))) v' w1 ∧ (stuff D).length + 1 - (intOf (Value.int IntKind.i64 (wrap64 ((p : Int) + 1)))).toNat < (stuff D).length + 1 - (intOf (Value.int IntKind.i64 (p : Int))).toNat := by
  have ew : wrap64 ((p : Int) + 1) = ((p + 1 : Nat) : Int) := by rw [IntWalk.wrap64_in _ ⟨by omega, by omega⟩]; push_cast; rfl
  rw [ew]
  refine ⟨dat_more hk hx hq (by rw [List.map_take]; exact hown) hf, ?_⟩
  show _ - ((p + 1 : Nat) : Int).toNat < _ - (p : Int).toNat
  rw [Int.toNat_natCast, Int.toNat_natCast]
  omega

theorem dat_le {L p q : Nat} (h : p ≤ q) : L + 1 - (intOf (Value.int IntKind.i64 (q : Int))).toNat ≤ L + 1 - (intOf (Value.int IntKind.i64 (p : Int))).toNat := by
  show _ - (q : Int).toNat ≤ _ - (p : Int).toNat
  rw [Int.toNat_natCast, Int.toNat_natCast]
  omega

theorem info68 : (Tryd.prog.info? 68).map (fun i => (i.zero, i.size, i.bytes)) = some (some (.agg #[.int .i64 0, .slice none 0 0]), 2, 32) := by kernel_rfl

theorem und59 : Tryd.prog.underlying 59 = some (.slice 68) := by kernel_rfl

def segC (G : Nat) (m : Int) (off len cap : Nat) : List Value := [.int .i64 m, .slice (some ⟨G, off, none⟩) len cap]

/-- What Segments hands back. -/
def SegPost (w : World) (G : Nat) (D : List Nat) (e : Ending) (w' : World) : Prop :=
  ∃ (sa da : Option Addr) (sc dc c0 c1 c2 c3 : Nat), e = .returned (.tuple #[.slice sa 4 sc, .slice da D.length dc, .bool true]) ∧ 130 ≤ c0 ∧ 15 ≤ c1 ∧ 416 ≤ c2 ∧ 10 ≤ c3 ∧
    w'.ownsRow w.heap.size 68 2 (.slice sa 4 sc) 4 (segC G 219 6 130 c0 ++ segC G 192 140 15 c1 ++ segC G 196 159 416 c2 ++ segC G 218 579 10 c3) ∧
    w'.ownsRow w.heap.size 5 1 (.slice da D.length dc) D.length (D.map fun (d : Nat) => Value.int .u8 (d : Int)) ∧ Fr (fun _ => False) w w'

theorem seg_post {w wv wr : World} {G : Nat} {D : List Nat} {sa da : Option Addr} {sc dc c0 c1 c2 c3 : Nat}
    (h : wv.ownsRow w.heap.size 68 2 (.slice sa 4 sc) 4 (segC G 219 6 130 c0 ++ segC G 192 140 15 c1 ++ segC G 196 159 416 c2 ++ segC G 218 579 10 c3)) (hf : Fr (fun _ => False) w wv)
    (hd : wr.ownsRow wv.heap.size 5 1 (.slice da D.length dc) D.length ((List.take D.length D).map fun (d : Nat) => Value.int .u8 (d : Int))) (hr : Fr (fun _ => False) wv wr) (k0 : 130 ≤ c0) (k1 : 15 ≤ c1) (k2 : 416 ≤ c2) (k3 : 10 ≤ c3) :
    SegPost w G D (.returned (.tuple #[.slice sa 4 sc, .slice da D.length dc, .bool true])) wr := by
  rw [List.take_of_length_le (Nat.le_refl _)] at hd
  exact ⟨sa, da, sc, dc, c0, c1, c2, c3, rfl, k0, k1, k2, k3, ownsRow_of_block h (fun k hk => hr.block k (h.lt k hk).2 (fun e => e)), ownsRow_base hd hf.size, hf.trans hr (fun _ _ e => e)⟩

theorem segC_one (G : Nat) (m : Int) (off len cap : Nat) : ∀ u ∈ segC G m off len cap, u.oneCell' = true := by
  intro u hu
  simp only [segC, List.mem_cons, List.not_mem_nil, or_false] at hu
  rcases hu with rfl | rfl <;> rfl

/-- The segments that have been met. -/
def SegRel (w0 : World) (xs : List Value) (k : Nat) (v : Value) (wr : World) : Prop := wr.ownsRow w0.heap.size 68 2 v k xs ∧ Fr (fun _ => False) w0 wr

structure SegRdy (w0 wc wa : World) (v : Value) (k : Nat) (xs news : List Value) : Prop where
  own : wa.ownsRow w0.heap.size 68 2 v k xs
  size : w0.heap.size ≤ wa.heap.size
  fr : Fr (fun _ => False) w0 wa
  new : ∀ j u, news[j]? = some u → wa.cell? ((⟨wc.heap.size, 0, none⟩ : Addr).add j) = some u

theorem seg_ready {w0 wr : World} {k : Nat} {v : Value} {xs : List Value} (h : SegRel w0 xs k v wr) (news : List Value) : SegRdy w0 wr (wr.alloc (.cells news.toArray 68)).drew v k xs news :=
  ⟨ownsRow_of_block h.1 (fun k hk => Below.heap_alloc _ _ _ (h.1.lt k hk).2), (h.2.alloc (.cells news.toArray 68)).drew.size, (h.2.alloc _).drew, new_cells wr news 68⟩

theorem SegRdy.grown {w0 wc wa w1 : World} {k : Nat} {v : Value} {xs news : List Value} (h : SegRdy w0 wc wa v k xs news) (hg : wa.grownBy w1 v.ownBlock) : Fr (fun _ => False) w0 w1 :=
  h.fr.grown hg (fun k hk e => by have := (h.own.lt k e).1; omega)

set_option maxHeartbeats 2000000 in
theorem segments_any {w : World} {G C N : Nat} {dq sf dh ss : List Int} {D : List Nat} (hL : FileL dq sf dh ss) (hb : BodyW w G 0 (fileB dq sf dh ss (stuff D))) (hN : 591 + (stuff D).length = N) (hn : N ≤ 300000) (hC : N ≤ C) :
    Calls Tryd.prog 12 #[.slice (some ⟨G, 0, none⟩) N C] w (SegPost w G D) := by
  have hlen := file_length (st := stuff D) hL
  have b0 := hb.cell 0 (by rw [hlen]; omega)
  have b1 := hb.cell 1 (by rw [hlen]; omega)
  have g0 : (fileB dq sf dh ss (stuff D)).getD 0 0 = 255 := rfl
  have g1 : (fileB dq sf dh ss (stuff D)).getD 1 0 = 216 := rfl
  rw [g0] at b0
  rw [g1] at b1
  have y0 := hb.cell (589 + (stuff D).length + 0) (by rw [hlen]; omega)
  have y1 := hb.cell (589 + (stuff D).length + 1) (by rw [hlen]; omega)
  rw [file_end hL 0 (by omega)] at y0
  rw [file_end hL 1 (by omega)] at y1
  obtain ⟨M, hM⟩ : ∃ M, 589 + (stuff D).length = M := ⟨_, rfl⟩
  rw [hM] at y0 y1
  have eM : ((N : Int) - 2) = (M : Int) := by omega
  have eM1 : ((N : Int) - 1) = ((M + 1 : Nat) : Int) := by omega
  have wM : IntKind.i64.wrap ((N : Int) - 2) = (M : Int) := by rw [eM]; exact wr64 M (by omega)
  have wM1 : IntKind.i64.wrap ((N : Int) - 1) = ((M + 1 : Nat) : Int) := by rw [eM1]; exact wr64 (M + 1) (by omega)
  have vM : wrap64 ((N : Int) - 2) = (M : Int) := by rw [eM]; exact IntWalk.wrap64_in _ ⟨by omega, by omega⟩
  have vM1 : wrap64 ((N : Int) - 1) = ((M + 1 : Nat) : Int) := by rw [eM1]; exact IntWalk.wrap64_in _ ⟨by omega, by omega⟩
  have m0 : (0 : Int) ≤ (M : Int) := by omega
  have m1 : (M : Int) < (N : Int) := by omega
  have m2 : (0 : Int) ≤ ((M + 1 : Nat) : Int) := by omega
  have m3 : ((M + 1 : Nat) : Int) < (N : Int) := by omega
  have n4 : ¬ ((N : Int) < 4) := by omega
  have HB := hu hb
  have HN := hu hN
  have HM := hu hM
  simp only [Nat.zero_add, Nat.add_zero, List.getD_cons_zero, List.getD_cons_succ] at b0 b1 y0 y1
  clear hb hlen g0 g1 hN hM
  go_enter Tryd.func12, Tryd.ntmps12
  go_wp2
  clear b0 b1 y0 y1 eM eM1 wM wM1 vM vM1 m0 m1 m2 m3 n4
  obtain ⟨L0, hLL⟩ : ∃ L0, M - 2 = L0 := ⟨_, rfl⟩
  simp only [hLL]
  have hLM : L0 = 587 + (stuff D).length := by have h1 := HM.out (); omega
  have HLM0 := hu hLM
  clear hLL
  obtain ⟨Kc0, hK⟩ : ∃ Kc0, C - 2 = Kc0 := ⟨_, rfl⟩
  simp only [hK]
  have hKL0 : L0 + 2 ≤ Kc0 := by have h1 := HM.out (); have h2 := HN.out (); omega
  clear hK
  have hr0 : SegRel w [] 0 (.slice none 0 0) w := ⟨World.ownsRow_nil _ _ _ _, Fr.refl _ _⟩
  refine wp_loop_rounds 5 ?_
  have hbw := (HB.out ()).frame hr0.2 (fun e => e)
  have e0 := hbw.cell (2 + 0) (by rw [file_length hL]; omega)
  rw [file_dq hL 0 (by simp)] at e0
  have e1 := hbw.cell (2 + 1) (by rw [file_length hL]; omega)
  rw [file_dq hL 1 (by simp)] at e1
  have e2 := hbw.cell (2 + 2) (by rw [file_length hL]; omega)
  rw [file_dq hL 2 (by simp)] at e2
  have e3 := hbw.cell (2 + 3) (by rw [file_length hL]; omega)
  rw [file_dq hL 3 (by simp)] at e3
  simp only [List.cons_append, List.nil_append, List.getD_cons_zero, List.getD_cons_succ, Nat.zero_add, Nat.reduceAdd] at e0 e1 e2 e3
  have orr : bits BinOp.or IntKind.i64 (IntKind.i64.wrap (IntKind.i64.wrap 0 * 256)) (IntKind.i64.wrap 132) = 132 := by decide
  have orr2 : bits BinOp.or IntKind.i64 0 132 = 132 := by decide
  have wT : IntKind.i64.wrap 134 = 134 := by decide
  have kI : (134 : Int) ≤ (Kc0 : Int) := by omega
  have k5 : ¬ (Kc0 = 134) := by omega
  have k4 : ¬ (Kc0 = 4) := by omega
  have l4 : ¬ ((L0 : Int) < 4) := by omega
  have l5 : (0 : Int) < (L0 : Int) := by omega
  have l6 : (1 : Int) < (L0 : Int) := by omega
  have l7 : (2 : Int) < (L0 : Int) := by omega
  have l8 : (3 : Int) < (L0 : Int) := by omega
  have l9 : ¬ ((L0 : Int) < 134) := by omega
  have k1 : 134 ≤ Kc0 := by omega
  have k2 : 134 ≤ L0 := by omega
  clear hLM
  have HR := hu hr0
  clear hbw hr0
  rw [rounds_succ]
  go_wp2
  go_quiet (fail)
  have hr1 : SegRel w [] 0 (.slice none 0 0) (w.drewN nq) := ⟨ownsRow_of_block (HR.out ()).1 (fun _ _ => rfl), ((HR.out ()).2).drewN nq⟩
  have e1' : (w.drewN nq).cell? ⟨G, 3, none⟩ = some (.int .u8 219) := e1
  obtain ⟨wd, hwd⟩ : ∃ z, w.drewN nq = z := ⟨_, rfl⟩
  rw [hwd] at hr1 e1'
  simp only [hwd]
  clear hwd e0 e1 e2 e3 HR
  have HR := hu hr1
  clear hr1
  go_wp2
  refine wp_region_takes 10 12 (fun w' => w'.cell? ⟨G, 3, none⟩ = some (.int .u8 219)) (by kernel_rfl) (by kernel_rfl) (by kernel_rfl) (by kernel_rfl) (by decide) rfl (fun c a a' w e h => ⟨e.symm.trans h.1, h.2⟩) e1' ?_
  simp only [List.take_succ_cons, List.take_zero]
  iterate 10
    refine chainY_cons (v := ?_) rfl (fun w' hS => ?_) ?_
    rotate_left
    · go_simp
      try with_reducible rfl
    simp only [Act.put, List.setIfInBounds_toArray, List.set_cons_zero, List.set_cons_succ]
  refine chainY_nil ?_
  refine wpAnyH_next 10 rfl (by kernel_rfl) (fun K hK => ?_)
  go_simp
  have rd := seg_ready (HR.out ()) (segC G 219 6 130 (Kc0 - 4))
  refine hK _ _ (alloc_cell _ e1') ?_
  change wpAnyH _ _ _ _ _ _ _ _ (wd.alloc (.cells (segC G 219 6 130 (Kc0 - 4)).toArray 68)).drew
  obtain ⟨wa, hwa⟩ : ∃ z, (wd.alloc (.cells (segC G 219 6 130 (Kc0 - 4)).toArray 68)).drew = z := ⟨_, rfl⟩
  rw [hwa] at rd ⊢
  clear hK K hwa
  refine wpAnyH_next 11 rfl (by kernel_rfl) (fun K hK => ?_)
  obtain ⟨i0, hi, hz0, hz1, hz2⟩ := info_parts info68
  refine step_append_moved rfl (.tmp 74) (.tmp 84) 59 rfl w.heap.size 68 i0 _ 2 32 und59 hi hz0 hz1 hz2 rfl (by decide) (.slice none 0 0) 0 _ rfl rd.own ⟨wd.heap.size, 0, none⟩ 1 1 (segC G 219 6 130 (Kc0 - 4)) rfl rfl rd.new (segC_one _ _ _ _ _) (by unfold maxLen; omega) (by omega) rd.size ?_
  intro v' wv0 hown hg
  obtain ⟨sa0, sc0, rfl⟩ := ownsRow_slice hown
  have hgr := rd.grown hg
  have e1 := ((HB.out ()).frame hgr (fun e => e)).cell 3 (by rw [file_length hL]; omega)
  rw [show 3 = 2 + 1 by rfl, file_dq hL 1 (by simp)] at e1
  simp only [List.cons_append, List.nil_append, List.getD_cons_zero, List.getD_cons_succ, Nat.zero_add, Nat.reduceAdd] at e1
  refine hK _ _ e1 ?_
  have HR1 := hu (show SegRel w _ _ _ wv0 from ⟨hown, hgr⟩)
  clear hK K hgr hown hg rd hi hz0 hz1 hz2 i0 HR e1'
  refine wpAnyH_done (by kernel_rfl) ?_ 0
  simp only [Tail, List.drop_succ_cons, List.drop_zero]
  go_wp2
  obtain ⟨L1, hLN⟩ : ∃ z, L0 - 134 = z := ⟨_, rfl⟩
  simp only [hLN]
  have HLMN0 := hu (show L1 = 453 + (stuff D).length by have h1 := HLM0.out (); omega)
  obtain ⟨Kc1, hKN⟩ : ∃ z, Kc0 - 134 = z := ⟨_, rfl⟩
  simp only [hKN]
  have hKL1 : L1 + 2 ≤ Kc1 := by omega
  clear hLN hKN HLM0 orr orr2 wT kI k4 k5 l4 l5 l6 l7 l8 l9 k1 k2 e1
  have HKL0 := hu hKL0
  clear hKL0
  have hr0 := HR1.out ()
  clear HR1
  have hLM := HLMN0.out ()
  clear HLMN0
  have HLM1 := hu hLM
  have hbw := (HB.out ()).frame hr0.2 (fun e => e)
  have e0 := hbw.cell (136 + 0) (by rw [file_length hL]; omega)
  rw [file_sf hL 0 (by simp)] at e0
  have e1 := hbw.cell (136 + 1) (by rw [file_length hL]; omega)
  rw [file_sf hL 1 (by simp)] at e1
  have e2 := hbw.cell (136 + 2) (by rw [file_length hL]; omega)
  rw [file_sf hL 2 (by simp)] at e2
  have e3 := hbw.cell (136 + 3) (by rw [file_length hL]; omega)
  rw [file_sf hL 3 (by simp)] at e3
  simp only [List.cons_append, List.nil_append, List.getD_cons_zero, List.getD_cons_succ, Nat.zero_add, Nat.reduceAdd] at e0 e1 e2 e3
  have orr : bits BinOp.or IntKind.i64 (IntKind.i64.wrap (IntKind.i64.wrap 0 * 256)) (IntKind.i64.wrap 17) = 17 := by decide
  have orr2 : bits BinOp.or IntKind.i64 0 17 = 17 := by decide
  have wT : IntKind.i64.wrap 19 = 19 := by decide
  have kI : (19 : Int) ≤ (Kc1 : Int) := by omega
  have k5 : ¬ (Kc1 = 19) := by omega
  have k4 : ¬ (Kc1 = 4) := by omega
  have l4 : ¬ ((L1 : Int) < 4) := by omega
  have l5 : (0 : Int) < (L1 : Int) := by omega
  have l6 : (1 : Int) < (L1 : Int) := by omega
  have l7 : (2 : Int) < (L1 : Int) := by omega
  have l8 : (3 : Int) < (L1 : Int) := by omega
  have l9 : ¬ ((L1 : Int) < 19) := by omega
  have k1 : 19 ≤ Kc1 := by omega
  have k2 : 19 ≤ L1 := by omega
  clear hLM
  have HR := hu hr0
  clear hbw hr0
  rw [rounds_succ]
  go_wp2
  go_quiet (fail)
  have hr1 : SegRel w ([] ++ (segC G 219 6 130 (Kc0 - 4))) 1 (.slice sa0 1 sc0) (wv0.drewN nq) := ⟨ownsRow_of_block (HR.out ()).1 (fun _ _ => rfl), ((HR.out ()).2).drewN nq⟩
  have e1' : (wv0.drewN nq).cell? ⟨G, 137, none⟩ = some (.int .u8 192) := e1
  obtain ⟨wd, hwd⟩ : ∃ z, wv0.drewN nq = z := ⟨_, rfl⟩
  rw [hwd] at hr1 e1'
  simp only [hwd]
  clear hwd e0 e1 e2 e3 HR
  have HR := hu hr1
  clear hr1
  go_wp2
  refine wp_region_takes 10 12 (fun w' => w'.cell? ⟨G, 137, none⟩ = some (.int .u8 192)) (by kernel_rfl) (by kernel_rfl) (by kernel_rfl) (by kernel_rfl) (by decide) rfl (fun c a a' w e h => ⟨e.symm.trans h.1, h.2⟩) e1' ?_
  simp only [List.take_succ_cons, List.take_zero]
  iterate 10
    refine chainY_cons (v := ?_) rfl (fun w' hS => ?_) ?_
    rotate_left
    · go_simp
      try with_reducible rfl
    simp only [Act.put, List.setIfInBounds_toArray, List.set_cons_zero, List.set_cons_succ]
  refine chainY_nil ?_
  refine wpAnyH_next 10 rfl (by kernel_rfl) (fun K hK => ?_)
  go_simp
  have rd := seg_ready (HR.out ()) (segC G 192 140 15 (Kc1 - 4))
  refine hK _ _ (alloc_cell _ e1') ?_
  change wpAnyH _ _ _ _ _ _ _ _ (wd.alloc (.cells (segC G 192 140 15 (Kc1 - 4)).toArray 68)).drew
  obtain ⟨wa, hwa⟩ : ∃ z, (wd.alloc (.cells (segC G 192 140 15 (Kc1 - 4)).toArray 68)).drew = z := ⟨_, rfl⟩
  rw [hwa] at rd ⊢
  clear hK K hwa
  refine wpAnyH_next 11 rfl (by kernel_rfl) (fun K hK => ?_)
  obtain ⟨i0, hi, hz0, hz1, hz2⟩ := info_parts info68
  refine step_append_moved rfl (.tmp 74) (.tmp 84) 59 rfl w.heap.size 68 i0 _ 2 32 und59 hi hz0 hz1 hz2 rfl (by decide) (.slice sa0 1 sc0) 1 _ rfl rd.own ⟨wd.heap.size, 0, none⟩ 1 1 (segC G 192 140 15 (Kc1 - 4)) rfl rfl rd.new (segC_one _ _ _ _ _) (by unfold maxLen; omega) (by omega) rd.size ?_
  intro v' wv1 hown hg
  obtain ⟨sa1, sc1, rfl⟩ := ownsRow_slice hown
  have hgr := rd.grown hg
  have e1 := ((HB.out ()).frame hgr (fun e => e)).cell 137 (by rw [file_length hL]; omega)
  rw [show 137 = 136 + 1 by rfl, file_sf hL 1 (by simp)] at e1
  simp only [List.cons_append, List.nil_append, List.getD_cons_zero, List.getD_cons_succ, Nat.zero_add, Nat.reduceAdd] at e1
  refine hK _ _ e1 ?_
  have HR1 := hu (show SegRel w _ _ _ wv1 from ⟨hown, hgr⟩)
  clear hK K hgr hown hg rd hi hz0 hz1 hz2 i0 HR e1'
  refine wpAnyH_done (by kernel_rfl) ?_ 0
  simp only [Tail, List.drop_succ_cons, List.drop_zero]
  go_wp2
  obtain ⟨L2, hLN⟩ : ∃ z, L1 - 19 = z := ⟨_, rfl⟩
  simp only [hLN]
  have HLMN1 := hu (show L2 = 434 + (stuff D).length by have h1 := HLM1.out (); omega)
  obtain ⟨Kc2, hKN⟩ : ∃ z, Kc1 - 19 = z := ⟨_, rfl⟩
  simp only [hKN]
  have hKL2 : L2 + 2 ≤ Kc2 := by omega
  clear hLN hKN HLM1 orr orr2 wT kI k4 k5 l4 l5 l6 l7 l8 l9 k1 k2 e1
  have HKL1 := hu hKL1
  clear hKL1
  have hr0 := HR1.out ()
  clear HR1
  have hLM := HLMN1.out ()
  clear HLMN1
  have HLM2 := hu hLM
  have hbw := (HB.out ()).frame hr0.2 (fun e => e)
  have e0 := hbw.cell (155 + 0) (by rw [file_length hL]; omega)
  rw [file_dh hL 0 (by simp)] at e0
  have e1 := hbw.cell (155 + 1) (by rw [file_length hL]; omega)
  rw [file_dh hL 1 (by simp)] at e1
  have e2 := hbw.cell (155 + 2) (by rw [file_length hL]; omega)
  rw [file_dh hL 2 (by simp)] at e2
  have e3 := hbw.cell (155 + 3) (by rw [file_length hL]; omega)
  rw [file_dh hL 3 (by simp)] at e3
  simp only [List.cons_append, List.nil_append, List.getD_cons_zero, List.getD_cons_succ, Nat.zero_add, Nat.reduceAdd] at e0 e1 e2 e3
  have orr : bits BinOp.or IntKind.i64 (IntKind.i64.wrap (IntKind.i64.wrap 1 * 256)) (IntKind.i64.wrap 162) = 418 := by decide
  have orr2 : bits BinOp.or IntKind.i64 256 162 = 418 := by decide
  have wT : IntKind.i64.wrap 420 = 420 := by decide
  have kI : (420 : Int) ≤ (Kc2 : Int) := by omega
  have k5 : ¬ (Kc2 = 420) := by omega
  have k4 : ¬ (Kc2 = 4) := by omega
  have l4 : ¬ ((L2 : Int) < 4) := by omega
  have l5 : (0 : Int) < (L2 : Int) := by omega
  have l6 : (1 : Int) < (L2 : Int) := by omega
  have l7 : (2 : Int) < (L2 : Int) := by omega
  have l8 : (3 : Int) < (L2 : Int) := by omega
  have l9 : ¬ ((L2 : Int) < 420) := by omega
  have k1 : 420 ≤ Kc2 := by omega
  have k2 : 420 ≤ L2 := by omega
  clear hLM
  have HR := hu hr0
  clear hbw hr0
  rw [rounds_succ]
  go_wp2
  go_quiet (fail)
  have hr1 : SegRel w (([] ++ (segC G 219 6 130 (Kc0 - 4))) ++ (segC G 192 140 15 (Kc1 - 4))) 2 (.slice sa1 2 sc1) (wv1.drewN nq) := ⟨ownsRow_of_block (HR.out ()).1 (fun _ _ => rfl), ((HR.out ()).2).drewN nq⟩
  have e1' : (wv1.drewN nq).cell? ⟨G, 156, none⟩ = some (.int .u8 196) := e1
  obtain ⟨wd, hwd⟩ : ∃ z, wv1.drewN nq = z := ⟨_, rfl⟩
  rw [hwd] at hr1 e1'
  simp only [hwd]
  clear hwd e0 e1 e2 e3 HR
  have HR := hu hr1
  clear hr1
  go_wp2
  refine wp_region_takes 10 12 (fun w' => w'.cell? ⟨G, 156, none⟩ = some (.int .u8 196)) (by kernel_rfl) (by kernel_rfl) (by kernel_rfl) (by kernel_rfl) (by decide) rfl (fun c a a' w e h => ⟨e.symm.trans h.1, h.2⟩) e1' ?_
  simp only [List.take_succ_cons, List.take_zero]
  iterate 10
    refine chainY_cons (v := ?_) rfl (fun w' hS => ?_) ?_
    rotate_left
    · go_simp
      try with_reducible rfl
    simp only [Act.put, List.setIfInBounds_toArray, List.set_cons_zero, List.set_cons_succ]
  refine chainY_nil ?_
  refine wpAnyH_next 10 rfl (by kernel_rfl) (fun K hK => ?_)
  go_simp
  have rd := seg_ready (HR.out ()) (segC G 196 159 416 (Kc2 - 4))
  refine hK _ _ (alloc_cell _ e1') ?_
  change wpAnyH _ _ _ _ _ _ _ _ (wd.alloc (.cells (segC G 196 159 416 (Kc2 - 4)).toArray 68)).drew
  obtain ⟨wa, hwa⟩ : ∃ z, (wd.alloc (.cells (segC G 196 159 416 (Kc2 - 4)).toArray 68)).drew = z := ⟨_, rfl⟩
  rw [hwa] at rd ⊢
  clear hK K hwa
  refine wpAnyH_next 11 rfl (by kernel_rfl) (fun K hK => ?_)
  obtain ⟨i0, hi, hz0, hz1, hz2⟩ := info_parts info68
  refine step_append_moved rfl (.tmp 74) (.tmp 84) 59 rfl w.heap.size 68 i0 _ 2 32 und59 hi hz0 hz1 hz2 rfl (by decide) (.slice sa1 2 sc1) 2 _ rfl rd.own ⟨wd.heap.size, 0, none⟩ 1 1 (segC G 196 159 416 (Kc2 - 4)) rfl rfl rd.new (segC_one _ _ _ _ _) (by unfold maxLen; omega) (by omega) rd.size ?_
  intro v' wv2 hown hg
  obtain ⟨sa2, sc2, rfl⟩ := ownsRow_slice hown
  have hgr := rd.grown hg
  have e1 := ((HB.out ()).frame hgr (fun e => e)).cell 156 (by rw [file_length hL]; omega)
  rw [show 156 = 155 + 1 by rfl, file_dh hL 1 (by simp)] at e1
  simp only [List.cons_append, List.nil_append, List.getD_cons_zero, List.getD_cons_succ, Nat.zero_add, Nat.reduceAdd] at e1
  refine hK _ _ e1 ?_
  have HR1 := hu (show SegRel w _ _ _ wv2 from ⟨hown, hgr⟩)
  clear hK K hgr hown hg rd hi hz0 hz1 hz2 i0 HR e1'
  refine wpAnyH_done (by kernel_rfl) ?_ 0
  simp only [Tail, List.drop_succ_cons, List.drop_zero]
  go_wp2
  obtain ⟨L3, hLN⟩ : ∃ z, L2 - 420 = z := ⟨_, rfl⟩
  simp only [hLN]
  have HLMN2 := hu (show L3 = 14 + (stuff D).length by have h1 := HLM2.out (); omega)
  obtain ⟨Kc3, hKN⟩ : ∃ z, Kc2 - 420 = z := ⟨_, rfl⟩
  simp only [hKN]
  have hKL3 : L3 + 2 ≤ Kc3 := by omega
  clear hLN hKN HLM2 orr orr2 wT kI k4 k5 l4 l5 l6 l7 l8 l9 k1 k2 e1
  have HKL2 := hu hKL2
  clear hKL2
  have hr0 := HR1.out ()
  clear HR1
  have hLM := HLMN2.out ()
  clear HLMN2
  have HLM3 := hu hLM
  have hbw := (HB.out ()).frame hr0.2 (fun e => e)
  have e0 := hbw.cell (575 + 0) (by rw [file_length hL]; omega)
  rw [file_ss hL 0 (by simp)] at e0
  have e1 := hbw.cell (575 + 1) (by rw [file_length hL]; omega)
  rw [file_ss hL 1 (by simp)] at e1
  have e2 := hbw.cell (575 + 2) (by rw [file_length hL]; omega)
  rw [file_ss hL 2 (by simp)] at e2
  have e3 := hbw.cell (575 + 3) (by rw [file_length hL]; omega)
  rw [file_ss hL 3 (by simp)] at e3
  simp only [List.cons_append, List.nil_append, List.getD_cons_zero, List.getD_cons_succ, Nat.zero_add, Nat.reduceAdd] at e0 e1 e2 e3
  have orr : bits BinOp.or IntKind.i64 (IntKind.i64.wrap (IntKind.i64.wrap 0 * 256)) (IntKind.i64.wrap 12) = 12 := by decide
  have orr2 : bits BinOp.or IntKind.i64 0 12 = 12 := by decide
  have wT : IntKind.i64.wrap 14 = 14 := by decide
  have kI : (14 : Int) ≤ (Kc3 : Int) := by omega
  have k5 : ¬ (Kc3 = 14) := by omega
  have k4 : ¬ (Kc3 = 4) := by omega
  have l4 : ¬ ((L3 : Int) < 4) := by omega
  have l5 : (0 : Int) < (L3 : Int) := by omega
  have l6 : (1 : Int) < (L3 : Int) := by omega
  have l7 : (2 : Int) < (L3 : Int) := by omega
  have l8 : (3 : Int) < (L3 : Int) := by omega
  have l9 : ¬ ((L3 : Int) < 14) := by omega
  have k1 : 14 ≤ Kc3 := by omega
  have k2 : 14 ≤ L3 := by omega
  clear hLM
  have HR := hu hr0
  clear hbw hr0
  rw [rounds_succ]
  go_wp2
  go_quiet (fail)
  have hr1 : SegRel w ((([] ++ (segC G 219 6 130 (Kc0 - 4))) ++ (segC G 192 140 15 (Kc1 - 4))) ++ (segC G 196 159 416 (Kc2 - 4))) 3 (.slice sa2 3 sc2) (wv2.drewN nq) := ⟨ownsRow_of_block (HR.out ()).1 (fun _ _ => rfl), ((HR.out ()).2).drewN nq⟩
  have e1' : (wv2.drewN nq).cell? ⟨G, 576, none⟩ = some (.int .u8 218) := e1
  obtain ⟨wd, hwd⟩ : ∃ z, wv2.drewN nq = z := ⟨_, rfl⟩
  rw [hwd] at hr1 e1'
  simp only [hwd]
  clear hwd e0 e1 e2 e3 HR
  have HR := hu hr1
  clear hr1
  go_wp2
  refine wp_region_takes 10 12 (fun w' => w'.cell? ⟨G, 576, none⟩ = some (.int .u8 218)) (by kernel_rfl) (by kernel_rfl) (by kernel_rfl) (by kernel_rfl) (by decide) rfl (fun c a a' w e h => ⟨e.symm.trans h.1, h.2⟩) e1' ?_
  simp only [List.take_succ_cons, List.take_zero]
  iterate 10
    refine chainY_cons (v := ?_) rfl (fun w' hS => ?_) ?_
    rotate_left
    · go_simp
      try with_reducible rfl
    simp only [Act.put, List.setIfInBounds_toArray, List.set_cons_zero, List.set_cons_succ]
  refine chainY_nil ?_
  refine wpAnyH_next 10 rfl (by kernel_rfl) (fun K hK => ?_)
  go_simp
  have rd := seg_ready (HR.out ()) (segC G 218 579 10 (Kc3 - 4))
  refine hK _ _ (alloc_cell _ e1') ?_
  change wpAnyH _ _ _ _ _ _ _ _ (wd.alloc (.cells (segC G 218 579 10 (Kc3 - 4)).toArray 68)).drew
  obtain ⟨wa, hwa⟩ : ∃ z, (wd.alloc (.cells (segC G 218 579 10 (Kc3 - 4)).toArray 68)).drew = z := ⟨_, rfl⟩
  rw [hwa] at rd ⊢
  clear hK K hwa
  refine wpAnyH_next 11 rfl (by kernel_rfl) (fun K hK => ?_)
  obtain ⟨i0, hi, hz0, hz1, hz2⟩ := info_parts info68
  refine step_append_moved rfl (.tmp 74) (.tmp 84) 59 rfl w.heap.size 68 i0 _ 2 32 und59 hi hz0 hz1 hz2 rfl (by decide) (.slice sa2 3 sc2) 3 _ rfl rd.own ⟨wd.heap.size, 0, none⟩ 1 1 (segC G 218 579 10 (Kc3 - 4)) rfl rfl rd.new (segC_one _ _ _ _ _) (by unfold maxLen; omega) (by omega) rd.size ?_
  intro v' wv3 hown hg
  obtain ⟨sa3, sc3, rfl⟩ := ownsRow_slice hown
  have hgr := rd.grown hg
  have e1 := ((HB.out ()).frame hgr (fun e => e)).cell 576 (by rw [file_length hL]; omega)
  rw [show 576 = 575 + 1 by rfl, file_ss hL 1 (by simp)] at e1
  simp only [List.cons_append, List.nil_append, List.getD_cons_zero, List.getD_cons_succ, Nat.zero_add, Nat.reduceAdd] at e1
  refine hK _ _ e1 ?_
  have HR1 := hu (show SegRel w _ _ _ wv3 from ⟨hown, hgr⟩)
  clear hK K hgr hown hg rd hi hz0 hz1 hz2 i0 HR e1'
  refine wpAnyH_done (by kernel_rfl) ?_ 0
  simp only [Tail, List.drop_succ_cons, List.drop_zero]
  go_wp2
  obtain ⟨L4, hL4⟩ : ∃ z, L3 - 14 = z := ⟨_, rfl⟩
  simp only [hL4]
  have hS4 : L4 = (stuff D).length := by have h1 := HLM3.out (); omega
  clear HLM3 hL4 orr orr2 wT kI k4 k5 l4 l5 l6 l7 l8 l9 k1 k2 e1
  have HS4 := hu hS4
  clear hS4
  go_loopw [7, 3, 2] (fun i v sg wr => sg = .slice sa3 4 sc3 ∧ DatRel wv3 D i v wr) (fun i _ _ _ => (stuff D).length + 1 - (intOf i).toNat)
  case atStart => exact ⟨rfl, 0, by omega, rfl, World.ownsRow_nil _ _ _ _, Fr.refl _ _⟩
  case round =>
    obtain ⟨rfl, k, hk, rfl, hown, hf⟩ := hrel
    obtain ⟨da, dc, rfl⟩ := ownsRow_slice hown
    by_cases hkD : k < D.length
    · have hbw := ((HB.out ()).frame (HR1.out ()).2 (fun e => e)).frame hf (fun e => e)
      have hple := pos_le hkD
      have hst := pos_step hkD
      have hpl : pos D k < (stuff D).length := by split at hple <;> omega
      have hc := hbw.cell (589 + pos D k) (by rw [file_length hL]; omega)
      rw [file_st hL (pos D k) hpl, pos_byte hkD, Nat.zero_add] at hc
      obtain ⟨x, hx⟩ : ∃ x, D.getD k 0 = x := ⟨_, rfl⟩
      obtain ⟨p, hp⟩ : ∃ p, pos D k = p := ⟨_, rfl⟩
      rw [hx, hp] at hc
      rw [hx, hp] at hple hst
      rw [hp] at hpl ⊢
      have q0 : (0 : Int) ≤ (p : Int) := by omega
      have q1 : (p : Int) < (L4 : Int) := by have := HS4.out (); omega
      have RD := hu (dat_ready hown hf (.int .u8 (x : Int)))
      have ML := hu (show k + 1 ≤ maxLen by have h1 := hkD; have h2 := HN.out (); have h3 := pos_ge D; unfold maxLen; omega)
      have BL := hu (show (k + 1) * 1 ≤ 140737488355328 by have h1 := hkD; have h2 := HN.out (); have h3 := pos_ge D; omega)
      obtain ⟨i0, hi3, hz0, hz1, hz2⟩ := info_parts info5
      clear hbw hown hf
      have HX := hu hx
      have HP := hu hp
      clear hx hp
      go_upto_region 16 with (fail)
      go_wp2_with (at_builtin; refine wpList_append_moved _ rfl (.tmp 101) (.tmp 106) 25 rfl wv3.heap.size 5 i0 (.int .u8 0) 1 1 und25 hi3 hz0 hz1 hz2 rfl (by decide) _ _ _ rfl (RD.out ()).own _ 1 1 [.int .u8 (x : Int)] rfl rfl (RD.out ()).new ?c1 (ML.out ()) (BL.out ()) (RD.out ()).size ?_)
      case c1 => intro u hu; simp at hu; subst hu; rfl
      intro v' w1 hown hg _
      obtain ⟨a', c', rfl⟩ := ownsRow_slice hown
      have hf1 := (RD.out ()).fr.grown hg (fun k hk e => by have := ((RD.out ()).own.lt k e).1; omega)
      have hb1 := ((HB.out ()).frame (HR1.out ()).2 (fun e => e)).frame hf1 (fun e => e)
      have c0 := hb1.cell (589 + p) (by rw [file_length hL]; omega)
      rw [file_st hL p hpl, ← HP.out (), pos_byte hkD, HX.out (), HP.out (), Nat.zero_add] at c0
      have HO1 := hu hown
      have HF1 := hu hf1
      have HB1 := hu hb1
      clear hown hf1 hb1 hg hc
      by_cases h255 : x = 255
      · have x1 : ((x : Int) == 255) = true := by subst h255; rfl
        rw [if_pos h255] at hst hple
        have z1 := (HB1.out ()).cell (589 + (p + 1)) (by rw [file_length hL]; omega)
        rw [file_st hL (p + 1) (by omega), ← HP.out (), pos_zero hkD ((HX.out ()).trans h255), HP.out (), Nat.zero_add] at z1
        have hpl2 : p + 1 < (stuff D).length := by omega
        obtain ⟨q, hq⟩ : ∃ q, p + 1 = q := ⟨_, rfl⟩
        have q2 : (0 : Int) ≤ (q : Int) := by omega
        have q3 : (q : Int) < (L4 : Int) := by have := HS4.out (); omega
        have q4 : ¬ ((q : Int) = (L4 : Int)) := by omega
        have q5 : 589 + (p + 1) = 589 + q := by omega
        rw [q5] at z1
        have ev : Value.int IntKind.i64 (wrap64 ((p : Int) + 1)) = Value.int IntKind.i64 (q : Int) := by rw [IntWalk.wrap64_in _ ⟨by omega, by have := HN.out (); omega⟩, ← hq]; push_cast; rfl
        have HST := hu (show pos D (k + 1) = q + 1 by omega)
        have HQ := hu (show q < 300000 by have := HN.out (); omega)
        have HQ2 := hu (show q < (stuff D).length by omega)
        have HQ3 := hu (show p ≤ q by omega)
        clear hq q5 hple h255 hst hpl2
        go_wp2_with (fail)
        have hfin := dat_fin hkD (HX.out ()) (HST.out ()) (HQ.out ()) (HO1.out ()) (HF1.out ()) (HQ2.out ())
        exact ⟨⟨rfl, hfin.1⟩, Nat.lt_of_lt_of_le hfin.2 (dat_le (HQ3.out ()))⟩
      · have x1 : ¬ ((x : Int) = 255) := by omega
        rw [if_neg h255] at hst hple
        have HST := hu hst
        clear hst hple
        go_wp2
        have hp3 : p < 300000 := by have := HN.out (); omega
        have hfin := dat_fin hkD (HX.out ()) (HST.out ()) hp3 (HO1.out ()) (HF1.out ()) hpl
        exact ⟨⟨rfl, hfin.1⟩, hfin.2⟩
    · obtain rfl : k = D.length := by omega
      rw [pos_end, ← HS4.out ()]
      have HR2 := hu hown
      have HF2 := hu hf
      clear hown hf hk hkD
      go_wp2
      go_ret3
      have hs := (HR1.out ()).1
      have hKL3' := hKL3
      have q0 := HKL0.out ()
      have q1 := HKL1.out ()
      have q2 := HKL2.out ()
      exact seg_post hs (HR1.out ()).2 (HR2.out ()) (HF2.out ()) (by omega) (by omega) (by omega) (by omega)
end Go.Proofs.YtpophkigihfjoaaDoor
