/- What a block of coefficients becomes in the bit stream; the walk of writeBlock. -/
import Derived.Test.YtpophkigihfjoaaDoorRle
import Derived.Test.YtpophkigihfjoaaDoorCols
import Derived.Test.YtpophkigihfjoaaDoorRowsW
namespace Go.Proofs.YtpophkigihfjoaaDoor
open Go.RowKit
set_option maxRecDepth 100000

/-- The forward transform of a block. -/
def dctP (M : List Int) : List Int := rowsTo (colsTo M 8) 8

theorem length_dctP (M : List Int) : (dctP M).length = M.length := by unfold dctP; rw [length_rowsTo, length_colsTo]

theorem fdct_any {w : World} {B : Nat} {M : List Int} (h : Blk w B (M.map I32) 135) (hl : M.length = 64) :
    Calls Tryd.prog 58 #[.pointer (some ⟨B, 0, none⟩)] w fun e w' => e = .returned (.tuple #[]) ∧ Blk w' B ((dctP M).map I32) 135 ∧ Fr (· = B) w w' := by
  have H := Lib.hid h
  have HL := Lib.hid hl
  clear h hl
  go_enter Tryd.func58, Tryd.ntmps58
  go_wp2_with fail
  refine (cols_any H.out HL.out).mono ?_
  rintro e w1 ⟨rfl, h1, f1⟩
  have H1 := Lib.hid h1
  have F1 := Lib.hid f1
  clear h1 f1
  go_wp2_with fail
  refine (rows_any H1.out (by rw [length_colsTo]; exact HL.out)).mono ?_
  rintro e w2 ⟨rfl, h2, f2⟩
  have H2 := Lib.hid h2
  have F2 := Lib.hid f2
  clear h2 f2
  go_wp2
  go_end0
  exact ⟨rfl, H2.out, F1.out.trans F2.out (fun _ _ h => h)⟩

/-- A symbol by a table of codes (an entry: the length above 24 bits of code). -/
def BS.huff (s : BS) (l : List Nat) (k : Nat) : BS := s.put (l.getD k 0 % 16777216) (l.getD k 0 / 16777216)

/-- A run and a number by a table of codes. -/
def BS.code (s : BS) (l : List Nat) (run : Nat) (x : Int) : BS := (s.huff l (run * 16 + cat x.natAbs)).put (mag x) (cat x.natAbs)

/-- So many runs of sixteen zeros. -/
def BS.zrl (s : BS) (l : List Nat) : Nat → BS
  | 0 => s
  | n + 1 => (s.zrl l n).huff l 240

/-- A table of codes: each fits its length, which is at most 16. -/
structure Codes (l : List Nat) (len : Nat) : Prop where
  length : l.length = len
  fits : ∀ k, k < len → l.getD k 0 % 16777216 < 2 ^ (l.getD k 0 / 16777216) ∧ l.getD k 0 / 16777216 ≤ 16

theorem Codes.len_pos {l : List Nat} {len : Nat} (_ : Codes l len) : True := trivial

/-- One coefficient, in the order of the zigzag: x. -/
def acStep (l : List Nat) (x : Int) (p : BS × Nat) : BS × Nat :=
  if x = 0 then (p.1, p.2 + 1) else ((p.1.zrl l (p.2 / 16)).code l (p.2 % 16) x, 0)

/-- The first n coefficients behind the first one, f giving them. -/
def acN (l : List Nat) (f : Nat → Int) (s : BS) : Nat → BS × Nat
  | 0 => (s, 0)
  | n + 1 => acStep l (f (n + 1)) (acN l f s n)

/-- A block: d the difference of the first coefficient, f the others. -/
def BS.block (s : BS) (ld la : List Nat) (d : Int) (f : Nat → Int) : BS :=
  let p := acN la f (s.code ld 0 d) 63
  if 0 < p.2 then p.1.huff la 0 else p.1

theorem acN_run (l : List Nat) (f : Nat → Int) (s : BS) (n : Nat) : (acN l f s n).2 ≤ n := by
  induction n with
  | zero => exact Nat.le_refl 0
  | succ n ih =>
    show (acStep _ _ _).2 ≤ _
    unfold acStep
    split
    · show (acN l f s n).2 + 1 ≤ _; omega
    · exact Nat.zero_le _

/-- Where a table's slice lies in the encoder's block. -/
def Ids.LD (I : Ids) (qi : Nat) : Nat := if qi = 0 then I.L0 else I.L2
def Ids.LA (I : Ids) (qi : Nat) : Nat := if qi = 0 then I.L1 else I.L3

theorem EncW.cdc {w : World} {I : Ids} {v : Value} {c : List Int} {A nb : Nat} {sc q : List Int} (h : EncW w I v c A nb sc q) (qi : Nat) (hq : qi < 2) :
    w.cell? ⟨I.E, 148 + 2 * qi, none⟩ = some (.slice (some ⟨I.LD qi, 0, none⟩) 12 12) := by
  rcases (by omega : qi = 0 ∨ qi = 1) with rfl | rfl
  · exact h.clut 0 (by omega)
  · exact h.clut 2 (by omega)
theorem EncW.cac {w : World} {I : Ids} {v : Value} {c : List Int} {A nb : Nat} {sc q : List Int} (h : EncW w I v c A nb sc q) (qi : Nat) (hq : qi < 2) :
    w.cell? ⟨I.E, 148 + (2 * qi + 1), none⟩ = some (.slice (some ⟨I.LA qi, 0, none⟩) 251 251) := by
  rcases (by omega : qi = 0 ∨ qi = 1) with rfl | rfl
  · exact h.clut 1 (by omega)
  · exact h.clut 3 (by omega)

def unzigL : List Int := [0, 1, 8, 16, 9, 2, 3, 10, 17, 24, 32, 25, 18, 11, 4, 5, 12, 19, 26, 33, 40, 48, 41, 34, 27, 20, 13, 6, 7, 14, 21, 28, 35, 42, 49, 56, 57, 50, 43, 36, 29, 22, 15, 23, 30, 37, 44, 51, 58, 59, 52, 45, 38, 31, 39, 46, 53, 60, 61, 54, 47, 55, 62, 63]

/-- The package's tables in memory: the zigzag (block 1), the bit counts (block 2). -/
structure GlobW (w : World) : Prop where
  uz : ∀ i, i < 64 → w.cell? ⟨1, i, none⟩ = some (.int .i64 (unzigL.getD i 0))
  bc : ∀ i, i < 256 → w.cell? ⟨2, i, none⟩ = some (B8 (cat i))

/-- What writeBlock reads besides: the tables of codes of this component, the package's tables. -/
structure Env (w : World) (I : Ids) (v : Value) (qi : Nat) (ld la : List Nat) : Prop where
  bd : Blk w (I.LD qi) (ld.map W32) 91
  ba : Blk w (I.LA qi) (la.map W32) 91
  ad : Apart w I v (I.LD qi)
  aa : Apart w I v (I.LA qi)
  gl : GlobW w
  a1 : Apart w I v 1
  a2 : Apart w I v 2

theorem Env.adv {w w' : World} {I : Ids} {v v' : Value} {qi : Nat} {ld la : List Nat} (h : Env w I v qi ld la) (ha : AdvE I v v' w w') : Env w' I v' qi ld la :=
  ⟨ha.blk h.bd h.ad, ha.blk h.ba h.aa, h.ad.adv ha, h.aa.adv ha, ⟨fun i hi => (ha.cell h.a1 i).trans (h.gl.uz i hi), fun i hi => (ha.cell h.a2 i).trans (h.gl.bc i hi)⟩, h.a1.adv ha, h.a2.adv ha⟩

theorem lut_cell {w : World} {L : Nat} {l : List Nat} {len : Nat} (h : Blk w L (l.map W32) 91) (hc : Codes l len) (k : Nat) (hk : k < len) :
    w.cell? ⟨L, k, none⟩ = some (.int .u32 (((l.getD k 0 / 16777216 : Nat) : Int) * 16777216 + (l.getD k 0 % 16777216 : Nat))) := by
  have e : l[k]? = some (l.getD k 0) := by rw [List.getD_eq_getElem?_getD, List.getElem?_eq_getElem (by rw [hc.length]; exact hk)]; rfl
  rw [h.cell, List.getElem?_map, e]
  generalize l.getD k 0 = y
  have e2 : (y : Int) = ((y / 16777216 : Nat) : Int) * 16777216 + (y % 16777216 : Nat) := by omega
  rw [← e2]
  rfl

theorem huffI {w : World} {I : Ids} {v : Value} {s : BS} {sc q : List Int} {l : List Nat} {len : Nat} (h : EncS w I v s sc q) (hc : Codes l len) (t k L : Nat) (T K : Int) (hT : T = t) (hK : K = k) (ht : t < 4)
    (hl : w.cell? ⟨I.E, 148 + t, none⟩ = some (.slice (some ⟨L, 0, none⟩) len len)) (hb : Blk w L (l.map W32) 91) (hk : k < len) (hsm : s.c.length + 8 ≤ BIG) :
    Calls Tryd.prog 61 #[.pointer (some ⟨I.E, 0, none⟩), .int .i64 T, .int .i32 K] w fun e w' => e = .returned (.tuple #[]) ∧ ∃ v', EncS w' I v' (s.huff l k) sc q ∧ AdvE I v v' w w' := by
  subst hT hK
  exact huffS h t k L len _ _ ht hl hk (lut_cell hb hc k hk) (hc.fits k hk).1 (hc.fits k hk).2 hsm

theorem codeI {w : World} {I : Ids} {v : Value} {s : BS} {sc q : List Int} {l : List Nat} {len : Nat} (h : EncS w I v s sc q) (hc : Codes l len) (t run : Nat) (x : Int) (L : Nat) (T R : Int) (hT : T = t) (hR : R = run) (ht : t < 4) (hrun : run < 16)
    (hx1 : x.natAbs ≤ 2047) (hbc : ∀ i, i < 256 → w.cell? ⟨2, i, none⟩ = some (B8 (cat i)))
    (hl : w.cell? ⟨I.E, 148 + t, none⟩ = some (.slice (some ⟨L, 0, none⟩) len len)) (hb : Blk w L (l.map W32) 91) (hk : run * 16 + cat x.natAbs < len) (hsm : s.c.length + 16 ≤ BIG) :
    Calls Tryd.prog 60 #[.pointer (some ⟨I.E, 0, none⟩), .int .i64 T, .int .i32 R, .int .i32 x] w fun e w' => e = .returned (.tuple #[]) ∧ ∃ v', EncS w' I v' (s.code l run x) sc q ∧ AdvE I v v' w w' := by
  subst hT hR
  exact rle_any h t run x L len _ _ ht hrun hx1 hbc hl hk (lut_cell hb hc _ hk) (hc.fits _ hk).1 (hc.fits _ hk).2 hsm

theorem BS.huff_len (s : BS) (l : List Nat) (k : Nat) {len : Nat} (hc : Codes l len) (hk : k < len) (hnb : s.nb ≤ 7) : (s.huff l k).c.length ≤ s.c.length + 5 :=
  s.put_len _ _ hnb (hc.fits k hk).2

theorem div_q (a b : Int) (w : World) (hb : 8 ≤ b) (hb2 : b ≤ 2040) (ha : -100000000 ≤ a) (ha2 : a ≤ 100000000) :
    Calls Tryd.prog 59 #[.int .i32 a, .int .i32 b] w fun e w' => e = .returned (.int .i32 (divP a b)) ∧ w' = w :=
  (div_any a b w hb hb2 ha ha2).mono fun _ _ ⟨h1, h2⟩ => ⟨h1, h2.symm⟩

/- Where other blocks alone have changed. -/

theorem BufW.frame {w w1 : World} {BW BF WW : Nat} {v : Value} {xs buf : List Int} {n : Nat} {S : Nat → Prop} (h : BufW w BW BF WW v xs buf n) (hf : Fr S w w1) (hS : ∀ k, Out BW BF WW v k → ¬ S k) : BufW w1 BW BF WW v xs buf n :=
  ⟨hf.blk h.head (hS _ (.inl rfl)), hf.blk h.body (hS _ (.inr (.inl rfl))), h.len, h.fill, hf.blk h.sink (hS _ (.inr (.inr (.inl rfl)))),
   ownsRow_of_block h.row (fun k hk => hf.block k (h.row.lt k hk).2 (hS k (.inr (.inr (.inr hk))))), h.ne1, h.ne2, h.ne3, h.own1, h.own2, h.own3, h.small⟩

theorem EncW.frame {w w1 : World} {I : Ids} {v : Value} {c : List Int} {A nb : Nat} {sc q : List Int} {S : Nat → Prop} (h : EncW w I v c A nb sc q) (hf : Fr S w w1) (hS : ∀ k, OutE I v k → ¬ S k) : EncW w1 I v c A nb sc q := by
  obtain ⟨xs, buf, n, hB, hc, hx⟩ := h.took
  exact ⟨hf.blk h.blk (hS _ (.inl rfl)), h.sl, h.ql, ⟨xs, buf, n, hB.frame hf (fun k hk => hS k (.inr hk)), hc, hx⟩, h.ap⟩

theorem EncS.frame {w w1 : World} {I : Ids} {v : Value} {s : BS} {sc q : List Int} {S : Nat → Prop} (h : EncS w I v s sc q) (hf : Fr S w w1) (hS : ∀ k, OutE I v k → ¬ S k) : EncS w1 I v s sc q :=
  ⟨h.enc.frame hf hS, h.hA, h.hnb⟩

theorem Apart.frame {w w1 : World} {I : Ids} {v : Value} {b : Nat} {S : Nat → Prop} (h : Apart w I v b) (hf : Fr S w w1) : Apart w1 I v b := ⟨Nat.lt_of_lt_of_le h.lt hf.size, h.out⟩

theorem Env.frame {w w1 : World} {I : Ids} {v : Value} {qi : Nat} {ld la : List Nat} {S : Nat → Prop} (h : Env w I v qi ld la) (hf : Fr S w w1) (h1 : ¬ S 1) (h2 : ¬ S 2) (hd : ¬ S (I.LD qi)) (ha : ¬ S (I.LA qi)) : Env w1 I v qi ld la :=
  ⟨hf.blk h.bd hd, hf.blk h.ba ha, h.ad.frame hf, h.aa.frame hf,
   ⟨fun i hi => (World.cell?_of_block (a := ⟨1, i, none⟩) (hf.block 1 h.a1.lt h1)).trans (h.gl.uz i hi), fun i hi => (World.cell?_of_block (a := ⟨2, i, none⟩) (hf.block 2 h.a2.lt h2)).trans (h.gl.bc i hi)⟩,
   h.a1.frame hf, h.a2.frame hf⟩

theorem EncS.drewN {w : World} {I : Ids} {v : Value} {s : BS} {sc q : List Int} (h : EncS w I v s sc q) (n : Nat) : EncS (w.drewN n) I v s sc q := ⟨h.enc.heap rfl, h.hA, h.hnb⟩

theorem Env.drewN {w : World} {I : Ids} {v : Value} {qi : Nat} {ld la : List Nat} (h : Env w I v qi ld la) (n : Nat) : Env (w.drewN n) I v qi ld la :=
  ⟨h.bd, h.ba, ⟨h.ad.lt, h.ad.out⟩, ⟨h.aa.lt, h.aa.out⟩, ⟨h.gl.uz, h.gl.bc⟩, ⟨h.a1.lt, h.a1.out⟩, ⟨h.a2.lt, h.a2.out⟩⟩

theorem int_cells {w : World} {B : Nat} {M : List Int} {t : TypeId} {k : IntKind} (h : Blk w B (M.map (Value.int k)) t) (i : Nat) (hi : i < M.length) : w.cell? ⟨B, i, none⟩ = some (.int k (M.getD i 0)) := by
  rw [h.cell, List.getElem?_map, List.getD_eq_getElem?_getD, List.getElem?_eq_getElem hi]; rfl

/-- A fact hidden from the walk, and from 'contradiction', too. -/
theorem hu {p : Prop} (h : p) : Hid (Unit → p) := fun _ => h

/-- The coefficient number k in the order of the zigzag, divided. -/
def coef (D q : List Int) (qi k : Nat) : Int := divP (D.getD (unzigL.getD k 0).toNat 0) (8 * q.getD (64 * qi + k) 0)

theorem unzig_lt : ∀ k, k < 64 → 0 ≤ unzigL.getD k 0 ∧ unzigL.getD k 0 < 64 := by decide

end Go.Proofs.YtpophkigihfjoaaDoor
