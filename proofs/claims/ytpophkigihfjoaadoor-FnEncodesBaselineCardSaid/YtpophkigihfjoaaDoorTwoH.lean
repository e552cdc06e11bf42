/- The scan as coded blocks; what the reader holds. -/
import Derived.Test.YtpophkigihfjoaaDoorTwoA
import Derived.Test.YtpophkigihfjoaaDoorSosP
import Derived.Test.YtpophkigihfjoaaDoorTwoG
import Derived.Test.YtpophkigihfjoaaDoorTwoD
import Derived.Deep.MidRow
/- The scan's bytes in plain lists: the blocks one after the other, and less than a byte of ones. -/
namespace Go.Proofs.YtpophkigihfjoaaDoor
open Go.RowKit
set_option maxRecDepth 100000

/-- The tables of the block number j: four of the first component, one of each other. -/
def ldAt (p : Par) (j : Nat) : List Nat := if j % 6 < 4 then p.l0 else p.l2
def laAt (p : Par) (j : Nat) : List Nat := if j % 6 < 4 then p.l1 else p.l3

/-- These bits are n blocks from number j on, and a rest. -/
def CodedN (p : Par) : Nat → Nat → List Bool → List Bool → Prop
  | _, 0, E, rest => E = rest
  | j, n + 1, E, rest => ∃ (s : Nat) (pd : List Bool) (ts : List Tok) (E' : List Bool), E = huffBits (ldAt p j) s ++ (pd ++ (tokBits (laAt p j) ts ++ E')) ∧ s < 12 ∧ pd.length = s ∧ Whole 1 ts ∧ CodedN p (j + 1) n E' rest

theorem CodedN.append {p : Par} {n m : Nat} {F rest : List Bool} : ∀ {j : Nat} {E : List Bool}, CodedN p j n E [] → CodedN p (j + n) m F rest → CodedN p j (n + m) (E ++ F) rest := by
  induction n with
  | zero => intro j E h h'; have : E = [] := h; subst this; simpa using h'
  | succ n ih =>
    rintro j E ⟨s, pd, ts, E', rfl, h1, h2, h3, h4⟩ h'
    rw [show n + 1 + m = (n + m) + 1 by omega]
    refine ⟨s, pd, ts, E' ++ F, by simp [List.append_assoc], h1, h2, h3, ih h4 ?_⟩
    rwa [show j + 1 + n = j + (n + 1) by omega]

/-- A block's bits. -/
theorem CodedN.one {p : Par} {j : Nat} {d : Int} {f : Nat → Int} (hd : d.natAbs ≤ 2047) (hf : ∀ k, 1 ≤ k → k < 64 → (f k).natAbs ≤ 1023) : CodedN p j 1 (blockBits (ldAt p j) (laAt p j) d f) [] := by
  have hcat : cat d.natAbs ≤ 11 := cat_le _ 11 (by omega)
  exact ⟨cat d.natAbs, payload d, acAll f, [], by simp [blockBits, List.append_assoc], by omega, payload_length d, acAll_whole f hf, rfl⟩

/-- A state whose bits are n blocks. -/
def MS.Cod (st : MS) (p : Par) (cc : List Int) (n : Nat) : Prop := ∃ E, Rep cc E st.s ∧ CodedN p 0 n E []

theorem cod_step {p : Par} {cc : List Int} {n : Nat} {s : BS} {ld la : List Nat} {d : Int} {f : Nat → Int} (hc : ∃ E, Rep cc E s ∧ CodedN p 0 n E []) (hcd : Codes ld 12) (hca : Codes la 251) (hd : d.natAbs ≤ 2047)
    (hf : ∀ k, 1 ≤ k → k < 64 → (f k).natAbs ≤ 1023) (e1 : ldAt p n = ld) (e2 : laAt p n = la) : ∃ E, Rep cc E (s.block ld la d f) ∧ CodedN p 0 (n + 1) E [] := by
  obtain ⟨E, hr, hE⟩ := hc
  have h1 := hr.block hcd hca hd hf
  have h2 := CodedN.one (p := p) (j := n) hd hf
  rw [e1, e2] at h2
  exact ⟨E ++ blockBits ld la d f, h1, hE.append (by rw [Nat.zero_add]; exact h2)⟩

theorem abs_small {a b : Int} (a1 : -1024 ≤ a ∧ a ≤ 1016) (b1 : -1024 ≤ b) (b2 : b ≤ 1016) : (a - b).natAbs ≤ 2047 := by omega

theorem MS.Cod.fill {p : Par} {st : MS} {cc : List Int} {n : Nat} (hc : st.Cod p cc n) (x y t : Nat) : (st.fill p x y t).Cod p cc n := by unfold MS.Cod MS.fill; exact hc
theorem MS.Cod.sclB {p : Par} {st : MS} {cc : List Int} {n : Nat} (hc : st.Cod p cc n) : (st.sclB).Cod p cc n := by unfold MS.Cod MS.sclB; exact hc
theorem MS.Cod.sclR {p : Par} {st : MS} {cc : List Int} {n : Nat} (hc : st.Cod p cc n) : (st.sclR).Cod p cc n := by unfold MS.Cod MS.sclR; exact hc
theorem MS.Good.sclB {st : MS} {c0 m : Nat} (h : st.Good c0 m) : (st.sclB).Good c0 m := ⟨h.ok.sclB.1, h.hA, h.hnb⟩
theorem MS.Good.sclR {st : MS} {c0 m : Nat} (h : st.Good c0 m) : (st.sclR).Good c0 m := ⟨h.ok.sclR.1, h.hA, h.hnb⟩

section
variable {p : Par} (hp : p.Ok) {st : MS} {cc : List Int} {c0 m n : Nat}
include hp

theorem MS.Cod.wY (hc : st.Cod p cc n) (h : st.Good c0 m) (hn : n % 6 < 4) (hb : ∀ i, i < 64 → 0 ≤ st.M.getD i 0 ∧ st.M.getD i 0 ≤ 255) : (st.wY p).Cod p cc (n + 1) := by
  obtain ⟨g1, g2, _⟩ := coef_bound dctLaw st.M p.q 0 (by omega) h.ok.lM hb hp.qb
  unfold MS.Cod MS.wY
  dsimp only
  generalize coef (dctP st.M) p.q 0 = f at g1 g2 ⊢
  exact cod_step hc hp.c0 hp.c1 (abs_small g1 h.ok.y1 h.ok.y2) g2 (by unfold ldAt; rw [if_pos hn]) (by unfold laAt; rw [if_pos hn])

theorem MS.Cod.wB (hc : st.Cod p cc n) (h : st.Good c0 m) (hn : ¬ n % 6 < 4) (hb : ∀ i, i < 64 → 0 ≤ st.M.getD i 0 ∧ st.M.getD i 0 ≤ 255) : (st.wB p).Cod p cc (n + 1) := by
  obtain ⟨g1, g2, _⟩ := coef_bound dctLaw st.M p.q 1 (by omega) h.ok.lM hb hp.qb
  unfold MS.Cod MS.wB
  dsimp only
  generalize coef (dctP st.M) p.q 1 = f at g1 g2 ⊢
  exact cod_step hc hp.c2 hp.c3 (abs_small g1 h.ok.b1 h.ok.b2) g2 (by unfold ldAt; rw [if_neg hn]) (by unfold laAt; rw [if_neg hn])

theorem MS.Cod.wR (hc : st.Cod p cc n) (h : st.Good c0 m) (hn : ¬ n % 6 < 4) (hb : ∀ i, i < 64 → 0 ≤ st.M.getD i 0 ∧ st.M.getD i 0 ≤ 255) : (st.wR p).Cod p cc (n + 1) := by
  obtain ⟨g1, g2, _⟩ := coef_bound dctLaw st.M p.q 1 (by omega) h.ok.lM hb hp.qb
  unfold MS.Cod MS.wR
  dsimp only
  generalize coef (dctP st.M) p.q 1 = f at g1 g2 ⊢
  exact cod_step hc hp.c2 hp.c3 (abs_small g1 h.ok.r1 h.ok.r2) g2 (by unfold ldAt; rw [if_neg hn]) (by unfold laAt; rw [if_neg hn])

theorem MS.Good.fill (h : st.Good c0 m) (x y t : Nat) (ht : t < 4) : (st.fill p x y t).Good c0 m := ⟨(h.ok.fill hp x y t ht).1, h.hA, h.hnb⟩

theorem MS.Cod.subs (hc : st.Cod p cc n) (h : st.Good c0 m) (hn : n % 6 = 0) (x y t : Nat) (ht : t ≤ 4) : (st.subs p x y t).Cod p cc (n + t) := by
  induction t with
  | zero => exact hc
  | succ t ih =>
    have g := h.subs hp x y t (by omega)
    have d := ih (by omega)
    rw [MS.subs]
    generalize st.subs p x y t = st' at g d ⊢
    exact MS.Cod.wY hp (d.fill x y t) (g.fill hp x y t (by omega)) (show (n + t) % 6 < 4 by omega) (g.ok.fill hp x y t (by omega)).2

theorem MS.Cod.unit (hc : st.Cod p cc n) (h : st.Good c0 m) (hn : n % 6 = 0) (x y : Nat) : (st.unit p x y).Cod p cc (n + 6) := by
  have d4 := hc.subs hp h hn x y 4 (by omega)
  have g4 := h.subs hp x y 4 (by omega)
  unfold MS.unit
  generalize st.subs p x y 4 = st' at d4 g4 ⊢
  have d5 := MS.Cod.wB hp d4.sclB g4.sclB (show ¬ (n + 4) % 6 < 4 by omega) g4.ok.sclB.2
  have g5 := g4.sclB.wB hp g4.ok.sclB.2
  generalize (st'.sclB).wB p = st2 at d5 g5 ⊢
  exact MS.Cod.wR hp d5.sclR g5.sclR (show ¬ (n + 4 + 1) % 6 < 4 by omega) g5.ok.sclR.2

theorem MS.Cod.row (hc : st.Cod p cc n) (h : st.Good c0 m) (hn : n % 6 = 0) (y k : Nat) : (st.row p y k).Cod p cc (n + 6 * k) := by
  induction k with
  | zero => exact hc
  | succ k ih =>
    have g := h.row hp y k
    rw [MS.row]
    generalize st.row p y k = st' at g ih ⊢
    have := MS.Cod.unit hp ih g (by omega) (16 * k) y
    rwa [show n + 6 * k + 6 = n + 6 * (k + 1) by omega] at this

theorem MS.Cod.rows (hc : st.Cod p cc 0) (h : st.Good c0 m) (k : Nat) : (st.rows p k).Cod p cc (6 * ((p.wide + 15) / 16 * k)) := by
  induction k with
  | zero => exact hc
  | succ k ih =>
    have g := h.rows hp k
    rw [MS.rows]
    generalize st.rows p k = st' at g ih ⊢
    have := MS.Cod.row hp ih g (by omega) (16 * k) ((p.wide + 15) / 16)
    rwa [show 6 * ((p.wide + 15) / 16 * k) + 6 * ((p.wide + 15) / 16) = 6 * ((p.wide + 15) / 16 * (k + 1)) by rw [Nat.mul_succ]; omega] at this
end

theorem bitsN_ones (n : Nat) (hn : n ≤ 7) : bitsN n 127 = List.replicate n true := by
  have : ∀ m : Fin 8, bitsN m.val 127 = List.replicate m.val true := by decide
  exact this ⟨n, by omega⟩

/-- The bytes of a scan: the header, and bytes whose bits are all blocks and at most seven ones. -/
theorem sosP_coded (p : Par) (hp : p.Ok) (c : List Int) : ∃ D : List Nat, (sosP p ⟨c, 0, 0⟩).c = c ++ sosHdr ++ stuff D ∧ (∀ d ∈ D, d < 256) ∧
    ∃ (E pad : List Bool), bitsOf D = E ++ pad ∧ CodedN p 0 (6 * ((p.wide + 15) / 16 * ((p.high + 15) / 16))) E [] ∧ pad.length ≤ 7 ∧ ∀ b ∈ pad, b = true := by
  have h0 : (MS.zero ⟨c ++ sosHdr, 0, 0⟩).Good (c ++ sosHdr).length 0 := ⟨MS.Ok.zero _, by show 0 < 2 ^ 0; decide, by show 0 ≤ 7; omega⟩
  have d0 : (MS.zero ⟨c ++ sosHdr, 0, 0⟩).Cod p (c ++ sosHdr) 0 := ⟨[], ⟨⟨[], by show c ++ sosHdr = _; simp [stuff], rfl, by simp⟩, by show 0 < 2 ^ 0; decide, by show 0 ≤ 7; omega⟩, rfl⟩
  obtain ⟨E, hr, hE⟩ := d0.rows hp h0 ((p.high + 15) / 16)
  have hf := hr.put 127 7 (by omega)
  unfold sosP
  generalize ((MS.zero ⟨c ++ sosHdr, 0, 0⟩).rows p ((p.high + 15) / 16)).s.put 127 7 = s at hf ⊢
  obtain ⟨D, h1, h2, h3⟩ := hf.ex
  have hnb := hf.hnb
  have hl := congrArg List.length h2
  rw [List.length_append, List.length_append, bitsN_length, bitsN_length, bitsOf_length] at hl
  refine ⟨D, h1, h3, E, List.replicate (7 - s.nb) true, ?_, hE, by simp, fun b hb => (List.eq_of_mem_replicate hb)⟩
  have := congrArg (List.take (E.length + (7 - s.nb))) h2
  rw [List.take_length_add_append, show E.length + (7 - s.nb) = (bitsOf D).length + 0 by rw [bitsOf_length]; omega, List.take_length_add_append, List.take_zero, List.append_nil, bitsN_take 7 127 _ (by omega)] at this
  rw [← this]
  congr 1
  have e : ∀ m : Fin 8, bitsN (7 - m.val) (127 / 2 ^ (7 - (7 - m.val))) = List.replicate (7 - m.val) true := by decide
  exact e ⟨s.nb, by omega⟩
end Go.Proofs.YtpophkigihfjoaaDoor

/- What the reader holds in memory while it reads the scan; pieces of a function's code by number. -/
namespace Go.Proofs.YtpophkigihfjoaaDoor
open Go.RowKit
set_option maxRecDepth 100000

/-- The block of that number in a piece of code. -/
def blkAt (n : Nat) : Code → Option Code
  | .block m c => bif m == n then some (.block m c) else blkAt n c
  | .seq x y => match blkAt n x with | some c => some c | none => blkAt n y
  | .cond _ x y => match blkAt n x with | some c => some c | none => blkAt n y
  | .loop c => blkAt n c
  | _ => none

def got : Option Code → Code
  | some c => c
  | none => .skip

def blkOf (n : Nat) : Option Code → Code
  | some c => got (blkAt n c)
  | none => .skip

/-- A frame some of whose slots hold something (one function says what), and a world of which R holds. -/
def FrX (F : (Nat → Value) → Array Value) (dl : List Deferred) (R : World → Prop) (a : Act) (w : World) : Prop := ∃ f, a = ⟨F f, dl⟩ ∧ R w

theorem ex_frame {dl : List Deferred} {A : Array Value} {F : (Nat → Value) → Array Value} {R : World → Prop} {w : World} (hR : R w) (h : A = F (fun n => A.getD n undef)) : FrX F dl R ⟨A, dl⟩ w := ⟨_, by rw [← h], hR⟩

theorem blk_setCells {b : Nat} {t : TypeId} : ∀ (vs : List Value) (o : Nat) {w : World} {cs : List Value}, Blk w b cs t → ∃ cs', Blk (w.setCells b o vs) b cs' t ∧ cs'.length = cs.length
  | [], _, _, cs, h => ⟨cs, h, rfl⟩
  | v :: r, o, w, cs, h => by
    obtain ⟨cs', h1, h2⟩ := blk_setCells r (o + 1) (h.set o v)
    exact ⟨cs', h1, by rw [h2, List.length_set]⟩

theorem Fr.setCells {S : Nat → Prop} {w : World} {b : Nat} (hb : b < w.heap.size → S b) : ∀ (vs : List Value) (o : Nat) {w1 : World}, Fr S w w1 → Fr S w (w1.setCells b o vs)
  | [], _, _, h => h
  | v :: r, o, _, h => Fr.setCells hb r (o + 1) (h.setCell (a := ⟨b, o, none⟩) hb v)

theorem blk_there {w : World} {b o n : Nat} {cs : List Value} {t : TypeId} (h : Blk w b cs t) (hn : o + n ≤ cs.length) : w.there b o n := fun j hj =>
  ⟨by rw [h.cell, List.getElem?_eq_getElem (by omega)]; rfl, h.frozen _⟩

/-- A slice over a whole block. -/
def blkS (b n : Nat) : Value := .slice (some ⟨b, 0, none⟩) n n

/-- The blocks of memory, and the picture's size. -/
structure Ctx where
  TB : Nat
  CB : Nat
  G : Nat
  RB : Nat
  DB : Nat
  PB : Nat
  B0 : Nat
  B1 : Nat
  B2 : Nat
  M0 : Nat
  M1 : Nat
  M2 : Nat
  M3 : Nat
  W : Nat
  H : Nat
  cap : Nat
  c3 : Nat
  tg : Nat
  tc : Nat
  more : List Value

def Ctx.X (k : Ctx) : Nat := (k.W + 15) / 16
def Ctx.Y (k : Ctx) : Nat := (k.H + 15) / 16
def Ctx.n0 (k : Ctx) : Nat := 4 * (k.X * k.Y)
def Ctx.n1 (k : Ctx) : Nat := k.X * k.Y

structure Ctx.Ok (k : Ctx) : Prop where
  w1 : 1 ≤ k.W
  w2 : k.W ≤ 40
  h1 : 1 ≤ k.H
  h2 : k.H ≤ 40
  tb : k.TB < k.RB
  cb : k.CB < k.RB
  g : k.G < k.RB
  db : k.DB < k.RB
  m0 : k.M0 < k.RB
  m1 : k.M1 < k.RB
  m2 : k.M2 < k.RB
  m3 : k.M3 < k.RB
  p : k.RB < k.PB
  b0 : k.PB < k.B0
  b1 : k.B0 < k.B1
  b2 : k.B1 < k.B2

/-- The blocks that the scan's reading writes. -/
def Ctx.S (k : Ctx) (b : Nat) : Prop := k.RB ≤ b

def Ctx.tbl (k : Ctx) : List Value := tblC k.W k.H (.slice (some ⟨k.CB, 0, none⟩) 3 k.cap) (.slice (some ⟨k.tg, 0, none⟩) 2 k.tc)
  [.map (some k.M0), .map (some k.M2), .map none, .map none, .map (some k.M1), .map (some k.M3), .map none, .map none] (.slice (some ⟨k.G, 579, none⟩) 10 k.c3)

/-- The components in cells. -/
def cblOf (v0 v1 v2 : Value) (more : List Value) : List Value :=
  [.int .i64 1, .int .i64 2, .int .i64 2, .int .i64 0, v0, .int .i64 2, .int .i64 1, .int .i64 1, .int .i64 1, v1, .int .i64 3, .int .i64 1, .int .i64 1, .int .i64 1, v2] ++ more

def Ctx.cbl (k : Ctx) : List Value := cblOf (blkS k.B0 k.n0) (blkS k.B1 k.n1) (blkS k.B2 k.n1) k.more

/-- The scan's head. -/
def scanB : List Int := [3, 1, 0, 2, 17, 3, 17, 0, 63, 0]

/-- The fixed part: frame, components, maps, the scan's head. -/
structure FixW (k : Ctx) (cbl : List Value) (w : World) : Prop where
  tb : Blk w k.TB k.tbl 66
  cb : Blk w k.CB cbl 38
  m0 : MapIs w k.M0 es0
  m1 : MapIs w k.M1 es1
  m2 : MapIs w k.M2 es2
  m3 : MapIs w k.M3 es3
  sb : BodyW w k.G 579 scanB

theorem FixW.frame {k : Ctx} {cbl : List Value} {w w' : World} {S : Nat → Prop} (h : FixW k cbl w) (hk : k.Ok) (hf : Fr S w w') (hS : ∀ b, b < k.RB → ¬ S b) : FixW k cbl w' :=
  ⟨hf.blk h.tb (hS _ hk.tb), hf.blk h.cb (hS _ hk.cb), h.m0.frame hf (hS _ hk.m0), h.m1.frame hf (hS _ hk.m1), h.m2.frame hf (hS _ hk.m2), h.m3.frame hf (hS _ hk.m3), h.sb.frame hf (hS _ hk.g)⟩

theorem FixW.frm {k : Ctx} {v0 v1 v2 : Value} {more : List Value} {w : World} (h : FixW k (cblOf v0 v1 v2 more) w) : FrmW w k.TB k.CB k.W k.H v0 v1 v2 :=
  ⟨h.tb.cellv 0 rfl, h.tb.cellv 1 rfl, ⟨_, h.tb.cellv 2 rfl⟩, h.tb.lt, ⟨more, h.cb⟩⟩

theorem FixW.tab0 {k : Ctx} {cbl : List Value} {w : World} (h : FixW k cbl w) : TabW w k.TB 0 0 k.M0 k.M1 es0 es1 :=
  ⟨h.tb.cellv 4 rfl, h.tb.cellv 8 rfl, h.tb.lt, h.m0, h.m1⟩
theorem FixW.tab1 {k : Ctx} {cbl : List Value} {w : World} (h : FixW k cbl w) : TabW w k.TB 1 1 k.M2 k.M3 es2 es3 :=
  ⟨h.tb.cellv 5 rfl, h.tb.cellv 9 rfl, h.tb.lt, h.m2, h.m3⟩

/-- What there is while the scan is read; the reader stands at bit a. -/
structure ScW (k : Ctx) (D : List Nat) (w0 w : World) (a : Nat) : Prop where
  src : SrcR w k.RB k.DB D a
  fix : FixW k k.cbl w
  bef : ∃ bs : List Int, bs.length = 3 ∧ Blk w k.PB (bs.map I64) 3
  b0 : ∃ cs : List Value, cs.length = 64 * k.n0 ∧ Blk w k.B0 cs 77
  b1 : ∃ cs : List Value, cs.length = 64 * k.n1 ∧ Blk w k.B1 cs 77
  b2 : ∃ cs : List Value, cs.length = 64 * k.n1 ∧ Blk w k.B2 cs 77
  fr : Fr k.S w0 w
  le : a ≤ 8 * D.length

theorem ScW.go {k : Ctx} {D : List Nat} {w0 w w' : World} {a a' : Nat} (h : ScW k D w0 w a) (hk : k.Ok) (hf : Fr (fun b => b = k.RB ∨ b = k.PB) w w') (hs : SrcR w' k.RB k.DB D a')
    (hb : ∃ bs : List Int, bs.length = 3 ∧ Blk w' k.PB (bs.map I64) 3) (hle : a' ≤ 8 * D.length) : ScW k D w0 w' a' := by
  obtain ⟨c0, l0, h0⟩ := h.b0
  obtain ⟨c1, l1, h1⟩ := h.b1
  obtain ⟨c2, l2, h2⟩ := h.b2
  have p := hk.p
  have p0 := hk.b0
  have p1 := hk.b1
  have p2 := hk.b2
  exact ⟨hs, h.fix.frame hk hf (fun b hb => by omega), hb, ⟨c0, l0, hf.blk h0 (by omega)⟩, ⟨c1, l1, hf.blk h1 (by omega)⟩, ⟨c2, l2, hf.blk h2 (by omega)⟩,
    h.fr.trans hf (fun b _ hb => by unfold Ctx.S; omega), hle⟩

theorem ScW.still {k : Ctx} {D : List Nat} {w0 w w' : World} {a : Nat} (h : ScW k D w0 w a) (hk : k.Ok) (hf : Fr (fun _ => False) w w') : ScW k D w0 w' a := by
  obtain ⟨bs, hl, hB⟩ := h.bef
  exact h.go hk (hf.mono (fun _ _ e => e.elim)) (h.src.frame hf (fun e => e) (fun e => e)) ⟨bs, hl, hf.blk hB (fun e => e)⟩ h.le

theorem ScW.put {k : Ctx} {D : List Nat} {w0 w : World} {a : Nat} (h : ScW k D w0 w a) (hk : k.Ok) (b o : Nat) (vs : List Value) (hb : b = k.B0 ∨ b = k.B1 ∨ b = k.B2) : ScW k D w0 (w.setCells b o vs) a := by
  have p := hk.p
  have p0 := hk.b0
  have p1 := hk.b1
  have p2 := hk.b2
  have hd := hk.db
  have hf : Fr (· = b) w (w.setCells b o vs) := Fr.setCells (S := (· = b)) (fun _ => rfl) vs o (Fr.refl _ w)
  obtain ⟨bs, hl, hB⟩ := h.bef
  have keep : ∀ (g n : Nat), (∃ cs : List Value, cs.length = n ∧ Blk w g cs 77) → ∃ cs : List Value, cs.length = n ∧ Blk (w.setCells b o vs) g cs 77 := by
    rintro g n ⟨cs, h1, h2⟩
    by_cases hg : g = b
    · subst hg
      obtain ⟨cs', h3, h4⟩ := blk_setCells vs o h2
      exact ⟨cs', h4.trans h1, h3⟩
    · exact ⟨cs, h1, hf.blk h2 hg⟩
  exact ⟨h.src.frame hf (by omega) (by omega), h.fix.frame hk hf (fun g hg => by omega), ⟨bs, hl, hf.blk hB (by omega)⟩, keep _ _ h.b0, keep _ _ h.b1, keep _ _ h.b2,
    h.fr.trans hf (fun g _ hg => by unfold Ctx.S; omega), h.le⟩

/-- The next block's bits. -/
theorem coded_step {p : Par} {D : List Nat} {j n a : Nat} {rest : List Bool} (ha : a ≤ 8 * D.length) (h : CodedN p j (n + 1) ((bitsOf D).drop a) rest) :
    ∃ s pd ts rest', BlkIn D a (ldAt p j) (laAt p j) s pd ts rest' ∧ CodedN p (j + 1) n ((bitsOf D).drop (a + ((ldAt p j).getD s 0 / 16777216 + s + (tokBits (laAt p j) ts).length))) rest ∧ a + ((ldAt p j).getD s 0 / 16777216 + s + (tokBits (laAt p j) ts).length) ≤ 8 * D.length := by
  obtain ⟨s, pd, ts, E', h1, h2, h3, h4, h5⟩ := h
  refine ⟨s, pd, ts, E', ⟨h1, h2, h3, h4⟩, ?_⟩
  have hl : (huffBits (ldAt p j) s).length = (ldAt p j).getD s 0 / 16777216 := bitsN_length _ _
  have : (bitsOf D).drop (a + ((ldAt p j).getD s 0 / 16777216 + s + (tokBits (laAt p j) ts).length)) = E' := by
    rw [← List.drop_drop, h1, ← List.append_assoc, ← List.append_assoc]
    have e : (ldAt p j).getD s 0 / 16777216 + s + (tokBits (laAt p j) ts).length = (huffBits (ldAt p j) s ++ pd ++ tokBits (laAt p j) ts).length := by
      rw [List.length_append, List.length_append, hl, h3]
    rw [e, List.drop_left]
  have hlen := congrArg List.length h1
  rw [List.length_drop, bitsOf_length, List.length_append, List.length_append, List.length_append, hl, h3] at hlen
  rw [this]
  exact ⟨h5, by omega⟩
theorem w64 {x : Int} (a : -1000000 ≤ x) (b : x ≤ 1000000) : wrap64 x = x := IntWalk.wrap64_in _ ⟨by omega, by omega⟩

theorem at_val {kk q X Y h A m : Nat} (eA : X * h = A) (em : h * h = m) (hX : 0 < X) (hX3 : X ≤ 3) (hY3 : Y ≤ 3) (hh : h = 1 ∨ h = 2) (hk : kk < X * Y) (hq : q < m) :
    ∃ z : Nat, wrap64 (wrap64 (wrap64 (wrap64 (wrap64 (wrap64 ((kk : Int) / (X : Int)) * (h : Int)) + wrap64 ((q : Int) / (h : Int))) * (A : Int)) + wrap64 ((kk : Int) % (X : Int) * (h : Int))) + (q : Int) % (h : Int)) = (z : Int) ∧ z < m * (X * Y) := by
  have hd : kk / X < Y := Nat.div_lt_of_lt_mul hk
  have hr : kk % X < X := Nat.mod_lt _ hX
  have hh0 : 0 < h := by omega
  have hqd : q / h < h := Nat.div_lt_of_lt_mul (by rw [em]; exact hq)
  have hqr : q % h < h := Nat.mod_lt _ hh0
  have e1 : (kk : Int) / (X : Int) = ((kk / X : Nat) : Int) := rfl
  have e2 : (kk : Int) % (X : Int) = ((kk % X : Nat) : Int) := rfl
  have e3 : (q : Int) / (h : Int) = ((q / h : Nat) : Int) := rfl
  have e4 : (q : Int) % (h : Int) = ((q % h : Nat) : Int) := rfl
  rw [e1, e2, e3, e4]
  generalize kk / X = a at hd ⊢
  generalize kk % X = b at hr ⊢
  generalize q / h = c at hqd ⊢
  generalize q % h = d at hqr ⊢
  clear hk hq e1 e2 e3 e4
  have hY : Y = 1 ∨ Y = 2 ∨ Y = 3 := by omega
  have hXc : X = 1 ∨ X = 2 ∨ X = 3 := by omega
  refine ⟨(a * h + c) * A + b * h + d, ?_, ?_⟩
  · subst eA
    rcases hh with rfl | rfl <;> rcases hXc with rfl | rfl | rfl <;>
    · rw [w64 (x := (a : Int)) (by omega) (by omega), w64 (x := (c : Int)) (by omega) (by omega), w64 (x := (a : Int) * _) (by omega) (by omega), w64 (x := (a : Int) * _ + _) (by omega) (by omega)]
      rw [w64 (x := (b : Int) * _) (by omega) (by omega), w64 (x := ((a : Int) * _ + _) * _) (by omega) (by omega), w64 (x := ((a : Int) * _ + _) * _ + _) (by omega) (by omega), w64 (by omega) (by omega)]
      omega
  · subst eA em
    rcases hh with rfl | rfl <;> rcases hXc with rfl | rfl | rfl <;> rcases hY with rfl | rfl | rfl <;> omega
end Go.Proofs.YtpophkigihfjoaaDoor
