/- The walks of symbol and block of the reader. -/
import Derived.Test.YtpophkigihfjoaaDoorTwoA
/- The walk of the reader's symbol. -/
namespace Go.Proofs.YtpophkigihfjoaaDoor
open Go.RowKit Go.Maps
set_option maxRecDepth 100000

/-- Block m is a map that reads codes back as es says. -/
def MapIs (w : World) (m : Nat) (es : List (Nat × Nat × Nat)) : Prop := ∃ n D, w.ownsMap Tryd.prog 154 (plainElem (H := Unit) Tryd.prog 3) m n D ∧
  ∀ c k, c < 4294967296 → k < 4294967296 → Maps.has D (kl c k) = (symOf es c k).isSome ∧ D.atKey (kl c k) (.lit (.int .i64 0)) = .lit (.int .i64 (((symOf es c k).getD 0 : Nat) : Int))

theorem MapIs.of_heap {w w' : World} {m : Nat} {es : List (Nat × Nat × Nat)} (h : MapIs w m es) (e : w'.heap[m]? = w.heap[m]?) : MapIs w' m es := by
  obtain ⟨n, D, ⟨xs, clock, hb, r⟩, hD⟩ := h
  exact ⟨n, D, ⟨xs, clock, by rw [e]; exact hb, r⟩, hD⟩

theorem MapIs.lt {w : World} {m : Nat} {es : List (Nat × Nat × Nat)} (h : MapIs w m es) : m < w.heap.size := by
  obtain ⟨n, D, ho, _⟩ := h
  exact ho.lt

theorem MapIs.frame {w w' : World} {S : Nat → Prop} {m : Nat} {es : List (Nat × Nat × Nat)} (h : MapIs w m es) (hf : Fr S w w') (hS : ¬ S m) : MapIs w' m es := h.of_heap (hf.block m h.lt hS)
theorem zero3 (w : World) : (zeroValue 3).run Tryd.prog w = .ok (.int .i64 0) w := by kernel_rfl

theorem MapIs.look {w : World} {m : Nat} {es : List (Nat × Nat × Nat)} (h : MapIs w m es) (c k : Nat) (hc : c < 4294967296) (hk : k < 4294967296) :
    (Instr.lookup 63 (.map (some m)) (pairV c k) true).run Tryd.prog w = .ok (.tuple #[.int .i64 (((symOf es c k).getD 0 : Nat) : Int), .bool (symOf es c k).isSome]) w := by
  obtain ⟨n, D, ho, hD⟩ := h
  obtain ⟨h1, h2⟩ := hD c k hc hk
  obtain ⟨v, ps, hrun, hv⟩ := ho.look_ok law154 Tryd.underlying63 (zero3 w) (plainElem_int Tryd.underlying3 (by decide)) (keyOf154 c k hc hk)
  rw [hrun, h1]
  rw [h2] at hv
  obtain ⟨a, rfl, he, _⟩ := plainElem_int_inv Tryd.underlying3 hv
  simp only [Prod.mk.injEq, DataW.lit.injEq, Lit.int.injEq, true_and] at he
  rw [he.1]

theorem or_bit (c : Nat) (b : Bool) (hc : c < 2147483648) : bits BinOp.or IntKind.i64 ((c : Int) * 2) (b2i b : Int) = ((c * 2 + b2i b : Nat) : Int) := by
  have hb : b2i b < 2 ^ 1 := by unfold b2i; split <;> omega
  show IntKind.i64.wrap ((BitVec.ofInt 64 ((c : Int) * 2) ||| BitVec.ofInt 64 (b2i b : Int)).toNat : Int) = _
  have e1 : (BitVec.ofInt 64 ((c : Int) * 2)).toNat = c * 2 := by rw [BitVec.toNat_ofInt]; omega
  have e2 : (BitVec.ofInt 64 (b2i b : Int)).toNat = b2i b := by rw [BitVec.toNat_ofInt]; omega
  have e3 : c * 2 ||| b2i b = c * 2 + b2i b := or_low c 1 _ hb
  rw [BitVec.toNat_or, e1, e2, e3]
  simp only [IntKind.wrap, IntKind.bits, IntKind.signed] at *
  simp
  omega

/-- What a symbol's bits are when they are read one by one. -/
theorem huff_bit {D : List Nat} {a : Nat} {l : List Nat} {s : Nat} {rest : List Bool} (hb : (bitsOf D).drop a = huffBits l s ++ rest) (j : Nat) (hj : j < l.getD s 0 / 16777216) :
    (bitsOf D)[a + j]? = some (decide (l.getD s 0 % 16777216 / 2 ^ (l.getD s 0 / 16777216 - 1 - j) % 2 = 1)) := by
  have h : ((bitsOf D).drop a)[j]? = (bitsOf D)[a + j]? := by rw [List.getElem?_drop]
  rw [← h, hb, List.getElem?_append_left (by unfold huffBits; rw [bitsN_length]; exact hj)]
  exact bitsN_get _ _ _ hj

def SymRel (w : World) (RB DB : Nat) (D : List Nat) (a C n : Nat) (x i : Value) (wr : World) : Prop := ∃ j : Nat, j < n ∧ i = .int .i64 ((j : Int) + 1) ∧ x = .int .i64 ((C / 2 ^ (n - j) : Nat) : Int) ∧ SrcR wr RB DB D (a + j) ∧ Fr (· = RB) w wr

def SymPost (w : World) (RB DB : Nat) (D : List Nat) (a s : Nat) (e : Ending) (w' : World) : Prop := e = .returned (.int .i64 s) ∧ SrcR w' RB DB D a ∧ Fr (· = RB) w w'

set_option maxHeartbeats 1000000 in
theorem symbol_any {w : World} {RB DB m a s : Nat} {D : List Nat} {es : List (Nat × Nat × Nat)} {l : List Nat} {rest : List Bool} (h : SrcR w RB DB D a) (hm : MapIs w m es) (hne : m ≠ RB) (hd : Dec l es s) (hb : (bitsOf D).drop a = huffBits l s ++ rest) :
    Calls Tryd.prog 37 #[.pointer (some ⟨RB, 0, none⟩), .map (some m)] w (SymPost w RB DB D (a + l.getD s 0 / 16777216) s) := by
  have H := hu h
  have HM := hu hm
  have HBit := hu (fun j hj => huff_bit hb j hj)
  obtain ⟨n, hn⟩ : ∃ n, l.getD s 0 / 16777216 = n := ⟨_, rfl⟩
  obtain ⟨C, hC⟩ : ∃ C, l.getD s 0 % 16777216 = C := ⟨_, rfl⟩
  obtain ⟨n1, n2, c1, hit, miss⟩ := hd
  rw [hn] at n1 n2 c1 hit miss HBit ⊢
  rw [hC] at c1 hit miss HBit
  have hC16 : C < 65536 := Nat.lt_of_lt_of_le c1 (Nat.pow_le_pow_right (by omega) n2)
  have HC1 := hu c1
  have HHIT := hu hit
  have HMISS := hu miss
  clear h hm hb c1 hit miss hn hC
  go_enter Tryd.func37, Tryd.ntmps37
  go_wp2
  go_loopw [5, 6, 7, 8] (fun x i _ _ wr => SymRel w RB DB D a C n x i wr) (fun _ i _ _ _ => n - (intOf i).toNat)
  case atStart => exact ⟨0, by omega, rfl, by rw [Nat.sub_zero, Nat.div_eq_of_lt (HC1.out ())]; rfl, H.out (), Fr.refl _ _⟩
  case round =>
    obtain ⟨j, hj, rfl, rfl, hS, hF⟩ := hrel
    have HS := hu hS
    have HF := hu hF
    have HB := hu (HBit.out () j hj)
    have hMr := (HM.out ()).frame hF hne
    clear hS hF
    obtain ⟨c, hc⟩ : ∃ c, C / 2 ^ (n - j) = c := ⟨_, rfl⟩
    obtain ⟨b, hbe⟩ : ∃ b, decide (C / 2 ^ (n - 1 - j) % 2 = 1) = b := ⟨_, rfl⟩
    have hc2 : c * 2 + b2i b = C / 2 ^ (n - (j + 1)) := by
      have e : n - j = (n - (j + 1)) + 1 := by omega
      rw [← hc, e, Nat.pow_succ, ← Nat.div_div_eq_div_mul, ← hbe, show n - 1 - j = n - (j + 1) by omega]
      generalize C / 2 ^ (n - (j + 1)) = y
      unfold b2i
      by_cases h : y % 2 = 1
      · rw [if_pos (by simpa using h)]; omega
      · rw [if_neg (by simpa using h)]; omega
    have hcb : c ≤ C := by rw [← hc]; exact Nat.div_le_self _ _
    have hcb2 : c * 2 + b2i b ≤ C := by rw [hc2]; exact Nat.div_le_self _ _
    rw [hc]
    rw [hbe] at HB
    have hor := or_bit c b (by omega)
    obtain ⟨c', hc'⟩ : ∃ c', c * 2 + b2i b = c' := ⟨_, rfl⟩
    rw [hc'] at hor hc2 hcb2
    have HOR := hu hor
    have HC2 := hu hc2
    clear hc' hor
    have HMr := hu hMr
    clear hc hbe hc2 hMr
    go_wp2_with fail
    refine (bit_any (HS.out ()) (HB.out ())).mono ?_
    rintro e w1 ⟨rfl, hS1, hF1⟩
    have HS1 := hu hS1
    have HF1 := hu hF1
    have hlook := ((HMr.out ()).frame hF1 hne).look c' (j + 1) (by omega) (by omega)
    clear hS1 hF1
    unfold pairV at hlook
    rw [show ((j + 1 : Nat) : Int) = (j : Int) + 1 by omega] at hlook
    have HLOOK := hu hlook
    clear hlook
    go_upto_region 6 with (fail)
    rw [HOR.out ()]
    have hlook := HLOOK.out ()
    by_cases hjn : j + 1 = n
    · have hs : symOf es c' (j + 1) = some s := by rw [HC2.out (), hjn, Nat.sub_self, Nat.pow_zero, Nat.div_one]; exact HHIT.out ()
      rw [hs] at hlook
      have HJN := hu hjn
      clear hs hjn
      go_wp2
      go_ret
      have := HJN.out ()
      subst this
      exact ⟨rfl, HS1.out (), (HF.out ()).trans (HF1.out ()) (fun _ _ e => e)⟩
    · have hs : symOf es c' (j + 1) = none := by rw [HC2.out ()]; exact HMISS.out () (j + 1) (by omega) (by omega)
      rw [hs] at hlook
      clear hs
      go_wp2
      go_roundw
      case rel => exact ⟨j + 1, by omega, by go_num, by rw [HC2.out ()], HS1.out (), (HF.out ()).trans (HF1.out ()) (fun _ _ e => e)⟩
      case measure => simp [intOf]; omega
end Go.Proofs.YtpophkigihfjoaaDoor

/- The walk of the reader's block. -/
namespace Go.Proofs.YtpophkigihfjoaaDoor
open Go.RowKit Go.Maps
set_option maxRecDepth 100000

abbrev I64 (n : Int) : Value := .int .i64 n

/-- The reader's tables for one component: the map of its first symbols, the map of the others. -/
structure TabW (w : World) (TB : Nat) (dc ac md ma : Nat) (ed ea : List (Nat × Nat × Nat)) : Prop where
  cd : w.cell? ⟨TB, 4 + dc, none⟩ = some (.map (some md))
  ca : w.cell? ⟨TB, 4 + (4 + ac), none⟩ = some (.map (some ma))
  lt : TB < w.heap.size
  dm : MapIs w md ed
  am : MapIs w ma ea

theorem TabW.frame {w w' : World} {S : Nat → Prop} {TB dc ac md ma : Nat} {ed ea : List (Nat × Nat × Nat)} (h : TabW w TB dc ac md ma ed ea) (hf : Fr S w w') (h1 : ¬ S TB) (h2 : ¬ S md) (h3 : ¬ S ma) : TabW w' TB dc ac md ma ed ea :=
  ⟨(World.cell?_of_block (a := ⟨TB, 4 + dc, none⟩) (hf.block TB h.lt h1)).trans h.cd, (World.cell?_of_block (a := ⟨TB, 4 + (4 + ac), none⟩) (hf.block TB h.lt h1)).trans h.ca, Nat.lt_of_lt_of_le h.lt hf.size, h.dm.frame hf h2, h.am.frame hf h3⟩

/-- The bits of a block, in parts. -/
structure BlkIn (D : List Nat) (a : Nat) (ld la : List Nat) (s : Nat) (pd : List Bool) (ts : List Tok) (rest : List Bool) : Prop where
  bits : (bitsOf D).drop a = huffBits ld s ++ (pd ++ (tokBits la ts ++ rest))
  s12 : s < 12
  pl : pd.length = s
  whole : Whole 1 ts

/-- What the reader's block leaves: some 64 numbers; the reader stands behind the block. -/
def BlkPost (w : World) (RB DB BB : Nat) (D : List Nat) (a : Nat) (e : Ending) (w' : World) : Prop :=
  ∃ (zs bs : List Int), e = .returned (.agg (zs.map I64).toArray) ∧ zs.length = 64 ∧ bs.length = 3 ∧ Blk w' BB (bs.map I64) 3 ∧ SrcR w' RB DB D a ∧ Fr (fun k => k = RB ∨ k = BB) w w'

theorem SrcR.heap {w w' : World} {RB DB : Nat} {D : List Nat} {a : Nat} (h : SrcR w RB DB D a) (e : w'.heap = w.heap) : SrcR w' RB DB D a := by
  obtain ⟨cap, hh⟩ := h.head
  exact ⟨⟨cap, hh.of_heap (by rw [e])⟩, fun j hj => (World.cell?_of_block (a := ⟨DB, j, none⟩) (by rw [e])).trans (h.data j hj), by rw [e]; exact h.lt, h.ne, h.small, h.byte⟩

theorem MapIs.heap {w w' : World} {m : Nat} {es : List (Nat × Nat × Nat)} (h : MapIs w m es) (e : w'.heap = w.heap) : MapIs w' m es := h.of_heap (by rw [e])

/-- What the reader has while it reads a block (a: where it stands). -/
structure RdW (w0 w : World) (RB DB BB TB dc ac md ma : Nat) (D : List Nat) (ed ea : List (Nat × Nat × Nat)) (a : Nat) : Prop where
  src : SrcR w RB DB D a
  tab : TabW w TB dc ac md ma ed ea
  bef : ∃ bs : List Int, bs.length = 3 ∧ Blk w BB (bs.map I64) 3
  fr : Fr (fun k => k = RB ∨ k = BB) w0 w

theorem RdW.go {w0 w w' : World} {RB DB BB TB dc ac md ma a a' : Nat} {D : List Nat} {ed ea : List (Nat × Nat × Nat)} (h : RdW w0 w RB DB BB TB dc ac md ma D ed ea a) (hf : Fr (· = RB) w w') (hs : SrcR w' RB DB D a')
    (n1 : BB ≠ RB) (n2 : TB ≠ RB) (n4 : md ≠ RB) (n5 : ma ≠ RB) : RdW w0 w' RB DB BB TB dc ac md ma D ed ea a' := by
  obtain ⟨bs, hl, hB⟩ := h.bef
  exact ⟨hs, h.tab.frame hf n2 n4 n5, ⟨bs, hl, hf.blk hB n1⟩, h.fr.trans hf (fun _ _ e => .inl e)⟩

theorem RdW.put {w0 w : World} {RB DB BB TB dc ac md ma a : Nat} {D : List Nat} {ed ea : List (Nat × Nat × Nat)} (h : RdW w0 w RB DB BB TB dc ac md ma D ed ea a) (bi : Nat) (z : Int)
    (n1 : BB ≠ RB) (n3 : TB ≠ BB) (n6 : md ≠ BB) (n7 : ma ≠ BB) (n8 : DB ≠ BB) : RdW w0 (w.setCell ⟨BB, bi, none⟩ (I64 z)) RB DB BB TB dc ac md ma D ed ea a := by
  obtain ⟨bs, hl, hB⟩ := h.bef
  have hf : Fr (· = BB) w (w.setCell ⟨BB, bi, none⟩ (I64 z)) := (Fr.refl (· = BB) w).setCell (a := ⟨BB, bi, none⟩) (fun _ => rfl) _
  refine ⟨h.src.frame hf (Ne.symm n1) n8, h.tab.frame hf n3 n6 n7, ⟨bs.set bi z, by simp [hl], ?_⟩, h.fr.trans hf (fun _ _ e => .inr e)⟩
  have := hB.set bi (I64 z)
  rwa [← List.map_set] at this

theorem Whole.parts {k : Nat} {ts : List Tok} (h : Whole k ts) : (ts = [] ∧ k = 64) ∨ (∃ t ts', ts = t :: ts' ∧ acSym t.1 ∧ t.2.length = t.1 % 16 ∧ k + t.1 / 16 ≤ 63 ∧ Whole (k + t.1 / 16 + 1) ts') ∨ (ts = [(0, [])] ∧ k ≤ 63) := by
  rcases h with h | ⟨ts', k', rfl, h, hk⟩
  · rcases ts with _ | ⟨t, ts⟩
    · exact .inl ⟨rfl, h⟩
    · exact .inr (.inl ⟨t, ts, rfl, h.1, h.2.1, h.2.2.1, .inl h.2.2.2⟩)
  · rcases ts' with _ | ⟨t, ts⟩
    · have : k = k' := h
      exact .inr (.inr ⟨rfl, by omega⟩)
    · exact .inr (.inl ⟨t, ts ++ [(0, [])], rfl, h.1, h.2.1, h.2.2.1, .inr ⟨ts, k', rfl, h.2.2.2, hk⟩⟩)

theorem and15 (n : Nat) (h : n < 256) : bits BinOp.and IntKind.i64 (n : Int) 15 = ((n % 16 : Nat) : Int) := by
  have : ∀ m : Fin 256, bits BinOp.and IntKind.i64 ((m.val : Nat) : Int) 15 = ((m.val % 16 : Nat) : Int) := by decide +kernel
  exact this ⟨n, h⟩

def Z77 : Array Value := ((List.replicate 64 (0 : Int)).map I64).toArray
def Z77W (w : World) : World := (w.alloc (.cells Z77 77)).alloc (.cells Z77 77)

theorem number_i {w : World} {RB DB : Nat} {D : List Nat} {a k : Nat} {K : Int} (h : SrcR w RB DB D a) (hK : K = (k : Int)) (hk : k ≤ 16) (hb : a + k ≤ 8 * D.length) :
    Calls Tryd.prog 36 #[.pointer (some ⟨RB, 0, none⟩), .int .i64 K] w (NumPost w RB DB D (a + k)) := by subst hK; exact number_any h hk hb

/-- Between two symbols of a block: the reader stands at a, its array lies in block X, the answer's in block R. -/
structure LpW (wa w : World) (RB DB BB TB dc ac md ma X R : Nat) (D : List Nat) (ed ea : List (Nat × Nat × Nat)) (a : Nat) : Prop where
  src : SrcR w RB DB D a
  tab : TabW w TB dc ac md ma ed ea
  bef : ∃ bs : List Int, bs.length = 3 ∧ Blk w BB (bs.map I64) 3
  xs : ∃ zs : List Int, zs.length = 64 ∧ Blk w X (zs.map I64) 77
  rs : ∃ zs : List Int, zs.length = 64 ∧ Blk w R (zs.map I64) 77
  fr : Fr (fun k => k = RB ∨ k = BB ∨ k = X) wa w

theorem LpW.go {wa w w' : World} {RB DB BB TB dc ac md ma X R a a' : Nat} {D : List Nat} {ed ea : List (Nat × Nat × Nat)} (h : LpW wa w RB DB BB TB dc ac md ma X R D ed ea a) (hf : Fr (· = RB) w w') (hs : SrcR w' RB DB D a')
    (n1 : BB ≠ RB) (n2 : TB ≠ RB) (n4 : md ≠ RB) (n5 : ma ≠ RB) (n6 : X ≠ RB) (n7 : R ≠ RB) : LpW wa w' RB DB BB TB dc ac md ma X R D ed ea a' := by
  obtain ⟨bs, hl, hB⟩ := h.bef
  obtain ⟨xs, hx, hX⟩ := h.xs
  obtain ⟨rs, hr, hR⟩ := h.rs
  exact ⟨hs, h.tab.frame hf n2 n4 n5, ⟨bs, hl, hf.blk hB n1⟩, ⟨xs, hx, hf.blk hX n6⟩, ⟨rs, hr, hf.blk hR n7⟩, h.fr.trans hf (fun _ _ e => .inl e)⟩

theorem LpW.put {wa w : World} {RB DB BB TB dc ac md ma X R a : Nat} {D : List Nat} {ed ea : List (Nat × Nat × Nat)} (h : LpW wa w RB DB BB TB dc ac md ma X R D ed ea a) (i : Nat) (z : Int)
    (n1 : RB ≠ X) (n2 : DB ≠ X) (n3 : TB ≠ X) (n4 : md ≠ X) (n5 : ma ≠ X) (n6 : BB ≠ X) (n7 : R ≠ X) : LpW wa (w.setCell ⟨X, i, none⟩ (I64 z)) RB DB BB TB dc ac md ma X R D ed ea a := by
  obtain ⟨bs, hl, hB⟩ := h.bef
  obtain ⟨xs, hx, hX⟩ := h.xs
  obtain ⟨rs, hr, hR⟩ := h.rs
  have hf : Fr (· = X) w (w.setCell ⟨X, i, none⟩ (I64 z)) := (Fr.refl (· = X) w).setCell (a := ⟨X, i, none⟩) (fun _ => rfl) _
  refine ⟨h.src.frame hf n1 n2, h.tab.frame hf n3 n4 n5, ⟨bs, hl, hf.blk hB n6⟩, ⟨xs.set i z, by simp [hx], ?_⟩, ⟨rs, hr, hf.blk hR n7⟩, h.fr.trans hf (fun _ _ e => .inr (.inr e))⟩
  have := hX.set i (I64 z)
  rwa [← List.map_set] at this

/-- The loop of a block. -/
def LpRel (wa : World) (RB DB BB TB dc ac md ma X R : Nat) (D la : List Nat) (ed ea : List (Nat × Nat × Nat)) (rest : List Bool) (fin : Nat) (x : Value) (wr : World) : Prop :=
  ∃ (k a : Nat) (ts : List Tok), x = .int .i64 k ∧ k ≤ 64 ∧ Whole k ts ∧ (bitsOf D).drop a = tokBits la ts ++ rest ∧ a + (tokBits la ts).length = fin ∧ LpW wa wr RB DB BB TB dc ac md ma X R D ed ea a

theorem blk_end {w wa wE : World} {RB DB BB TB dc ac md ma RS a : Nat} {D : List Nat} {ed ea : List (Nat × Nat × Nat)} (hF : Fr (fun _ => False) w wa) (hRS : w.heap.size = RS) (hL : LpW wa wE RB DB BB TB dc ac md ma (RS + 1) RS D ed ea a)
    (h1 : RB < RS) (h2 : DB < RS) (h3 : BB < RS) {xs : List Int} (hx : xs.length = 64) : BlkPost w RB DB BB D a (.returned (.agg (xs.map I64).toArray)) (wE.setRow RS (xs.map I64).toArray) := by
  obtain ⟨bs, hb, hB⟩ := hL.bef
  have hf : Fr (· = RS) wE (wE.setRow RS (xs.map I64).toArray) := (Fr.refl (· = RS) wE).setRow RS (fun _ => rfl) _
  refine ⟨xs, bs, rfl, hx, hb, hf.blk hB (by omega), hL.src.frame hf (by omega) (by omega), ?_⟩
  refine ((hF.mono (fun _ _ e => e.elim)).trans hL.fr ?_).trans hf ?_
  · rintro k hk (e | e | e)
    · exact .inl e
    · exact .inr e
    · omega
  · intro k hk e
    omega

theorem size77 (xs : List Int) (hx : xs.length = 64) : (Tryd.prog.info? 77).map (·.size) = some (xs.map I64).toArray.size := by
  have h : (Tryd.prog.info? 77).map (·.size) = some 64 := by kernel_rfl
  rw [h]; simp [hx]

theorem one77 (xs : List Int) : (xs.map I64).toArray.all (·.oneCell') = true := by
  have := ints_oneCell .i64 xs
  simp only [List.all_toArray, List.all_eq_true]
  exact this

set_option maxHeartbeats 2000000 in
theorem block_rd {w : World} {RB DB BB TB dc ac md ma a s bi : Nat} {D : List Nat} {ld la : List Nat} {ed ea : List (Nat × Nat × Nat)} {pd rest : List Bool} {ts : List Tok} {bs : List Int}
    (h : SrcR w RB DB D a) (ht : TabW w TB dc ac md ma ed ea) (hT : Tab ld la ed ea) (hdc : dc < 2) (hac : ac < 2) (hB : Blk w BB (bs.map I64) 3) (hbl : bs.length = 3) (hbi : bi < 3) (hin : BlkIn D a ld la s pd ts rest)
    (n1 : BB ≠ RB) (n2 : TB ≠ RB) (n3 : TB ≠ BB) (n4 : md ≠ RB) (n5 : ma ≠ RB) (n6 : md ≠ BB) (n7 : ma ≠ BB) (n8 : DB ≠ BB) :
    Calls Tryd.prog 17 #[.pointer (some ⟨TB, 0, none⟩), .pointer (some ⟨RB, 0, none⟩), .int .i64 dc, .int .i64 ac, .pointer (some ⟨BB, bi, none⟩)] w
      (BlkPost w RB DB BB D (a + (ld.getD s 0 / 16777216 + s + (tokBits la ts).length))) := by
  have LRB := hu (show RB < w.heap.size from h.head.choose_spec.lt)
  have LDB := hu h.lt
  have LBB := hu hB.lt
  have LTB := hu ht.lt
  have LMD := hu ht.dm.lt
  have LMA := hu ht.am.lt
  have hf0 := ((Fr.refl (fun _ => False) w).alloc (.cells Z77 77)).alloc (.cells Z77 77)
  have H0 := hu (RdW.mk (w0 := (w.alloc (.cells Z77 77)).alloc (.cells Z77 77)) (BB := BB) (h.frame hf0 (fun e => e) (fun e => e)) (ht.frame hf0 (fun e => e) (fun e => e) (fun e => e)) ⟨bs, hbl, hf0.blk hB (fun e => e)⟩ (Fr.refl _ _))
  have HT := hu hT
  obtain ⟨hbits, hs12, hpl, hwh⟩ := hin
  have HW := hu hwh
  have HPL := hu hpl
  have HBITS := hu hbits
  have bR := Blk.newA w Z77 77
  have bX := Blk.newA (w.alloc (.cells Z77 77)) Z77 77
  have bR2 := bR.alloc (.cells Z77 77)
  rw [World.size_alloc] at bX
  have HF0 := hu hf0
  clear h ht hT hB hbl hbits hpl hwh bR hf0
  have i0 : ¬ ((15 : Int) < (s : Int)) := by omega
  have j1 : (0 : Int) ≤ 4 + (ac : Int) := by omega
  have j2 : 4 + (ac : Int) < 8 := by omega
  have i1 : (0 : Int) ≤ (dc : Int) := by omega
  have i2 : (dc : Int) < 8 := by omega
  have i3 : (dc : Int) ≤ 8 := by omega
  go_enter Tryd.func17, Tryd.ntmps17
  go_upto_region 1 with (fail)
  go_cut [11] (fun t wx => t = .pointer (some ⟨w.heap.size + 1, 0, none⟩) ∧ wx = Z77W w)
  case first =>
    go_wp2
    go_meet
    exact ⟨rfl, rfl⟩
  obtain ⟨rfl, rfl⟩ := hcut
  obtain ⟨wa, hwa⟩ : ∃ z, Z77W w = z := ⟨_, rfl⟩
  rw [show (w.alloc (.cells Z77 77)).alloc (.cells Z77 77) = wa from hwa] at H0 bR2 bX HF0
  rw [hwa]
  go_step
  go_upto_region 2 with (fail)
  have hR0 := bR2.lt
  obtain ⟨RS, hRS⟩ : ∃ z, w.heap.size = z := ⟨_, rfl⟩
  rw [hRS] at bR2 bX
  simp only [hRS]
  have HBR := hu bR2
  have HBX := hu bX
  have HRS := hu hRS
  clear bR2 bX hwa hRS
  go_cut [] (fun wx => RdW wa wx RB DB BB TB dc ac md ma D ed ea (a + (ld.getD s 0 / 16777216 + s)))
  case first =>
    obtain ⟨b0, hb0, hB0⟩ := (H0.out ()).bef
    have cb : wa.cell? ⟨BB, bi, none⟩ = some (I64 (b0.getD bi 0)) := int_cells hB0 bi (by omega)
    have cd := (H0.out ()).tab.cd
    have fb := hB0.frozen bi
    obtain ⟨z0, hz0⟩ : ∃ z, b0.getD bi 0 = z := ⟨_, rfl⟩
    rw [hz0] at cb
    have HB0 := hu hB0
    have Hb0 := hu hb0
    clear hz0 hB0 hb0
    have HLEN : a + ld.getD s 0 / 16777216 + s ≤ 8 * D.length := by
      have := congrArg List.length (HBITS.out ())
      have hn1 := ((HT.out ()).dc s hs12).n1
      simp only [List.length_drop, bitsOf_length, List.length_append, huffBits, bitsN_length, HPL.out ()] at this
      omega
    go_region_with
      (first
        | (go_at_call 37; refine (symbol_any (l := ld) (s := s) ((H0.out ()).src.heap (by rfl)) ((H0.out ()).tab.dm.heap (by rfl)) n4 ((HT.out ()).dc s hs12) (HBITS.out ())).mono ?_; rintro e w1 ⟨rfl, s1, f1⟩; have S1 := hu s1; have F1 := hu f1; have lb1 : BB < w1.heap.size := Nat.lt_of_lt_of_le (HB0.out ()).lt f1.size; have lt1 : TB < w1.heap.size := Nat.lt_of_lt_of_le (H0.out ()).tab.lt f1.size; have cb1 : w1.cell? ⟨BB, bi, none⟩ = some (I64 z0) := (World.cell?_of_block (a := ⟨BB, bi, none⟩) (f1.block BB (HB0.out ()).lt n1)).trans cb; have cd1 : w1.cell? ⟨TB, 4 + dc, none⟩ = some (.map (some md)) := (World.cell?_of_block (a := ⟨TB, 4 + dc, none⟩) (f1.block TB (H0.out ()).tab.lt n2)).trans cd; have fb1 : w1.frozen? ⟨BB, bi, none⟩ = false := (World.frozen?_of_block (a := ⟨BB, bi, none⟩) (f1.block BB (HB0.out ()).lt n1)).trans fb; clear s1 f1)
        | (go_at_call 36; refine (number_i (k := s) ((S1.out ()).heap (by rfl)) (by omega) (by omega) HLEN).mono ?_; rintro e w2 ⟨zn, rfl, s2, f2⟩; have S2 := hu s2; have F2 := hu f2; have cb2 : w2.cell? ⟨BB, bi, none⟩ = some (I64 z0) := (World.cell?_of_block (a := ⟨BB, bi, none⟩) (f2.block BB lb1 n1)).trans cb1; have cd2 : w2.cell? ⟨TB, 4 + dc, none⟩ = some (.map (some md)) := (World.cell?_of_block (a := ⟨TB, 4 + dc, none⟩) (f2.block TB lt1 n2)).trans cd1; have fb2 : w2.frozen? ⟨BB, bi, none⟩ = false := (World.frozen?_of_block (a := ⟨BB, bi, none⟩) (f2.block BB lb1 n1)).trans fb1; clear s2 f2))
    all_goals
      go_wp2
      go_meet
      have F12 : Fr (· = RB) wa w2 := (show Fr (· = RB) wa w1 from (F1.out ()).from (by rfl) (by rfl) (by rfl) (by rfl)).trans (show Fr (· = RB) w1 w2 from (F2.out ()).from (by rfl) (by rfl) (by rfl) (by rfl)) (fun _ _ e => e)
      have hS2 := S2.out ()
      rw [Nat.add_assoc] at hS2
      exact ((H0.out ()).go F12 hS2 n1 n2 n4 n5).put bi _ n1 n3 n6 n7 n8
  case rest =>
    have hRB : RB < RS := by rw [← HRS.out ()]; exact LRB.out ()
    have hDB : DB < RS := by rw [← HRS.out ()]; exact LDB.out ()
    have hBB : BB < RS := by rw [← HRS.out ()]; exact LBB.out ()
    have hTB : TB < RS := by rw [← HRS.out ()]; exact LTB.out ()
    have hmd : md < RS := by rw [← HRS.out ()]; exact LMD.out ()
    have hma : ma < RS := by rw [← HRS.out ()]; exact LMA.out ()
    have hL : LpW wa wc RB DB BB TB dc ac md ma (RS + 1) RS D ed ea (a + (ld.getD s 0 / 16777216 + s)) :=
      ⟨hcut.src, hcut.tab, hcut.bef, ⟨List.replicate 64 0, by simp, hcut.fr.blk (HBX.out ()) (by omega)⟩, ⟨List.replicate 64 0, by simp, hcut.fr.blk (HBR.out ()) (by omega)⟩, hcut.fr.mono (fun _ _ e => by rcases e with e | e; exact .inl e; exact .inr (.inl e))⟩
    have HL := hu hL
    obtain ⟨b1, hb1, hB1⟩ := hcut.bef
    obtain ⟨x1, hx1, hX1⟩ := hL.xs
    have c1 : wc.cell? ⟨BB, bi, none⟩ = some (I64 (b1.getD bi 0)) := int_cells hB1 bi (by omega)
    have c2 : wc.cell? ⟨RS + 1, 0, none⟩ = some (I64 (x1.getD 0 0)) := int_cells hX1 0 (by omega)
    have c3 := hX1.frozen 0
    clear hcut hL hB1 hX1 hb1 hx1
    go_step
    go_wp2
    have HL2 := hu ((HL.out ()).put 0 (b1.getD bi 0) (by omega) (by omega) (by omega) (by omega) (by omega) (by omega) (by omega))
    clear c1 c2 c3
    go_loopw [12, 13] (fun x _ wr => LpRel wa RB DB BB TB dc ac md ma (RS + 1) RS D la ed ea rest (a + (ld.getD s 0 / 16777216 + s + (tokBits la ts).length)) x wr) (fun x _ _ => 64 - (intOf x).toNat)
    case atStart =>
      refine ⟨1, _, ts, rfl, by omega, HW.out (), ?_, ?_, HL2.out ()⟩
      · have hb := HBITS.out ()
        have e : (bitsOf D).drop (a + (ld.getD s 0 / 16777216 + s)) = ((bitsOf D).drop a).drop (ld.getD s 0 / 16777216 + s) := by rw [List.drop_drop]
        rw [e, hb, ← List.append_assoc, List.drop_left']
        rw [List.length_append, HPL.out ()]
        unfold huffBits
        rw [bitsN_length]
      · omega
    case round =>
      obtain ⟨k, a', ts', rfl, hk, hW, hb, hfin, hLp⟩ := hrel
      have HLp := hu hLp
      have HB := hu hb
      have HFIN := hu hfin
      have cm := hLp.tab.ca
      have cb : wr.cell? ⟨RB, 2, none⟩ = some (.bool false) := hLp.src.head.choose_spec.cellv 2 rfl
      rcases hW.parts with ⟨rfl, rfl⟩ | ⟨t, ts2, rfl, hsym, hlen, hk63, hW2⟩ | ⟨rfl, hk63⟩
      · clear hLp hb hfin cm cb hW
        go_upto_region 13 with (fail)
        obtain ⟨xs, hx, hX⟩ := (HLp.out ()).xs
        obtain ⟨rs, hr, hR⟩ := (HLp.out ()).rs
        have HE := hu (blk_end (HF0.out ()) (HRS.out ()) (HLp.out ()) hRB hDB hBB hx)
        have HR9 := hu hR
        rename_i K13
        apply wp_region_lit
        refine wpList_load_row rfl 77 _ rfl (RS + 1) rfl 77 (xs.map I64).toArray (0, 0) (.array 64 3) hX (by kernel_rfl) rfl (size77 xs hx) ?_
        refine wpList_store_rowTo rfl 77 _ _ rfl rfl RS (xs.map I64).toArray rfl rfl 77 _ hR (size77 xs hx) (by simp [hx, hr]) (one77 xs) ?_
        apply wpList_nil
        refine K13 _ _ ?_
        apply wp_ret
        show bodyPost Tryd.prog Tryd.f17 _ .ret _ _
        refine bodyPost_ret (v := .agg (xs.map I64).toArray) (results_cell_row (d := .array 64 3) rfl _ _ RS 77 (xs.map I64).toArray (0, 0) (by kernel_rfl) (setRow_heap _ _ _ _ _ _ hR) (by kernel_rfl) rfl (size77 xs hx)) rfl ?_
        have e := HFIN.out ()
        rw [show (tokBits la []).length = 0 from rfl, Nat.add_zero] at e
        rw [← e]
        exact HE.out ()
      · obtain ⟨sy, p⟩ := t
        have hs256 : sy < 256 := by
          rcases hsym with h | h
          · have : sy = 240 := h; omega
          · exact h.2.2
        have hs0 : 1 ≤ sy := by
          rcases hsym with h | h
          · have : sy = 240 := h; omega
          · have := h.1
            by_cases h0 : sy = 0
            · subst h0; simp at this
            · omega
        have hk63' : k + sy / 16 ≤ 63 := hk63
        have hlt : decide ((k : Int) < 64) = true := by simp; omega
        have hne : ((sy : Int) == 0) = false := by simp; omega
        have HD := hu ((HT.out ()).ac sy hsym)
        have hb1 : (bitsOf D).drop a' = huffBits la sy ++ (p ++ (tokBits la ts2 ++ rest)) := by rw [hb, tokBits_cons]; simp
        have HB1 := hu hb1
        have HW2 := hu hW2
        have HPL2 := hu (show p.length = sy % 16 from hlen)
        have HAND := hu (and15 sy hs256)
        clear hLp hb hfin hW hsym hk63 hlen hW2 hb1
        go_wp2_with fail
        refine (symbol_any (l := la) (s := sy) (HLp.out ()).src (HLp.out ()).tab.am n5 (HD.out ()) (HB1.out ())).mono ?_
        rintro e w1 ⟨rfl, s1, f1⟩
        have HL1 := hu ((HLp.out ()).go f1 s1 n1 n2 n4 n5 (by omega) (by omega))
        have cb1 : w1.cell? ⟨RB, 2, none⟩ = some (.bool false) := s1.head.choose_spec.cellv 2 rfl
        clear s1 f1 cm cb
        go_upto_region 10 with (fail)
        have hk2 : (k : Int) + (sy : Int) / 16 = ((k + sy / 16 : Nat) : Int) := by omega
        rw [hk2]
        obtain ⟨k2, hk2e⟩ : ∃ k2, k + sy / 16 = k2 := ⟨_, rfl⟩
        rw [hk2e]
        rw [hk2e] at hk63'
        have HK2 := hu hk2e
        have HW3 := HW2.out ()
        rw [hk2e] at HW3
        have HW3 := hu HW3
        have e1 : (0 : Int) ≤ (k2 : Int) := by omega
        have e2 : (k2 : Int) < 64 := by omega
        have e3 : (k2 : Int) ≤ 63 := by omega
        have e4 : decide ((63 : Int) < (k2 : Int)) = false := by simp; omega
        clear hk2 hk2e
        go_wp2_with fail
        rw [HAND.out ()]
        have hl2 : a' + la.getD sy 0 / 16777216 + sy % 16 ≤ 8 * D.length := by
          have := congrArg List.length (HB1.out ())
          have hn1 := (HD.out ()).n1
          simp only [List.length_drop, bitsOf_length, List.length_append, huffBits, bitsN_length, HPL2.out ()] at this
          omega
        refine (number_any (k := sy % 16) (HL1.out ()).src (by omega) hl2).mono ?_
        rintro e w2 ⟨zn, rfl, s2, f2⟩
        have HL2 := hu ((HL1.out ()).go f2 s2 n1 n2 n4 n5 (by omega) (by omega))
        obtain ⟨xs, hx, hX⟩ := (HL2.out ()).xs
        have cx : w2.cell? ⟨RS + 1, k2, none⟩ = some (I64 (xs.getD k2 0)) := int_cells hX k2 (by omega)
        have fx := hX.frozen k2
        clear s2 f2 cb1 hx hX
        go_wp2
        go_roundw
        case rel =>
          refine ⟨k2 + 1, _, ts2, by go_num, by omega, HW3.out (), ?_, ?_, (HL2.out ()).put k2 zn (by omega) (by omega) (by omega) (by omega) (by omega) (by omega) (by omega)⟩
          · have e : (bitsOf D).drop (a' + la.getD sy 0 / 16777216 + sy % 16) = ((bitsOf D).drop a').drop (la.getD sy 0 / 16777216 + sy % 16) := by rw [List.drop_drop, Nat.add_assoc]
            rw [e, HB1.out (), ← List.append_assoc, List.drop_left']
            rw [List.length_append, HPL2.out ()]
            unfold huffBits
            rw [bitsN_length]
          · rw [← HFIN.out (), tokBits_cons]
            simp only [List.length_append, huffBits, bitsN_length, HPL2.out ()]
            omega
        case measure => simp [intOf]; have := HK2.out (); omega
      · have hlt : decide ((k : Int) < 64) = true := by simp; omega
        have hb0 : (bitsOf D).drop a' = huffBits la 0 ++ rest := by rw [hb]; simp [tokBits]
        have HB0 := hu hb0
        have HEOB := hu (HT.out ()).eob
        clear hLp hb hfin hW hb0
        go_wp2_with fail
        refine (symbol_any (l := la) (s := 0) (HLp.out ()).src (HLp.out ()).tab.am n5 (HEOB.out ()) (HB0.out ())).mono ?_
        rintro e w1 ⟨rfl, s1, f1⟩
        have HL1 := hu ((HLp.out ()).go f1 s1 n1 n2 n4 n5 (by omega) (by omega))
        clear s1 f1 cm cb
        go_upto_region 13 with (fail)
        obtain ⟨xs, hx, hX⟩ := (HL1.out ()).xs
        obtain ⟨rs, hr, hR⟩ := (HL1.out ()).rs
        have HE := hu (blk_end (HF0.out ()) (HRS.out ()) (HL1.out ()) hRB hDB hBB hx)
        have HR9 := hu hR
        rename_i K13
        apply wp_region_lit
        refine wpList_load_row rfl 77 _ rfl (RS + 1) rfl 77 (xs.map I64).toArray (0, 0) (.array 64 3) hX (by kernel_rfl) rfl (size77 xs hx) ?_
        refine wpList_store_rowTo rfl 77 _ _ rfl rfl RS (xs.map I64).toArray rfl rfl 77 _ hR (size77 xs hx) (by simp [hx, hr]) (one77 xs) ?_
        apply wpList_nil
        refine K13 _ _ ?_
        apply wp_ret
        show bodyPost Tryd.prog Tryd.f17 _ .ret _ _
        refine bodyPost_ret (v := .agg (xs.map I64).toArray) (results_cell_row (d := .array 64 3) rfl _ _ RS 77 (xs.map I64).toArray (0, 0) (by kernel_rfl) (setRow_heap _ _ _ _ _ _ hR) (by kernel_rfl) rfl (size77 xs hx)) rfl ?_
        have e := HFIN.out ()
        rw [show (tokBits la [(0, [])]).length = la.getD 0 0 / 16777216 by simp [tokBits, huffBits, bitsN_length]] at e
        rw [← e]
        exact HE.out ()
end Go.Proofs.YtpophkigihfjoaaDoor
