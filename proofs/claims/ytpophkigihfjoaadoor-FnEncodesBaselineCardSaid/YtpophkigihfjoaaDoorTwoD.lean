/- A law for regions that draw; the walks of head and of read at two markers. -/
import Derived.OrdersHeld
import Derived.StillTail
import Derived.Deep.RegionHeld3
import Derived.Test.YtpophkigihfjoaaDoorTwoC
import Derived.Test.YtpophkigihfjoaaDoorTwoA
/- A law for a region that draws its order: its head under a condition on the world, its tail in one order. -/
namespace Go.Proofs.YtpophkigihfjoaaDoor
open Go

section
variable {P : Program} {ops : Array Oper} {md : Region.Mode} {Q : Exit → Act → World → Prop} {S : World → Prop}

theorem wpAny_of_seq_more (x : Nat) : ∀ (l : List Oper) (k : Nat) (listed : Array Bool) (a : Act) (w : World), (∀ j, l[j]? = ops[k + j]?) →
    Region.seqB md ops l.length k listed = true → wpList P ops Q l a w → wpAny P md ops Q (l.length + x) listed a w
  | [], k, listed, a, w, _, hB, h => by
    have hr : Region.ready md ops listed = [] := by simpa [Region.seqB] using hB
    rw [List.length_nil, Nat.zero_add]
    cases x with
    | zero => exact ⟨hr, h⟩
    | succ x => exact ⟨fun _ => h, by rw [hr]; intro i hi; cases hi⟩
  | o :: l, k, listed, a, w, hl, hB, h => by
    have h0 : ops[k]? = some o := by simpa using (hl 0).symm
    simp only [List.length_cons, Region.seqB, Bool.and_eq_true, decide_eq_true_eq] at hB
    rw [show (o :: l).length + x = (l.length + x) + 1 by simp only [List.length_cons]; omega]
    refine ⟨fun h1 => (by rw [hB.1] at h1; cases h1), fun i hi => ?_⟩
    rw [hB.1] at hi
    have hik : i = k := by simpa using hi
    subst hik
    have hw : wpOp P ops Q i (wpList P ops Q l) a w := by unfold wpOp; simp only [h0]; exact h
    exact wpOp_mono (fun a' w' h' => wpAny_of_seq_more x l (i + 1) _ a' w' (fun j => by have := hl (j + 1); simpa [Nat.add_assoc, Nat.add_comm 1 j] using this) hB.2 h') hw

/-- Each operation of the head waits for earlier ones alone. -/
def edgeB (md : Region.Mode) (ops : Array Oper) (n : Nat) : Bool :=
  (List.range n).all fun i => match ops[i]? with
    | some o => o.after.all fun e => !Region.binds md e || decide (e.on < i)
    | none => true

theorem edge_spec {n i : Nat} {o : Oper} (h : edgeB md ops n = true) (hi : i < n) (ho : ops[i]? = some o) : ∀ e ∈ o.after, Region.binds md e = true → e.on < i := by
  intro e he hb
  have h1 := List.all_eq_true.1 h i (List.mem_range.2 hi)
  simp only [ho] at h1
  have h2 := Array.all_eq_true'.1 h1 e he
  simpa [hb] using h2

/-- The head's state, and the same with the tail taken as done. -/
structure Two (ops : Array Oper) (n : Nat) (l l' : Array Bool) : Prop where
  size : l.size = ops.size
  size' : l'.size = ops.size
  head : ∀ i, i < n → l.getD i false = l'.getD i false
  tail' : ∀ t, n ≤ t → t < ops.size → l'.getD t true = true

theorem getD_bool {l : Array Bool} {i : Nat} (hi : i < l.size) (b c : Bool) : l.getD i b = l.getD i c := by simp [hi]

theorem two_ready {n i : Nat} {l l' : Array Bool} (h : Two ops n l l') (hE : edgeB md ops n = true) (hi : i < n) (hn : n ≤ ops.size) : i ∈ Region.ready md ops l ↔ i ∈ Region.ready md ops l' := by
  have hs : i < l.size := by rw [h.size]; omega
  have hs' : i < l'.size := by rw [h.size']; omega
  have e0 : l.getD i true = l'.getD i true := by rw [getD_bool hs true false, getD_bool hs' true false]; exact h.head i hi
  simp only [mem_ready]
  rw [e0]
  refine and_congr_right fun _ => ?_
  refine exists_congr fun o => and_congr_right fun ho => ?_
  refine forall_congr' fun e => forall_congr' fun he => forall_congr' fun hb => ?_
  have hlt := edge_spec hE hi ho e he hb
  rw [h.head e.on (by omega)]

theorem two_none {n i : Nat} {l l' : Array Bool} (h : Two ops n l l') (hi : n ≤ i) : i ∉ Region.ready md ops l' := by
  intro hr
  obtain ⟨h1, o, ho, _⟩ := mem_ready.1 hr
  have hlt := (Array.getElem?_eq_some_iff.1 ho).1
  rw [h.tail' i hi hlt] at h1
  cases h1

theorem two_set {n i : Nat} {l l' : Array Bool} (h : Two ops n l l') (hi : i < n) : Two ops n (l.setIfInBounds i true) (l'.setIfInBounds i true) := by
  refine ⟨by simp [h.size], by simp [h.size'], fun j hj => ?_, fun t ht ht' => by rw [getD_set_ne true (by omega)]; exact h.tail' t ht ht'⟩
  by_cases hij : i = j
  · subst hij
    have : (l.getD i false = l'.getD i false) := h.head i hi
    by_cases hl : i < l.size
    · have hl' : i < l'.size := by rw [h.size']; rw [h.size] at hl; exact hl
      simp [hl, hl']
    · have hl' : ¬ i < l'.size := by rw [h.size']; rw [h.size] at hl; exact hl
      simp [hl, hl']
  · rw [getD_set_ne false hij, getD_set_ne false hij]; exact h.head j hj

/-- Some operation of the head has not come up: one of the head is ready. -/
theorem head_ready_ex {n : Nat} {l : Array Bool} (hE : edgeB md ops n = true) (hn : n ≤ ops.size) (hs : l.size = ops.size) : ∀ i, i < n → l.getD i false = false → ∃ j, j < n ∧ j ∈ Region.ready md ops l := by
  intro i
  induction i using Nat.strongRecOn with
  | _ i ih =>
    intro hi hun
    by_cases hall : ∀ e ∈ (ops[i]'(by omega)).after, Region.binds md e = true → l.getD e.on false = true
    · refine ⟨i, hi, mem_ready.2 ⟨?_, _, Array.getElem?_eq_getElem (by omega), hall⟩⟩
      rw [getD_bool (by omega) true false]; exact hun
    · simp only [Classical.not_forall] at hall
      obtain ⟨e, he, hb, hno⟩ := hall
      have hlt := edge_spec hE hi (Array.getElem?_eq_getElem (by omega)) e he hb
      exact ih e.on hlt (by omega) (by simpa using hno)

/-- Q behind the head: the tail, carried out in its order; else Q itself. -/
def Tail (P : Program) (ops : Array Oper) (Q : Exit → Act → World → Prop) (tl : List Oper) : Exit → Act → World → Prop
  | .normal, a, w => wpList P ops Q tl a w
  | .exit n, a, w => Q (.exit n) a w
  | .panic c, a, w => Q (.panic c) a w
  | .goto n, a, w => Q (.goto n) a w
  | .ret, a, w => Q .ret a w
  | .outgrown, a, w => Q .outgrown a w


theorem wpOp_tail {tl : List Oper} {K : Act → World → Prop} {i : Nat} {a : Act} {w : World} (h : wpOp P ops (Tail P ops Q tl) i K a w) : wpOp P ops Q i K a w := by
  unfold wpOp at *
  split
  · rename_i hn; simpa only [hn] using h
  · rename_i o ho
    simp only [ho] at h
    split
    · rename_i hw
      simp only [hw, if_true] at h
      rcases h with h | ⟨h1, a1, w1, h2⟩
      · refine .inl ?_
        unfold Oper.wp at *
        generalize (execOp a.eval o).run P w = r at *
        cases r with
        | ok n w' =>
          cases n <;> simp only [Oper.upon] at h ⊢
          case enter f args =>
            refine Calls.mono h fun e w'' he => ?_
            cases e with
            | returned u => exact he
            | panicked c => exact he
            | outgrown => exact he
          all_goals exact h
        | halt x w' => cases x <;> simp only [Oper.upon] at h ⊢ <;> exact h
      · exact .inr ⟨h1, a1, w1, h2⟩
    · rename_i hw; simp only [hw] at h; exact h

/-- The tail's beginning, all of the head having come up. -/
def headDone (ops : Array Oper) (n : Nat) : Array Bool := (List.replicate n true ++ List.replicate (ops.size - n) false).toArray

theorem all_done {n : Nat} {l : Array Bool} (hn : n ≤ ops.size) (inv : HeadInv md ops n l) (h : ∀ i, i < n → l.getD i false = true) : l = headDone ops n := by
  apply Array.ext
  · simp only [headDone, List.size_toArray, List.length_append, List.length_replicate, inv.size]; omega
  · intro i h1 h2
    have e1 : l[i] = l.getD i false := by simp [h1]
    have e2 : l[i] = l.getD i true := by simp [h1]
    by_cases hi : i < n
    · rw [e1, h i hi]
      simp [headDone, List.getElem_append, hi]
    · rw [e2, inv.tail i (by omega) (by rw [← inv.size]; exact h1)]
      simp [headDone, List.getElem_append, hi]

theorem split_any {n x : Nat} {tl : List Oper} (hs : Region.sinkB md ops n = true) (hc : Region.chainB md ops n = true) (hn : n < ops.size) (hE : edgeB md ops n = true)
    (htl : ∀ j, tl[j]? = ops[n + j]?) (hseq : Region.seqB md ops tl.length n (headDone ops n) = true) :
    ∀ (f : Nat) (l l' : Array Bool) (a : Act) (w : World), Two ops n l l' → HeadInv md ops n l → tl.length ≤ x → wpAny P md ops (Tail P ops Q tl) f l' a w → wpAny P md ops Q (f + x) l a w := by
  intro f
  have fin : ∀ (f : Nat) (l l' : Array Bool) (a : Act) (w : World), Two ops n l l' → HeadInv md ops n l → tl.length ≤ x → Region.ready md ops l' = [] → wpList P ops Q tl a w → wpAny P md ops Q (f + x) l a w := by
    intro f l l' a w ht inv hx hr hw
    have hd : l = headDone ops n := by
      refine all_done (Nat.le_of_lt hn) inv fun i hi => ?_
      cases hl : l.getD i false with
      | true => rfl
      | false =>
        obtain ⟨j, hj, hj2⟩ := head_ready_ex hE (Nat.le_of_lt hn) inv.size i hi hl
        rw [two_ready ht hE hj (Nat.le_of_lt hn), hr] at hj2
        cases hj2
    have := wpAny_of_seq_more (P := P) (Q := Q) (f + x - tl.length) tl n l a w htl (by rw [hd]; exact hseq) hw
    rwa [show tl.length + (f + x - tl.length) = f + x by omega] at this
  induction f with
  | zero =>
    intro l l' a w ht inv hx h
    exact fin 0 l l' a w ht inv hx h.1 h.2
  | succ f ih =>
    intro l l' a w ht inv hx h
    by_cases hr : Region.ready md ops l' = []
    · exact fin (f + 1) l l' a w ht inv hx hr (h.1 hr)
    · obtain ⟨i0, hi0⟩ := List.exists_mem_of_ne_nil _ hr
      have hi0n : i0 < n := by
        rcases Nat.lt_or_ge i0 n with h' | h'
        · exact h'
        · exact absurd hi0 (two_none ht h')
      have hl0 := (two_ready ht hE hi0n (Nat.le_of_lt hn)).2 hi0
      have hun := (mem_ready.1 hl0).1
      rw [show f + 1 + x = (f + x) + 1 by omega]
      refine ⟨fun h0 => (by rw [h0] at hl0; cases hl0), fun i hi => ?_⟩
      have hin : i < n := by
        rcases Nat.lt_or_ge i n with h' | h'
        · exact h'
        · exact absurd hi (tail_waits hs hc hn inv _ i0 rfl hi0n hun i h')
      have h1 := h.2 i ((two_ready ht hE hin (Nat.le_of_lt hn)).1 hi)
      exact wpOp_tail (wpOp_mono (fun a' w' h' => ih _ _ a' w' (two_set ht hin) (inv.set hi hin) hx h') h1)

def splitB (ops : Array Oper) (n g : Nat) : Bool := Region.sinkB .any ops n && Region.chainB .any ops n && decide (n < ops.size) && edgeB .any ops n && Region.seqB .any ops g n (headDone ops n)

/-- The region's tail taken as done. -/
def tailDone (ops : Array Oper) (n : Nat) : Array Bool := (List.replicate n false ++ List.replicate (ops.size - n) true).toArray

/-- A region whose operations from number n on come in one order behind all the others: the head under a condition S on the world, which the tail need not keep. -/
theorem wp_region_split {id : Nat} {a : Act} {w : World} {l : List Oper} (n : Nat) (S : World → Prop) (hm : P.follows .mixedOrders = true) (hB : splitB l.toArray n (l.drop n).length = true)
    (h : wpAnyH P .any l.toArray (Tail P l.toArray Q (l.drop n)) S n (tailDone l.toArray n) a w.drew) : (Code.region id l.toArray true).wp P Q a w := by
  simp only [splitB, Bool.and_eq_true, decide_eq_true_eq] at hB
  obtain ⟨⟨⟨⟨hs, hc⟩, hn⟩, hE⟩, hseq⟩ := hB
  have inv0 : HeadInv .any l.toArray n (Array.replicate l.toArray.size false) :=
    ⟨by simp, fun j oj _ hl => (by rw [getD_replicate_false] at hl; cases hl), fun t _ ht => getD_in (by simpa using ht) (getD_replicate_false _ _)⟩
  refine wp_region_any hm ?_
  have ht : Two l.toArray n (Array.replicate l.toArray.size false) (tailDone l.toArray n) := by
    refine ⟨by simp, by simp [tailDone]; simp at hn; omega, fun i hi => ?_, fun t h1 h2 => ?_⟩
    · rw [getD_replicate_false]
      simp [tailDone, List.getElem?_append, hi]
    · have : ¬ t < n := by omega
      simp only [List.size_toArray] at h2
      have h3 : t - n < l.length - n := by omega
      simp [tailDone, List.getElem?_append, this, h3]
  have := split_any (x := l.toArray.size - n) hs hc hn hE (fun j => by simp [List.getElem?_drop]) hseq n _ _ a w.drew ht inv0 (by simp) (wpAny_of_held _ _ _ _ h)
  rw [show n + (l.toArray.size - n) = l.toArray.size by omega] at this
  exact this


/-- Operations that yield, one behind the other, in every world that meets S. -/
def chainY (P : Program) (ops : Array Oper) (S : World → Prop) (L : Act → Prop) : List Oper → Act → Prop
  | [], a => L a
  | o :: l, a => ∃ v, YieldsIf P ops S o v a ∧ chainY P ops S L l (a.put o.dst v)

theorem chainY_cons {L : Act → Prop} {o : Oper} {l : List Oper} {a : Act} {v : Value} (hw : Region.wanted o (yielded ops a.tmps) = true) (hv : ∀ w, S w → (execOp a.eval o).run P w = .ok (.value v) w)
    (h : chainY P ops S L l (a.put o.dst v)) : chainY P ops S L (o :: l) a := ⟨v, .inl ⟨hw, hv⟩, h⟩

theorem chainY_nil {L : Act → Prop} {a : Act} (h : L a) : chainY P ops S L [] a := h

def takesB (ops : Array Oper) : Nat → Nat → Array Bool → Bool
  | 0, _, _ => true
  | f + 1, k, listed => (Region.ready .any ops listed).contains k && Region.free .any ops listed k && takesB ops f (k + 1) (listed.setIfInBounds k true)

def takeSets : Nat → Nat → Array Bool → Array Bool
  | 0, _, listed => listed
  | f + 1, k, listed => takeSets f (k + 1) (listed.setIfInBounds k true)

theorem takes_any {f : Nat} {w : World} (hsel : Region.noSelect ops = true) (hQ : ∀ d v c a w, Q (.panic c) (Act.put a d v) w → Q (.panic c) a w) (hS : S w) :
    ∀ (l : List Oper) (k : Nat) (listed : Array Bool) (a : Act), (∀ j, j < l.length → l[j]? = ops[k + j]?) → takesB ops l.length k listed = true →
      chainY P ops S (fun a' => wpAnyH P .any ops Q S f (takeSets l.length k listed) a' w) l a → wpAnyH P .any ops Q S (f + l.length) listed a w
  | [], k, listed, a, _, _, h => h
  | o :: l, k, listed, a, hl, hB, h => by
    have h0 : ops[k]? = some o := by simpa using (hl 0 (by simp)).symm
    simp only [List.length_cons, takesB, Bool.and_eq_true] at hB
    obtain ⟨⟨hr, hf⟩, hB'⟩ := hB
    obtain ⟨v, hy, h'⟩ := h
    have := takes_any (f := f) hsel hQ hS l (k + 1) (listed.setIfInBounds k true) (a.put o.dst v) (fun j hj => by have := hl (j + 1) (by simp; omega); simpa [Nat.add_assoc, Nat.add_comm 1 j] using this) hB' h'
    exact wpAnyH_take h0 hsel hf hr (hQ o.dst v) hy hS this

/-- The one operation that may come up next. -/
theorem wpAnyH_next {f : Nat} {listed : Array Bool} {a : Act} {w : World} {l rest : List Oper} {o : Oper} (k : Nat) (ho : l.drop k = o :: rest) (hr : Region.ready .any l.toArray listed = [k])
    (h : ∀ K : Act → World → Prop, (∀ a' w', S w' → wpAnyH P .any l.toArray Q S f (listed.setIfInBounds k true) a' w' → K a' w') → if Region.wanted o (yielded l.toArray a.tmps) = true then o.wp P a w K Q else K (a.put o.dst undef) w) :
    wpAnyH P .any l.toArray Q S (f + 1) listed a w := by
  refine ⟨fun h0 => (by rw [hr] at h0; cases h0), fun i hi => ?_⟩
  rw [hr] at hi
  obtain rfl : i = k := by simpa using hi
  have h0 : l.toArray[i]? = some o := by
    have : (l.drop i)[0]? = some o := by rw [ho]; rfl
    rw [List.getElem?_drop] at this
    simpa using this
  unfold wpOp
  simp only [h0]
  have := h (fun a' w' => S w' ∧ wpAnyH P .any l.toArray Q S f (listed.setIfInBounds i true) a' w') (fun a' w' h1 h2 => ⟨h1, h2⟩)
  split
  · rename_i hw
    rw [if_pos hw] at this
    exact .inl this
  · rename_i hw
    rw [if_neg hw] at this
    exact this

/-- One operation that yields is taken first, wherever it stands. -/
theorem wpAnyH_takeL {f : Nat} {listed : Array Bool} {a : Act} {w : World} {l rest : List Oper} {o : Oper} {v : Value} (k : Nat) (ho : l.drop k = o :: rest) (hsel : Region.noSelect l.toArray = true) (hf : Region.free .any l.toArray listed k = true)
    (hr : (Region.ready .any l.toArray listed).contains k = true) (hQ : ∀ c a a' w, a'.defers = a.defers → Q (.panic c) a' w → Q (.panic c) a w) (hw : Region.wanted o (yielded l.toArray a.tmps) = true)
    (hv : ∀ w, S w → (execOp a.eval o).run P w = .ok (.value v) w) (hS : S w) (h : wpAnyH P .any l.toArray Q S f (listed.setIfInBounds k true) (a.put o.dst v) w) : wpAnyH P .any l.toArray Q S (f + 1) listed a w := by
  have h0 : l.toArray[k]? = some o := by
    have : (l.drop k)[0]? = some o := by rw [ho]; rfl
    rw [List.getElem?_drop] at this
    simpa using this
  exact wpAnyH_take h0 hsel hf hr (fun c a w h => hQ c a (Act.put a o.dst v) w (by cases o.dst <;> rfl) h) (.inl ⟨hw, hv⟩) hS h

/-- The same, behind the first m operations, which yield. -/
theorem wp_region_takes {id : Nat} {a : Act} {w : World} {l : List Oper} (m n : Nat) (S : World → Prop) (hm : P.follows .mixedOrders = true) (hB : splitB l.toArray n (l.drop n).length = true) (hsel : Region.noSelect l.toArray = true)
    (hT : takesB l.toArray m 0 (tailDone l.toArray n) = true) (hmn : m ≤ n) (hml : (l.take m).length = m) (hQ : ∀ c a a' w, a'.defers = a.defers → Q (.panic c) a' w → Q (.panic c) a w) (hS : S w.drew)
    (h : chainY P l.toArray S (fun a' => wpAnyH P .any l.toArray (Tail P l.toArray Q (l.drop n)) S (n - m) (takeSets m 0 (tailDone l.toArray n)) a' w.drew) (l.take m) a) : (Code.region id l.toArray true).wp P Q a w := by
  refine wp_region_split n S hm hB ?_
  have := takes_any (P := P) (Q := Tail P l.toArray Q (l.drop n)) (f := n - m) hsel (fun d v c a w h => hQ c a (Act.put a d v) w (by cases d <;> rfl) h) hS (l.take m) 0 (tailDone l.toArray n) a
    (fun j hj => by rw [hml] at hj; simp [hj]) (by rw [hml]; exact hT) (by rw [hml]; exact h)
  rw [hml, show n - m + m = n by omega] at this
  exact this

end
end Go.Proofs.YtpophkigihfjoaaDoor

/- The walk of the reader's head. -/
namespace Go.Proofs.YtpophkigihfjoaaDoor
open Go.RowKit
set_option maxRecDepth 100000

/-- Bytes in memory that the call reads. -/
structure BodyW (w : World) (g off : Nat) (bs : List Int) : Prop where
  cell : ∀ j, j < bs.length → w.cell? ⟨g, off + j, none⟩ = some (.int .u8 (bs.getD j 0))
  lt : g < w.heap.size

theorem BodyW.frame {w w' : World} {S : Nat → Prop} {g off : Nat} {bs : List Int} (h : BodyW w g off bs) (hf : Fr S w w') (hS : ¬ S g) : BodyW w' g off bs :=
  ⟨fun j hj => (World.cell?_of_block (a := ⟨g, off + j, none⟩) (hf.block g h.lt hS)).trans (h.cell j hj), Nat.lt_of_lt_of_le h.lt hf.size⟩

/-- The reader's tables in cells. -/
def tblC (W H : Int) (cv tv : Value) (ms : List Value) (sv : Value) : List Value := [.int .i64 W, .int .i64 H, cv, tv] ++ (ms ++ [sv])

def sofBody (W H : Nat) : List Int := [8, 0, (H : Int), 0, (W : Int), 3, 1, 34, 0, 2, 17, 1, 3, 17, 1]

theorem orz (n : Nat) (h : n < 4294967296) : bits BinOp.or IntKind.i64 0 (n : Int) = (n : Int) := by
  show IntKind.i64.wrap ((BitVec.ofInt 64 (0 : Int) ||| BitVec.ofInt 64 (n : Int)).toNat : Int) = _
  have e1 : (BitVec.ofInt 64 (n : Int)).toNat = n := by rw [BitVec.toNat_ofInt]; omega
  have e2 : (BitVec.ofInt 64 (0 : Int)).toNat = 0 := by decide
  rw [BitVec.toNat_or, e1, e2, Nat.zero_or]
  simp only [IntKind.wrap, IntKind.bits, IntKind.signed] at *
  simp
  omega

theorem cell_set {w : World} {a b : Addr} {v x : Value} (h : w.cell? b = some x) (hn : b.block ≠ a.block) : (w.setCell a v).cell? b = some x := by
  rw [World.cell?_of_block (heap_setCell_other w a b.block v hn)]; exact h

theorem cell_set_drew {w : World} {a b : Addr} {v x : Value} (h : w.cell? b = some x) (hn : b.block ≠ a.block) : (w.setCell a v).drew.cell? b = some x := cell_set h hn

theorem alloc_cell {w : World} {b : Addr} {x : Value} (o : Obj) (h : w.cell? b = some x) : (w.alloc o).cell? b = some x := by
  have hl : b.block < w.heap.size := by
    rcases Nat.lt_or_ge b.block w.heap.size with h' | h'
    · exact h'
    · rw [World.cell?, Array.getElem?_eq_none h'] at h; cases h
  rw [World.cell?_of_block (Below.heap_alloc w o b.block hl)]; exact h

theorem wr64 (n : Nat) (h : n < 4294967296) : IntKind.i64.wrap (n : Int) = (n : Int) := by
  simp only [IntKind.wrap, IntKind.bits, IntKind.signed] at *
  simp
  omega

theorem hv (n : Nat) (h : n < 4294967296) : bits BinOp.or IntKind.i64 (IntKind.i64.wrap (IntKind.i64.wrap 0 * 256)) (IntKind.i64.wrap (n : Int)) = (n : Int) := by
  rw [wr64 n h]
  exact orz n h

/-- Between two components. -/
theorem info38 : (Tryd.prog.info? 38).map (fun i => (i.zero, i.size, i.bytes)) = some (some (.agg #[.int .i64 0, .int .i64 0, .int .i64 0, .int .i64 0, .slice none 0 0]), 5, 56) := by kernel_rfl

def HeadRel (w : World) (TB W H : Nat) (tv sv : Value) (ms : List Value) (k : Nat) (xs : List Value) (wr : World) : Prop :=
  ∃ v, Blk wr TB (tblC W H v tv ms sv) 66 ∧ wr.ownsRow w.heap.size 38 5 v k xs ∧ Fr (· = TB) w wr

theorem head_set {w : World} {TB W H : Nat} {tv sv : Value} {ms : List Value} (h : Blk w TB (tblC 0 0 (.slice none 0 0) tv ms sv) 66) :
    HeadRel w TB W H tv sv ms 0 [] ((w.setCell ⟨TB, 1, none⟩ (.int .i64 H)).setCell ⟨TB, 0, none⟩ (.int .i64 W)).drew :=
  ⟨.slice none 0 0, ((h.set 1 (.int .i64 H)).set 0 (.int .i64 W)).drew, World.ownsRow_nil _ _ _ _, (((Fr.refl (fun k => k = TB) w).setCell (a := ⟨TB, 1, none⟩) (fun _ => rfl) _).setCell (a := ⟨TB, 0, none⟩) (fun _ => rfl) _).drew⟩

def compC (a b c d : Int) : List Value := [.int .i64 a, .int .i64 b, .int .i64 c, .int .i64 d, .slice none 0 0]

theorem new_cells (w : World) (news : List Value) (t : TypeId) : ∀ j u, news[j]? = some u → (w.alloc (.cells news.toArray t)).drew.cell? ((⟨w.heap.size, 0, none⟩ : Addr).add j) = some u := by
  intro j u hu
  have e : ((⟨w.heap.size, 0, none⟩ : Addr).add j) = ⟨w.heap.size, j, none⟩ := by
    rcases j with _ | j <;> simp [Addr.add]
  rw [e]
  exact (Blk.new w news t).cellv j hu

theorem compC_one (a b c d : Int) : ∀ u ∈ compC a b c d, u.oneCell' = true := by
  intro u hu
  simp only [compC, List.mem_cons, List.not_mem_nil, or_false] at hu
  rcases hu with rfl | rfl | rfl | rfl | rfl <;> rfl

/-- What stands when the component lies ready to be appended. -/
structure Ready (w0 wc wa : World) (TB : Nat) (tbl : List Value) (v : Value) (k : Nat) (xs news : List Value) : Prop where
  own : wa.ownsRow w0.heap.size 38 5 v k xs
  size : w0.heap.size ≤ wa.heap.size
  tb : Blk wa TB tbl 66
  fr : Fr (· = TB) w0 wa
  new : ∀ j u, news[j]? = some u → wa.cell? ((⟨wc.heap.size, 0, none⟩ : Addr).add j) = some u

theorem head_ready {w0 wr : World} {TB k : Nat} {v : Value} {tbl xs : List Value} (ho : wr.ownsRow w0.heap.size 38 5 v k xs) (hb : Blk wr TB tbl 66) (hf : Fr (· = TB) w0 wr) (news : List Value) :
    Ready w0 wr (wr.alloc (.cells news.toArray 38)).drew TB tbl v k xs news :=
  ⟨ownsRow_of_block ho (fun k hk => Below.heap_alloc _ _ _ (ho.lt k hk).2), (hf.alloc (.cells news.toArray 38)).drew.size, Blk.drew (hb.alloc _), (hf.alloc _).drew, new_cells wr news 38⟩

theorem Ready.grown {w0 wc wa w1 : World} {TB k : Nat} {v : Value} {tbl news xs : List Value} (h : Ready w0 wc wa TB tbl v k xs news) (hTB : TB < w0.heap.size) (hg : wa.grownBy w1 v.ownBlock) : Blk w1 TB tbl 66 ∧ Fr (· = TB) w0 w1 := by
  have hlow : ∀ k, v.ownBlock = some k → w0.heap.size ≤ k := fun k hk => (h.own.lt k hk).1
  refine ⟨Blk.of_heap h.tb (hg.block TB h.tb.lt (fun e => by have := hlow TB e.symm; omega)), h.fr.grown hg (fun k hk e => by have := hlow k e; omega)⟩

theorem head_more {w0 w1 : World} {TB W H : Nat} {tv sv v v' : Value} {ms ys : List Value} {k : Nat} (hTB : TB < w0.heap.size) (b1 : Blk w1 TB (tblC W H v tv ms sv) 66) (f1 : Fr (· = TB) w0 w1)
    (hown : w1.ownsRow w0.heap.size 38 5 v' (k + 1) ys) :
    HeadRel w0 TB W H tv sv ms (k + 1) ys (w1.setCell ⟨TB, 2, none⟩ v') := by
  refine ⟨v', b1.set 2 v', ownsRow_of_block hown (fun k hk => heap_setCell_other _ _ _ _ (fun e => ?_)), f1.setCell (a := ⟨TB, 2, none⟩) (fun _ => rfl) v'⟩
  have := (hown.lt k hk).1
  have e : k = TB := e
  omega

/-- The append on a slice that the call itself made, as one step of a region that draws its order. -/
theorem step_append_moved {P : Program} {ops : Array Oper} {o : Oper} {a : Act} {w : World} {K : Act → World → Prop} {Q : Exit → Act → World → Prop} {E : Prop} (hgd : o.guard = none) (s x : Operand) (t : TypeId)
    (ho : o.op = .call { callee := .builtin .append, args := #[s, x], argTypes := #[t, t] })
    (base : Nat) (e : TypeId) (i : TypeInfo) (z : Value) (size bytes : Nat) (ht : P.underlying t = some (.slice e)) (hi : P.info? e = some i) (hz : i.zero = some z)
    (hsize : i.size = size) (hby : i.bytes = bytes) (hzs : z.cells.size = size) (hsz : 0 < size)
    (v : Value) (n : Nat) (xs : List Value) (hs : a.eval s = v) (hown : w.ownsRow base e size v n xs)
    (ad : Addr) (m c : Nat) (news : List Value) (hx : a.eval x = .slice (some ad) m c) (hl : news.length = m * size) (hnews : ∀ j u, news[j]? = some u → w.cell? (ad.add j) = some u) (h1 : ∀ u ∈ news, u.oneCell' = true)
    (h63 : n + m ≤ maxLen) (hbytes : (n + m) * bytes ≤ 140737488355328) (hbase : base ≤ w.heap.size)
    (h : ∀ v' w', w'.ownsRow base e size v' (n + m) (xs ++ news) → w.grownBy w' v.ownBlock → K (a.put o.dst v') w') :
    if Region.wanted o (yielded ops a.tmps) = true then Oper.wp P o a w K Q else E := by
  have hw : Region.wanted o (yielded ops a.tmps) = true := by simp [Region.wanted, hgd]
  rw [if_pos hw]
  obtain ⟨v', w', hr, h2, h3, h4⟩ := run_append_moved (P := P) w base t o.type e i z size bytes ht hi hz hsize hby hzs hsz v n xs hown ad m c news hl hnews h1 h63 hbytes hbase
  unfold Oper.wp
  simp [execOp, ho, resolve, invoke, builtin, hs, hx, hr, Result.andThen]
  exact h v' w' h2 h3

theorem und33 : Tryd.prog.underlying 33 = some (.slice 38) := by kernel_rfl

def HeadPost (w : World) (TB W H : Nat) (tv : Value) (ms : List Value) (sv : Value) (e : Ending) (w' : World) : Prop :=
  e = .returned (.bool true) ∧ ∃ (CB : Nat) (cap : Nat) (more : List Value), w.heap.size ≤ CB ∧ Blk w' TB (tblC W H (.slice (some ⟨CB, 0, none⟩) 3 cap) tv ms sv) 66 ∧
    Blk w' CB ([.int .i64 1, .int .i64 2, .int .i64 2, .int .i64 0, .slice none 0 0, .int .i64 2, .int .i64 1, .int .i64 1, .int .i64 1, .slice none 0 0, .int .i64 3, .int .i64 1, .int .i64 1, .int .i64 1, .slice none 0 0] ++ more) 38 ∧ Fr (· = TB) w w'

theorem head_end {w w' : World} {TB W H : Nat} {tv sv : Value} {ms xs : List Value} (h : HeadRel w TB W H tv sv ms 3 xs w')
    (hx : xs = [.int .i64 1, .int .i64 2, .int .i64 2, .int .i64 0, .slice none 0 0, .int .i64 2, .int .i64 1, .int .i64 1, .int .i64 1, .slice none 0 0, .int .i64 3, .int .i64 1, .int .i64 1, .int .i64 1, .slice none 0 0]) :
    HeadPost w TB W H tv ms sv (.returned (.bool true)) w' := by
  obtain ⟨v, hb, hown, hf⟩ := h
  rcases hown.2 with ⟨_, h0⟩ | ⟨g, cap, cur, rfl, hbg, hg, hnc, hcm, hcs, htake⟩
  · cases h0
  · refine ⟨rfl, g, cap, cur.toList.drop (3 * 5), hbg, hb, ?_, hf⟩
    have : cur.toList = xs ++ cur.toList.drop (3 * 5) := by rw [← htake, List.take_append_drop]
    unfold Blk
    rw [hg]
    subst hx
    rw [← this]

set_option maxHeartbeats 2000000 in
theorem head_any {w : World} {TB g off W H C : Nat} {tv sv : Value} {ms : List Value} (ht : Blk w TB (tblC 0 0 (.slice none 0 0) tv ms sv) 66) (hb : BodyW w g off (sofBody W H)) (hne : g ≠ TB) (w1 : 1 ≤ W) (w2 : W ≤ 40) (h1 : 1 ≤ H) (h2 : H ≤ 40) (hC : 15 ≤ C) :
    Calls Tryd.prog 33 #[.pointer (some ⟨TB, 0, none⟩), .slice (some ⟨g, off, none⟩) 15 C] w (HeadPost w TB W H tv ms sv) := by
  have b0 := hb.cell 0 (by show 0 < 15; omega)
  have b1 := hb.cell 1 (by show 1 < 15; omega)
  have b2 := hb.cell 2 (by show 2 < 15; omega)
  have b3 := hb.cell 3 (by show 3 < 15; omega)
  have b4 := hb.cell 4 (by show 4 < 15; omega)
  have b5 := hb.cell 5 (by show 5 < 15; omega)
  have b6 := hb.cell 6 (by show 6 < 15; omega)
  have b7 := hb.cell 7 (by show 7 < 15; omega)
  have b8 := hb.cell 8 (by show 8 < 15; omega)
  have b9 := hb.cell 9 (by show 9 < 15; omega)
  have b10 := hb.cell 10 (by show 10 < 15; omega)
  have b11 := hb.cell 11 (by show 11 < 15; omega)
  have b12 := hb.cell 12 (by show 12 < 15; omega)
  have b13 := hb.cell 13 (by show 13 < 15; omega)
  have b14 := hb.cell 14 (by show 14 < 15; omega)
  have t0 := ht.cellv 0 rfl
  have t1 := ht.cellv 1 rfl
  have t2 := ht.cellv 2 rfl
  have z0 := ht.frozen 0
  have z1 := ht.frozen 1
  have z2 := ht.frozen 2
  have HT := hu ht
  have HB := hu hb
  simp only [sofBody, List.getD_cons_succ, List.getD_cons_zero, Nat.add_zero] at b0 b1 b2 b3 b4 b5 b6 b7 b8 b9 b10 b11 b12 b13 b14
  have HTB := hu ht.lt
  clear ht hb
  go_enter Tryd.func33, Tryd.ntmps33
  go_wp2
  have oW := hv W (by omega)
  have oH := hv H (by omega)
  go_cut [] (fun wx => HeadRel w TB W H tv sv ms 0 [] wx)
  case first =>
    go_region_held3 (fun w' => w'.cell? ⟨g, off + 1, none⟩ = some (.int .u8 0) ∧ w'.cell? ⟨g, off + 2, none⟩ = some (.int .u8 (H : Int)) ∧ w'.cell? ⟨g, off + 3, none⟩ = some (.int .u8 0) ∧ w'.cell? ⟨g, off + 4, none⟩ = some (.int .u8 (W : Int))) ((refine ⟨?_, ?_, ?_, ?_⟩ <;> (repeat (first | exact b1 | exact b2 | exact b3 | exact b4 | refine cell_set_drew ?_ hne | refine cell_set ?_ hne)))) (fail)
    all_goals
      go_wp2
      go_meet
      exact head_set (HT.out ())
  case rest =>
    clear b0 b1 b2 b3 b4 b6 b7 b8 b9 b10 b11 b12 b13 b14 t0 t1 t2 z0 z1 z2 oW oH
    obtain ⟨v, hb, hown, hf⟩ := hcut
    obtain ⟨a, c, rfl⟩ := ownsRow_slice hown
    have hbw := (HB.out ()).frame hf hne
    have c2 := hb.cellv 2 rfl
    have zz := hb.frozen 2
    have b5 := hbw.cell 5 (by show 5 < 15; omega)
    have d0 := hbw.cell 6 (by show 6 < 15; omega)
    have d1 := hbw.cell 7 (by show 7 < 15; omega)
    have d2 := hbw.cell 8 (by show 8 < 15; omega)
    simp only [sofBody, List.getD_cons_succ, List.getD_cons_zero, Nat.add_zero] at b5 d0 d1 d2
    have HO := hu hown
    have HB1 := hu hb
    have HF := hu hf
    clear hbw hb hown hf
    have and34 : bits BinOp.and IntKind.u8 34 15 = 2 := by decide
    have and17 : bits BinOp.and IntKind.u8 17 15 = 1 := by decide
    go_step
    go_upto_region 4 with (fail)
    go_wp2
    refine wp_loop_rounds 4 ?_
    rw [rounds_succ]
    go_wp2
    go_cut [] (fun wx => HeadRel w TB W H tv sv ms 1 ([] ++ compC 1 2 2 0) wx)
    case first =>
      refine wp_region_takes 25 27 (fun w' => w'.cell? ⟨TB, 2, none⟩ = some (.slice a 0 c) ∧ w'.cell? ⟨g, off + 6, none⟩ = some (.int .u8 1) ∧ w'.cell? ⟨g, off + 7, none⟩ = some (.int .u8 34) ∧ w'.cell? ⟨g, off + 8, none⟩ = some (.int .u8 0)) (by kernel_rfl) (by kernel_rfl) (by kernel_rfl) (by kernel_rfl) (by decide) rfl (fun c a a' w e h => ⟨e.symm.trans h.1, h.2⟩) ⟨c2, d0, d1, d2⟩ ?_
      simp only [List.take_succ_cons, List.take_zero]
      iterate 25
        refine chainY_cons (v := ?_) rfl (fun w' hS => ?_) ?_
        rotate_left
        · obtain ⟨s0, s1, s2, s3⟩ := hS
          go_simp
          try with_reducible rfl
        simp only [Act.put, List.setIfInBounds_toArray, List.set_cons_zero, List.set_cons_succ]
      refine chainY_nil ?_
      refine wpAnyH_next 25 rfl (by kernel_rfl) (fun K hK => ?_)
      go_simp
      refine hK _ _ ⟨alloc_cell _ c2, alloc_cell _ d0, alloc_cell _ d1, alloc_cell _ d2⟩ ?_
      change wpAnyH _ _ _ _ _ _ _ _ (wc.alloc (.cells (compC 1 2 2 0).toArray 38)).drew
      have rd := head_ready (HO.out ()) (HB1.out ()) (HF.out ()) (compC 1 2 2 0)
      obtain ⟨wa, hwa⟩ : ∃ z, (wc.alloc (.cells (compC 1 2 2 0).toArray 38)).drew = z := ⟨_, rfl⟩
      rw [hwa] at rd ⊢
      clear hK K hwa
      refine wpAnyH_next 26 rfl (by kernel_rfl) (fun K hK => ?_)
      obtain ⟨i0, hi, hz0, hz1, hz2⟩ := info_parts info38
      refine step_append_moved rfl (.tmp 78) (.tmp 98) 33 rfl w.heap.size 38 i0 _ 5 56 und33 hi hz0 hz1 hz2 rfl (by decide) (.slice a 0 c) 0 _ rfl rd.own ⟨wc.heap.size, 0, none⟩ 1 1 (compC 1 2 2 0) rfl rfl rd.new (compC_one 1 2 2 0) (by unfold maxLen; omega) (by omega) rd.size ?_
      intro v' w1 hown hg
      obtain ⟨a', c', rfl⟩ := ownsRow_slice hown
      have hgr := rd.grown (HTB.out ()) hg
      have e2 := hgr.1.cellv 2 rfl
      have z2 := hgr.1.frozen 2
      have q := (HB.out ()).frame hgr.2 hne
      refine hK _ _ ⟨e2, q.cell 6 (by show 6 < 15; omega), q.cell 7 (by show 7 < 15; omega), q.cell 8 (by show 8 < 15; omega)⟩ ?_
      have HGR := hu hgr
      have HOWN := hu hown
      clear hK K hgr q hown hg rd
      refine wpAnyH_done (by kernel_rfl) ?_ 0
      simp only [Tail, List.drop_succ_cons, List.drop_zero]
      go_wp2
      go_meet
      exact head_more (HTB.out ()) (HGR.out ()).1 (HGR.out ()).2 (HOWN.out ())
    case rest =>
      clear b5 c2 zz d0 d1 d2 HO HB1 HF
      obtain ⟨v, hb, hown, hf⟩ := hcut
      obtain ⟨a, c, rfl⟩ := ownsRow_slice hown
      have hbw := (HB.out ()).frame hf hne
      have c2 := hb.cellv 2 rfl
      have zz := hb.frozen 2
      have e1 := hbw.cell 7 (by show 7 < 15; omega)
      have e2 := hbw.cell 8 (by show 8 < 15; omega)
      have d0 := hbw.cell 9 (by show 9 < 15; omega)
      have d1 := hbw.cell 10 (by show 10 < 15; omega)
      have d2 := hbw.cell 11 (by show 11 < 15; omega)
      simp only [sofBody, List.getD_cons_succ, List.getD_cons_zero, Nat.add_zero] at e1 e2 d0 d1 d2
      have HO := hu hown
      have HB1 := hu hb
      have HF := hu hf
      clear hbw hb hown hf
      go_step
      go_wp2
      clear e1 e2
      rw [rounds_succ]
      go_wp2
      go_cut [] (fun wx => HeadRel w TB W H tv sv ms 2 (([] ++ compC 1 2 2 0) ++ compC 2 1 1 1) wx)
      case first =>
        refine wp_region_takes 25 27 (fun w' => w'.cell? ⟨TB, 2, none⟩ = some (.slice a 1 c) ∧ w'.cell? ⟨g, off + 9, none⟩ = some (.int .u8 2) ∧ w'.cell? ⟨g, off + 10, none⟩ = some (.int .u8 17) ∧ w'.cell? ⟨g, off + 11, none⟩ = some (.int .u8 1)) (by kernel_rfl) (by kernel_rfl) (by kernel_rfl) (by kernel_rfl) (by decide) rfl (fun c a a' w e h => ⟨e.symm.trans h.1, h.2⟩) ⟨c2, d0, d1, d2⟩ ?_
        simp only [List.take_succ_cons, List.take_zero]
        iterate 25
          refine chainY_cons (v := ?_) rfl (fun w' hS => ?_) ?_
          rotate_left
          · obtain ⟨s0, s1, s2, s3⟩ := hS
            go_simp
            try with_reducible rfl
          simp only [Act.put, List.setIfInBounds_toArray, List.set_cons_zero, List.set_cons_succ]
        refine chainY_nil ?_
        refine wpAnyH_next 25 rfl (by kernel_rfl) (fun K hK => ?_)
        go_simp
        refine hK _ _ ⟨alloc_cell _ c2, alloc_cell _ d0, alloc_cell _ d1, alloc_cell _ d2⟩ ?_
        change wpAnyH _ _ _ _ _ _ _ _ (wc.alloc (.cells (compC 2 1 1 1).toArray 38)).drew
        have rd := head_ready (HO.out ()) (HB1.out ()) (HF.out ()) (compC 2 1 1 1)
        obtain ⟨wa, hwa⟩ : ∃ z, (wc.alloc (.cells (compC 2 1 1 1).toArray 38)).drew = z := ⟨_, rfl⟩
        rw [hwa] at rd ⊢
        clear hK K hwa
        refine wpAnyH_next 26 rfl (by kernel_rfl) (fun K hK => ?_)
        obtain ⟨i0, hi, hz0, hz1, hz2⟩ := info_parts info38
        refine step_append_moved rfl (.tmp 78) (.tmp 98) 33 rfl w.heap.size 38 i0 _ 5 56 und33 hi hz0 hz1 hz2 rfl (by decide) (.slice a 1 c) 1 _ rfl rd.own ⟨wc.heap.size, 0, none⟩ 1 1 (compC 2 1 1 1) rfl rfl rd.new (compC_one 2 1 1 1) (by unfold maxLen; omega) (by omega) rd.size ?_
        intro v' w1 hown hg
        obtain ⟨a', c', rfl⟩ := ownsRow_slice hown
        have hgr := rd.grown (HTB.out ()) hg
        have e2 := hgr.1.cellv 2 rfl
        have z2 := hgr.1.frozen 2
        have q := (HB.out ()).frame hgr.2 hne
        refine hK _ _ ⟨e2, q.cell 9 (by show 9 < 15; omega), q.cell 10 (by show 10 < 15; omega), q.cell 11 (by show 11 < 15; omega)⟩ ?_
        have HGR := hu hgr
        have HOWN := hu hown
        clear hK K hgr q hown hg rd
        refine wpAnyH_done (by kernel_rfl) ?_ 0
        simp only [Tail, List.drop_succ_cons, List.drop_zero]
        go_wp2
        go_meet
        exact head_more (HTB.out ()) (HGR.out ()).1 (HGR.out ()).2 (HOWN.out ())
      case rest =>
        clear c2 zz d0 d1 d2 HO HB1 HF
        obtain ⟨v, hb, hown, hf⟩ := hcut
        obtain ⟨a, c, rfl⟩ := ownsRow_slice hown
        have hbw := (HB.out ()).frame hf hne
        have c2 := hb.cellv 2 rfl
        have zz := hb.frozen 2
        have e1 := hbw.cell 10 (by show 10 < 15; omega)
        have e2 := hbw.cell 11 (by show 11 < 15; omega)
        have d0 := hbw.cell 12 (by show 12 < 15; omega)
        have d1 := hbw.cell 13 (by show 13 < 15; omega)
        have d2 := hbw.cell 14 (by show 14 < 15; omega)
        simp only [sofBody, List.getD_cons_succ, List.getD_cons_zero, Nat.add_zero] at e1 e2 d0 d1 d2
        have HO := hu hown
        have HB1 := hu hb
        have HF := hu hf
        clear hbw hb hown hf
        go_step
        go_wp2
        clear e1 e2
        rw [rounds_succ]
        go_wp2
        go_cut [] (fun wx => HeadRel w TB W H tv sv ms 3 ((([] ++ compC 1 2 2 0) ++ compC 2 1 1 1) ++ compC 3 1 1 1) wx)
        case first =>
          refine wp_region_takes 25 27 (fun w' => w'.cell? ⟨TB, 2, none⟩ = some (.slice a 2 c) ∧ w'.cell? ⟨g, off + 12, none⟩ = some (.int .u8 3) ∧ w'.cell? ⟨g, off + 13, none⟩ = some (.int .u8 17) ∧ w'.cell? ⟨g, off + 14, none⟩ = some (.int .u8 1)) (by kernel_rfl) (by kernel_rfl) (by kernel_rfl) (by kernel_rfl) (by decide) rfl (fun c a a' w e h => ⟨e.symm.trans h.1, h.2⟩) ⟨c2, d0, d1, d2⟩ ?_
          simp only [List.take_succ_cons, List.take_zero]
          iterate 25
            refine chainY_cons (v := ?_) rfl (fun w' hS => ?_) ?_
            rotate_left
            · obtain ⟨s0, s1, s2, s3⟩ := hS
              go_simp
              try with_reducible rfl
            simp only [Act.put, List.setIfInBounds_toArray, List.set_cons_zero, List.set_cons_succ]
          refine chainY_nil ?_
          refine wpAnyH_next 25 rfl (by kernel_rfl) (fun K hK => ?_)
          go_simp
          refine hK _ _ ⟨alloc_cell _ c2, alloc_cell _ d0, alloc_cell _ d1, alloc_cell _ d2⟩ ?_
          change wpAnyH _ _ _ _ _ _ _ _ (wc.alloc (.cells (compC 3 1 1 1).toArray 38)).drew
          have rd := head_ready (HO.out ()) (HB1.out ()) (HF.out ()) (compC 3 1 1 1)
          obtain ⟨wa, hwa⟩ : ∃ z, (wc.alloc (.cells (compC 3 1 1 1).toArray 38)).drew = z := ⟨_, rfl⟩
          rw [hwa] at rd ⊢
          clear hK K hwa
          refine wpAnyH_next 26 rfl (by kernel_rfl) (fun K hK => ?_)
          obtain ⟨i0, hi, hz0, hz1, hz2⟩ := info_parts info38
          refine step_append_moved rfl (.tmp 78) (.tmp 98) 33 rfl w.heap.size 38 i0 _ 5 56 und33 hi hz0 hz1 hz2 rfl (by decide) (.slice a 2 c) 2 _ rfl rd.own ⟨wc.heap.size, 0, none⟩ 1 1 (compC 3 1 1 1) rfl rfl rd.new (compC_one 3 1 1 1) (by unfold maxLen; omega) (by omega) rd.size ?_
          intro v' w1 hown hg
          obtain ⟨a', c', rfl⟩ := ownsRow_slice hown
          have hgr := rd.grown (HTB.out ()) hg
          have e2 := hgr.1.cellv 2 rfl
          have z2 := hgr.1.frozen 2
          have q := (HB.out ()).frame hgr.2 hne
          refine hK _ _ ⟨e2, q.cell 12 (by show 12 < 15; omega), q.cell 13 (by show 13 < 15; omega), q.cell 14 (by show 14 < 15; omega)⟩ ?_
          have HGR := hu hgr
          have HOWN := hu hown
          clear hK K hgr q hown hg rd
          refine wpAnyH_done (by kernel_rfl) ?_ 0
          simp only [Tail, List.drop_succ_cons, List.drop_zero]
          go_wp2
          go_meet
          exact head_more (HTB.out ()) (HGR.out ()).1 (HGR.out ()).2 (HOWN.out ())
        case rest =>
          clear c2 zz d0 d1 d2 HO HB1 HF
          obtain ⟨v, hb, hown, hf⟩ := hcut
          obtain ⟨a, c, rfl⟩ := ownsRow_slice hown
          have hbw := (HB.out ()).frame hf hne
          have c2 := hb.cellv 2 rfl
          have zz := hb.frozen 2
          have e1 := hbw.cell 13 (by show 13 < 15; omega)
          have e2 := hbw.cell 14 (by show 14 < 15; omega)
          simp only [sofBody, List.getD_cons_succ, List.getD_cons_zero, Nat.add_zero] at e1 e2
          have HO := hu hown
          have HB1 := hu hb
          have HF := hu hf
          clear hbw hb hown hf
          go_step
          go_wp2
          clear e1 e2
          rw [rounds_succ]
          go_wp2
          go_ret
          exact head_end ⟨_, HB1.out (), HO.out (), HF.out ()⟩ rfl
end Go.Proofs.YtpophkigihfjoaaDoor

/- The walk of read at the frame's and the scan's marker. -/
namespace Go.Proofs.YtpophkigihfjoaaDoor
open Go.RowKit
set_option maxRecDepth 100000

set_option maxHeartbeats 1000000 in
theorem read_sof {w : World} {TB g off W H C : Nat} {tv sv : Value} {ms : List Value} (ht : Blk w TB (tblC 0 0 (.slice none 0 0) tv ms sv) 66) (hb : BodyW w g off (sofBody W H)) (hne : g ≠ TB) (w1 : 1 ≤ W) (w2 : W ≤ 40) (h1 : 1 ≤ H) (h2 : H ≤ 40) (hC : 15 ≤ C) :
    Calls Tryd.prog 13 #[.pointer (some ⟨TB, 0, none⟩), .agg #[.int .i64 192, .slice (some ⟨g, off, none⟩) 15 C]] w (HeadPost w TB W H tv ms sv) := by
  have HT := hu ht
  have HB := hu hb
  clear ht hb
  go_enter Tryd.func13, Tryd.ntmps13
  go_wp2_with (first | (go_at_call 33; refine (head_any (tv := tv) (sv := sv) (ms := ms) ((HT.out ()).alloc _) ((HB.out ()).frame ((Fr.refl (fun _ => False) w).alloc _) (fun e => e)) hne w1 w2 h1 h2 hC).mono ?_; rintro e w3 ⟨rfl, CB, cap, more, hCB, hTB, hcs, hf⟩))
  go_ret
  refine ⟨rfl, CB, cap, more, ?_, hTB, hcs, ((Fr.refl (fun k => k = TB) w).alloc _).trans hf (fun _ _ e => e)⟩
  rw [World.size_alloc] at hCB
  omega

set_option maxHeartbeats 1000000 in
theorem read_sos {w : World} {TB g off n C : Nat} {W H : Int} {cv tv sv : Value} {ms : List Value} (ht : Blk w TB (tblC W H cv tv ms sv) 66) (hms : ms.length = 8) :
    Calls Tryd.prog 13 #[.pointer (some ⟨TB, 0, none⟩), .agg #[.int .i64 218, .slice (some ⟨g, off, none⟩) n C]] w fun e w' => e = .returned (.bool true) ∧ Blk w' TB (tblC W H cv tv ms (.slice (some ⟨g, off, none⟩) n C)) 66 ∧ Fr (· = TB) w w' := by
  have z := fun o => (ht.alloc o).frozen 12
  have c12 := fun o => (ht.alloc o).cellv 12 (v := sv) (by unfold tblC; rw [List.getElem?_append_right (by simp)]; rw [List.getElem?_append_right (by simp [hms])]; simp [hms])
  have HT := hu ht
  clear ht
  go_enter Tryd.func13, Tryd.ntmps13
  go_wp2
  go_ret
  refine ⟨rfl, ?_, ((Fr.refl (fun k => k = TB) w).alloc _).setCell (a := ⟨TB, 12, none⟩) (fun _ => rfl) _⟩
  have := ((HT.out ()).alloc (.cells #[.int .i64 218, .slice (some ⟨g, off, none⟩) n C] 68)).set 12 (.slice (some ⟨g, off, none⟩) n C)
  rw [show (tblC W H cv tv ms sv).set 12 (.slice (some ⟨g, off, none⟩) n C) = tblC W H cv tv ms (.slice (some ⟨g, off, none⟩) n C) by
    unfold tblC; rw [List.set_append, List.set_append]; simp [hms]] at this
  exact this
end Go.Proofs.YtpophkigihfjoaaDoor
