/- Memory predicates for the walks: a whole block of cells (Blk), and a world that is unchanged outside some blocks (Fr). No program is named here. -/
import Derived.WalkKit
import Derived.WalkSpells
import Derived.WalkLawsBesides
import Derived.Laws.CopyOwn
namespace Go.Proofs.YtpophkigihfjoaaDoor
open Go.RowKit

/-- Block b holds just these cells, of element type t, none of them frozen. -/
def Blk (w : World) (b : Nat) (cs : List Value) (t : TypeId) : Prop := w.heap[b]? = some (.cells cs.toArray t (0, 0))

section
variable {w : World} {b : Nat} {cs : List Value} {t : TypeId}

theorem Blk.lt (h : Blk w b cs t) : b < w.heap.size := (Array.getElem?_eq_some_iff.1 h).1

theorem Blk.cell (h : Blk w b cs t) (i : Nat) : w.cell? ⟨b, i, none⟩ = cs[i]? := by
  rw [cell_of_row w b i _ t _ h]; simp

theorem Blk.cellv (h : Blk w b cs t) (i : Nat) {v : Value} (hv : cs[i]? = some v) : w.cell? ⟨b, i, none⟩ = some v := by
  rw [h.cell, hv]

theorem Blk.frozen (h : Blk w b cs t) (i : Nat) : w.frozen? ⟨b, i, none⟩ = false := frozen_of_row w b i _ t h

theorem Blk.set (h : Blk w b cs t) (i : Nat) (v : Value) : Blk (w.setCell ⟨b, i, none⟩ v) b (cs.set i v) t := by
  unfold Blk at h ⊢
  have hlt : b < w.heap.size := (Array.getElem?_eq_some_iff.1 h).1
  simp only [World.setCell, Array.getElem?_modify, ↓reduceIte, h, Option.map_some]
  simp

theorem Blk.setOther (h : Blk w b cs t) {a : Addr} (hne : b ≠ a.block) (v : Value) : Blk (w.setCell a v) b cs t := by
  unfold Blk at h ⊢; rw [heap_setCell_other w a b v hne]; exact h

theorem Blk.alloc (h : Blk w b cs t) (o : Obj) : Blk (w.alloc o) b cs t := by
  unfold Blk; rw [Below.heap_alloc w o b h.lt]; exact h

theorem Blk.new (w : World) (cs : List Value) (t : TypeId) : Blk (w.alloc (.cells cs.toArray t)) w.heap.size cs t := heap_alloc_new w _

theorem Blk.newA (w : World) (cs : Array Value) (t : TypeId) : Blk (w.alloc (.cells cs t)) w.heap.size cs.toList t := by
  unfold Blk; rw [heap_alloc_new]

theorem Blk.drew (h : Blk w b cs t) : Blk w.drew b cs t := h

theorem Blk.of_heap {w' : World} (h : Blk w b cs t) (e : w'.heap[b]? = w.heap[b]?) : Blk w' b cs t := by unfold Blk; rw [e]; exact h

theorem Blk.inj {cs' : List Value} {t' : TypeId} (h : Blk w b cs t) (h' : Blk w b cs' t') : cs = cs' := by
  unfold Blk at h h'
  rw [h] at h'
  simpa using congrArg (fun | some (Obj.cells c _ _) => c.toList | _ => []) h'
end

/-- Outside the blocks of S (as far as they were there) the world is as it was. -/
structure Fr (S : Nat → Prop) (w w' : World) : Prop where
  os : w'.os = w.os
  tape : w'.tape = w.tape
  output : w'.output = w.output
  size : w.heap.size ≤ w'.heap.size
  block : ∀ k, k < w.heap.size → ¬ S k → w'.heap[k]? = w.heap[k]?

section
variable {S S' : Nat → Prop} {w w1 w2 : World}

theorem Fr.refl (S : Nat → Prop) (w : World) : Fr S w w := ⟨rfl, rfl, rfl, Nat.le_refl _, fun _ _ _ => rfl⟩

theorem Fr.trans (h1 : Fr S w w1) (h2 : Fr S' w1 w2) (hS : ∀ k, k < w.heap.size → S' k → S k) : Fr S w w2 :=
  ⟨h2.os.trans h1.os, h2.tape.trans h1.tape, h2.output.trans h1.output, Nat.le_trans h1.size h2.size,
   fun k hk hn => (h2.block k (Nat.lt_of_lt_of_le hk h1.size) (fun s => hn (hS k hk s))).trans (h1.block k hk hn)⟩

theorem Fr.mono (h : Fr S' w w1) (hS : ∀ k, k < w.heap.size → S' k → S k) : Fr S w w1 :=
  (Fr.refl S w).trans h hS

theorem Fr.alloc (h : Fr S w w1) (o : Obj) : Fr S w (w1.alloc o) :=
  h.trans (S' := fun _ => False) ⟨rfl, rfl, rfl, by simp, fun k hk _ => Below.heap_alloc _ _ _ hk⟩ (fun _ _ h => h.elim)

theorem Fr.drew (h : Fr S w w1) : Fr S w w1.drew := ⟨h.os, h.tape, h.output, h.size, h.block⟩

theorem Fr.setCell (h : Fr S w w1) {a : Addr} (ha : a.block < w.heap.size → S a.block) (v : Value) : Fr S w (w1.setCell a v) :=
  h.trans (S' := fun k => k = a.block) ⟨rfl, rfl, rfl, by simp, fun k _ hn => heap_setCell_other _ _ _ _ hn⟩ (fun k hk e => by subst e; exact ha hk)

theorem Fr.grown (h : Fr S w w1) {row : Option Nat} (hg : w1.grownBy w2 row) (hr : ∀ k, k < w.heap.size → row = some k → S k) : Fr S w w2 :=
  h.trans (S' := fun k => row = some k) ⟨hg.os, hg.tape, hg.output, hg.size, fun k hk hn => hg.block k hk (fun e => hn e.symm)⟩ hr

theorem Fr.below (h : Fr S w w1) {B : Nat} (hB : B ≤ w.heap.size) (hS : ∀ k, k < B → ¬ S k) : Below B w w1 :=
  ⟨h.os, h.tape, h.output, h.size, fun k hk => h.block k (by omega) (hS k hk)⟩

theorem Fr.ofBelow (h : Below w.heap.size w w1) (S : Nat → Prop) : Fr S w w1 := ⟨h.os, h.tape, h.output, h.size, fun k hk _ => h.block k hk⟩

theorem Fr.blk (h : Fr S w w1) {b : Nat} {cs : List Value} {t : TypeId} (hb : Blk w b cs t) (hn : ¬ S b) : Blk w1 b cs t :=
  hb.of_heap (h.block b hb.lt hn)
end


/-- Where the slice lies behind an append: where it lay, or in a new block. -/
def Moved (w : World) (v v' : Value) : Prop := v'.ownBlock = v.ownBlock ∨ ∀ k, v'.ownBlock = some k → w.heap.size ≤ k

theorem run_append_moved {P : Program} (w : World) (base : Nat) (t ty e : TypeId) (i : TypeInfo) (z : Value) (size bytes : Nat) (ht : P.underlying t = some (.slice e)) (hi : P.info? e = some i) (hz : i.zero = some z)
    (hsize : i.size = size) (hby : i.bytes = bytes) (hzs : z.cells.size = size) (hsz : 0 < size)
    (v : Value) (n : Nat) (xs : List Value) (hown : w.ownsRow base e size v n xs)
    (a : Addr) (m c : Nat) (news : List Value) (hl : news.length = m * size) (hnews : ∀ j u, news[j]? = some u → w.cell? (a.add j) = some u) (h1 : ∀ u ∈ news, u.oneCell' = true)
    (h63 : n + m ≤ maxLen) (hbytes : (n + m) * bytes ≤ 140737488355328) (hbase : base ≤ w.heap.size) :
    ∃ v' w', (Builtin.append_ #[t, t] ty #[v, .slice (some a) m c]).run P w = .ok v' w' ∧ w'.ownsRow base e size v' (n + m) (xs ++ news) ∧ w.grownBy w' v.ownBlock ∧ Moved w v v' := by
  obtain ⟨v', w', hr, h2, h3, h4⟩ := run_append_own (P := P) w base t ty e i z size bytes ht hi hz hsize hby hzs hsz v n xs hown a m c news hl hnews h1 h63 hbytes hbase
  refine ⟨v', w', hr, h2, h3, ?_⟩
  have hml : maxLen ≤ 9223372036854775807 := by unfold maxLen; omega
  rcases hown.2 with ⟨rfl, rfl⟩ | ⟨g, cap, cur, rfl, hbg, hg, hnc, hcm, hcs, htake⟩
  · by_cases hm : m = 0
    · have := h4.2 ⟨rfl, hm⟩
      subst this
      exact .inl rfl
    · have hx := run_append_nil (P := P) w t ty e i z ht hi hz a m c news (by rw [hsize]; exact hl) hnews (by omega) (by omega) (by rw [hby]; have hb := hbytes; simp only [Nat.zero_add] at hb; omega)
      rw [hr] at hx
      injection hx with hx1 hx2
      subst hx1
      exact .inr fun k hk => by simp only [Value.ownBlock, Option.some.injEq] at hk; omega
  · by_cases hroom : n + m ≤ cap
    · have hfit : n * i.size + news.length ≤ cur.size := by rw [hsize, hl, hcs, ← Nat.add_mul]; exact Nat.mul_le_mul_right _ hroom
      have hx := run_append_room (P := P) w t ty e i ht hi g n cap cur hg a m c news (by rw [hsize]; exact hl) hnews h1 hroom hfit
      rw [hr] at hx
      injection hx with hx1 hx2
      subst hx1
      exact .inl rfl
    · have holds : ∀ j u, xs[j]? = some u → w.cell? ((⟨g, 0, none⟩ : Addr).add j) = some u := hown.cells (g := g) rfl
      have hx := run_append_grow (P := P) w t ty e i z ht hi hz ⟨g, 0, none⟩ n cap xs (by rw [hsize]; exact hown.1) holds a m c news (by rw [hsize]; exact hl) hnews (by omega) (by omega) (growslice_fits (by omega) (by rw [hby]; exact hbytes))
      rw [hr] at hx
      injection hx with hx1 hx2
      subst hx1
      exact .inr fun k hk => by simp only [Value.ownBlock, Option.some.injEq] at hk; omega

theorem wpList_append_moved {P : Program} (w : World) {ops : Array Oper} {rest : List Oper} {o : Oper} {a : Act} {Q : Exit → Act → World → Prop} (hgd : o.guard = none) (s x : Operand) (t : TypeId)
    (ho : o.op = .call { callee := .builtin .append, args := #[s, x], argTypes := #[t, t] })
    (base : Nat) (e : TypeId) (i : TypeInfo) (z : Value) (size bytes : Nat) (ht : P.underlying t = some (.slice e)) (hi : P.info? e = some i) (hz : i.zero = some z)
    (hsize : i.size = size) (hby : i.bytes = bytes) (hzs : z.cells.size = size) (hsz : 0 < size)
    (v : Value) (n : Nat) (xs : List Value) (hs : a.eval s = v) (hown : w.ownsRow base e size v n xs)
    (ad : Addr) (m c : Nat) (news : List Value) (hx : a.eval x = .slice (some ad) m c) (hl : news.length = m * size) (hnews : ∀ j u, news[j]? = some u → w.cell? (ad.add j) = some u) (h1 : ∀ u ∈ news, u.oneCell' = true)
    (h63 : n + m ≤ maxLen) (hbytes : (n + m) * bytes ≤ 140737488355328) (hbase : base ≤ w.heap.size)
    (h : ∀ v' w', w'.ownsRow base e size v' (n + m) (xs ++ news) → w.grownBy w' v.ownBlock → Moved w v v' → wpList P ops Q rest (a.put o.dst v') w') : wpList P ops Q (o :: rest) a w := by
  obtain ⟨v', w', hr, h2, h3, h4⟩ := run_append_moved (P := P) w base t o.type e i z size bytes ht hi hz hsize hby hzs hsz v n xs hown ad m c news hl hnews h1 h63 hbytes hbase
  refine wpList_plain hgd fun K hK => ?_
  unfold Oper.wp execOp
  simp only [ho, resolve, invoke, builtin, Sem.run_bind, Sem.run_pure, Result.andThen_ok, List.map_toArray, List.map_cons, List.map_nil, hs, hx, hr]
  exact hK _ _ (h v' w' h2 h3 h4)

theorem ownsRow_slice {w : World} {base : Nat} {e : TypeId} {size : Nat} {v : Value} {n : Nat} {xs : List Value} (h : w.ownsRow base e size v n xs) : ∃ a c, v = .slice a n c := by
  rcases h.2 with ⟨rfl, rfl⟩ | ⟨g, cap, cur, rfl, _⟩
  · exact ⟨none, 0, rfl⟩
  · exact ⟨_, _, rfl⟩

/-- An owned row is kept where its own block is. -/
theorem ownsRow_of_block {w w' : World} {base : Nat} {e : TypeId} {size : Nat} {v : Value} {n : Nat} {xs : List Value} (h : w.ownsRow base e size v n xs)
    (hb : ∀ k, v.ownBlock = some k → w'.heap[k]? = w.heap[k]?) : w'.ownsRow base e size v n xs := by
  refine ⟨h.1, ?_⟩
  rcases h.2 with h2 | ⟨g, cap, cur, rfl, hg, hh, r⟩
  · exact .inl h2
  · exact .inr ⟨g, cap, cur, rfl, hg, by rw [hb g rfl]; exact hh, r⟩

theorem Fr.drewN {S : Nat → Prop} {w w1 : World} (h : Fr S w w1) (n : Nat) : Fr S w (w1.drewN n) := ⟨h.os, h.tape, h.output, h.size, h.block⟩

/-- The blocks of a buffered writer: the writer's own, its buffer, the sink's, and the row that the sink's slice v lies in. -/
def Out (BW BF WW : Nat) (v : Value) (k : Nat) : Prop := k = BW ∨ k = BF ∨ k = WW ∨ v.ownBlock = some k

/-- From w to w' a buffered writer alone has gone on (its sink's slice was v and is v'). -/
structure Adv (BW BF WW : Nat) (v v' : Value) (w w' : World) : Prop where
  fr : Fr (Out BW BF WW v) w w'
  mv : Moved w v v'

theorem Adv.refl (BW BF WW : Nat) (v : Value) (w : World) : Adv BW BF WW v v w w := ⟨Fr.refl _ _, .inl rfl⟩

theorem Adv.trans {BW BF WW : Nat} {v v1 v2 : Value} {w w1 w2 : World} (h1 : Adv BW BF WW v v1 w w1) (h2 : Adv BW BF WW v1 v2 w1 w2) : Adv BW BF WW v v2 w w2 := by
  refine ⟨h1.fr.trans h2.fr ?_, ?_⟩
  · rintro k hk (h | h | h | h)
    · exact .inl h
    · exact .inr (.inl h)
    · exact .inr (.inr (.inl h))
    · rcases h1.mv with e | e
      · exact .inr (.inr (.inr (e ▸ h)))
      · have := e k h; omega
  · rcases h2.mv with e | e
    · rcases h1.mv with e' | e'
      · exact .inl (e.trans e')
      · exact .inr fun k hk => e' k (e ▸ hk)
    · exact .inr fun k hk => Nat.le_trans h1.fr.size (e k hk)

theorem Adv.drewN {BW BF WW : Nat} {v v' : Value} {w w' : World} (h : Adv BW BF WW v v' w w') (n : Nat) : Adv BW BF WW v v' w (w'.drewN n) := ⟨h.fr.drewN n, h.mv⟩

theorem Adv.drew {BW BF WW : Nat} {v v' : Value} {w w' : World} (h : Adv BW BF WW v v' w w') : Adv BW BF WW v v' w w'.drew := ⟨h.fr.drew, h.mv⟩

/-- A store into one of the writer's blocks. -/
theorem Adv.setCell {BW BF WW : Nat} {v v' : Value} {w w' : World} (h : Adv BW BF WW v v' w w') {a : Addr} (ha : a.block = BW ∨ a.block = BF ∨ a.block = WW) (u : Value) : Adv BW BF WW v v' w (w'.setCell a u) :=
  ⟨h.fr.setCell (fun _ => by rcases ha with h | h | h <;> simp [Out, h]) u, h.mv⟩

theorem Moved.ne {w : World} {v v' : Value} (h : Moved w v v') {k : Nat} (hk : k < w.heap.size) (hn : v.ownBlock ≠ some k) : v'.ownBlock ≠ some k := by
  rcases h with e | e
  · rw [e]; exact hn
  · intro h; have := e k h; omega

theorem Fr.from {S : Nat → Prop} {w w0 w' : World} (h : Fr S w w') (e : w.heap = w0.heap) (eo : w.os = w0.os) (et : w.tape = w0.tape) (ep : w.output = w0.output) : Fr S w0 w' :=
  ⟨h.os.trans eo, h.tape.trans et, h.output.trans ep, by rw [← e]; exact h.size, fun k hk hn => by rw [← e] at hk ⊢; exact h.block k hk hn⟩

theorem Adv.ofDrewN {BW BF WW : Nat} {v v' : Value} {w w' : World} {n : Nat} (h : Adv BW BF WW v v' (w.drewN n) w') : Adv BW BF WW v v' w w' :=
  ⟨h.fr.from rfl rfl rfl rfl, h.mv⟩

theorem Adv.ofDrew {BW BF WW : Nat} {v v' : Value} {w w' : World} (h : Adv BW BF WW v v' w.drew w') : Adv BW BF WW v v' w w' :=
  ⟨h.fr.from rfl rfl rfl rfl, h.mv⟩

theorem Fr.setRow {S : Nat → Prop} {w w1 : World} (h : Fr S w w1) (g : Nat) (hg : g < w.heap.size → S g) (cs : Array Value) : Fr S w (w1.setRow g cs) :=
  h.trans (S' := fun k => k = g) ⟨rfl, rfl, rfl, by simp, fun k _ hn => setRow_other _ _ _ _ hn⟩ (fun k hk e => by subst e; exact hg hk)

/-- copy into a block that is known whole. -/
theorem wpList_copy_blk {P : Program} {w : World} {ops : Array Oper} {rest : List Oper} {o : Oper} {a : Act} {Q : Exit → Act → World → Prop} (hgd : o.guard = none) (d s : Operand) (dT sT : TypeId)
    (ho : o.op = .call { callee := .builtin .copy, args := #[d, s], argTypes := #[dT, sT] }) (elem : TypeId) (hu : P.underlying dT = some (.slice elem)) (hsz : (P.info? elem).map (·.size) = some 1)
    (dp sp : Option Addr) (dLen dCap sLen sCap : Nat) (hd : a.eval d = .slice dp dLen dCap) (hs : a.eval s = .slice sp sLen sCap)
    (g off : Nat) (cur : List Value) (t : TypeId) (hg : Blk w g cur t) (cs : List Value) (hn : cs.length = Nat.min sLen dLen)
    (hpos : 0 < cs.length → dp = some ⟨g, off, none⟩ ∧ ∃ ad, sp = some ad ∧ ∀ j v, cs[j]? = some v → w.cell? (ad.add j) = some v)
    (hfit : off + cs.length ≤ cur.length) (h1 : ∀ v ∈ cs, v.oneCell' = true)
    (h : ∀ w', Hid (Blk w' g (splice cur off cs) t) → Hid (Fr (· = g) w w') → wpList P ops Q rest (a.put o.dst (goInt cs.length)) w') :
    wpList P ops Q (o :: rest) a w := by
  by_cases h0 : cs.length = 0
  · obtain rfl : cs = [] := List.eq_nil_of_length_eq_zero h0
    refine wpList_copy_nothing hgd d s dT sT ho elem hu hsz dp sp dLen dCap sLen sCap hd hs (by simpa using hn.symm) ?_
    exact h w (by simpa [Hid, splice] using hg) (Fr.refl _ _)
  · obtain ⟨rfl, ad, rfl, hsrc⟩ := hpos (by omega)
    refine wpList_copy_own hgd d s dT sT ho elem hu hsz g off dLen dCap ad sLen sCap hd hs cur.toArray t hg cs hn hsrc (by simpa using hfit) h1 ?_
    refine h _ ?_ (Fr.setRow (S := (· = g)) (Fr.refl _ w) g (fun _ => rfl) _)
    have := setRow_heap w g cur.toArray (cur.take off ++ (cs ++ cur.drop (off + cs.length))).toArray t _ hg
    simpa [Hid, Blk, splice] using this

/-- The same as one step of a region that draws its order. -/
theorem step_copy_blk {P : Program} {ops : Array Oper} {o : Oper} {a : Act} {w : World} {K : Act → World → Prop} {Q : Exit → Act → World → Prop} {E : Prop} (hgd : o.guard = none) (d s : Operand) (dT sT : TypeId)
    (ho : o.op = .call { callee := .builtin .copy, args := #[d, s], argTypes := #[dT, sT] }) (elem : TypeId) (hu : P.underlying dT = some (.slice elem)) (hsz : (P.info? elem).map (·.size) = some 1)
    (dp sp : Option Addr) (dLen dCap sLen sCap : Nat) (hd : a.eval d = .slice dp dLen dCap) (hs : a.eval s = .slice sp sLen sCap)
    (g off : Nat) (cur : List Value) (t : TypeId) (hg : Blk w g cur t) (cs : List Value) (hn : cs.length = Nat.min sLen dLen)
    (hpos : 0 < cs.length → dp = some ⟨g, off, none⟩ ∧ ∃ ad, sp = some ad ∧ ∀ j v, cs[j]? = some v → w.cell? (ad.add j) = some v)
    (hfit : off + cs.length ≤ cur.length) (h1 : ∀ v ∈ cs, v.oneCell' = true)
    (h : ∀ w', Hid (Blk w' g (splice cur off cs) t) → Hid (Fr (· = g) w w') → K (a.put o.dst (goInt cs.length)) w') :
    if Region.wanted o (yielded ops a.tmps) = true then Oper.wp P o a w K Q else E := by
  have hw : Region.wanted o (yielded ops a.tmps) = true := by simp [Region.wanted, hgd]
  rw [if_pos hw]
  by_cases h0 : cs.length = 0
  · obtain rfl : cs = [] := List.eq_nil_of_length_eq_zero h0
    have hrun := run_copy_none (P := P) w dT sT o.type elem dp sp dLen dCap sLen sCap hu hsz (by simpa using hn.symm)
    unfold Oper.wp
    simp [execOp, ho, resolve, invoke, builtin, hd, hs, hrun, Result.andThen]
    exact h w (by simpa [Hid, splice] using hg) (Fr.refl _ _)
  · obtain ⟨rfl, ad, rfl, hsrc⟩ := hpos (by omega)
    have hrun := run_copy_row (P := P) w dT sT o.type elem g off dLen dCap ad sLen sCap cur.toArray t cs hu hsz hg hn hsrc (by simpa using hfit) h1
    unfold Oper.wp
    simp [execOp, ho, resolve, invoke, builtin, hd, hs, hrun, Result.andThen]
    refine h _ ?_ (Fr.setRow (S := (· = g)) (Fr.refl _ w) g (fun _ => rfl) _)
    have := setRow_heap w g cur.toArray (cur.take off ++ (cs ++ cur.drop (off + cs.length))).toArray t _ hg
    simpa [Hid, Blk, splice] using this

theorem cellsAt {w : World} {B off : Nat} {p : List Int} (hp : ∀ j, j < p.length → w.cell? ⟨B, off + j, none⟩ = some (.int .u8 (p.getD j 0))) :
    ∀ j u, (p.map (Value.int .u8))[j]? = some u → w.cell? ((⟨B, off, none⟩ : Addr).add j) = some u := by
  intro j u hu
  rw [List.getElem?_map] at hu
  rcases Nat.lt_or_ge j p.length with hj | hj
  · have := hp j hj
    rw [List.getElem?_eq_getElem hj] at hu
    rw [List.getD_eq_getElem?_getD, List.getElem?_eq_getElem hj] at this
    simp only [Option.map_some, Option.some.injEq] at hu
    subst hu
    by_cases h0 : j = 0
    · subst h0; simpa [Addr.add] using this
    · simpa [Addr.add, h0] using this
  · simp [List.getElem?_eq_none hj] at hu

/- Bits of 32-bit numbers. -/

theorem ofInt32 (a : Nat) (ha : a < 4294967296) : (BitVec.ofInt 32 (a : Int)).toNat = a := by
  rw [BitVec.ofInt_natCast, BitVec.toNat_ofNat]; exact Nat.mod_eq_of_lt (by omega)

theorem bits_or_u32 (a b : Nat) (ha : a < 4294967296) (hb : b < 4294967296) : bits .or .u32 (a : Int) (b : Int) = ((a ||| b : Nat) : Int) := by
  have hx : a ||| b < 2 ^ 32 := Nat.or_lt_two_pow (by omega) (by omega)
  show IntKind.u32.wrap ((BitVec.ofInt 32 (a : Int) ||| BitVec.ofInt 32 (b : Int)).toNat : Int) = _
  rw [BitVec.toNat_or, ofInt32 a ha, ofInt32 b hb]
  simp only [IntKind.wrap, IntKind.bits, IntKind.signed] at *
  simp
  omega

theorem bits_and_u32 (a b : Nat) (ha : a < 4294967296) (hb : b < 4294967296) : bits .and .u32 (a : Int) (b : Int) = ((a &&& b : Nat) : Int) := by
  have hx : a &&& b < 2 ^ 32 := Nat.and_lt_two_pow _ (by omega)
  show IntKind.u32.wrap ((BitVec.ofInt 32 (a : Int) &&& BitVec.ofInt 32 (b : Int)).toNat : Int) = _
  rw [BitVec.toNat_and, ofInt32 a ha, ofInt32 b hb]
  simp only [IntKind.wrap, IntKind.bits, IntKind.signed] at *
  simp
  omega

theorem bits_or_i32 (a b : Nat) (ha : a < 2147483648) (hb : b < 2147483648) : bits .or .i32 (a : Int) (b : Int) = ((a ||| b : Nat) : Int) := by
  have hx : a ||| b < 2 ^ 31 := Nat.or_lt_two_pow (by omega) (by omega)
  show IntKind.i32.wrap ((BitVec.ofInt 32 (a : Int) ||| BitVec.ofInt 32 (b : Int)).toNat : Int) = _
  rw [BitVec.toNat_or, ofInt32 a (by omega), ofInt32 b (by omega)]
  simp only [IntKind.wrap, IntKind.bits, IntKind.signed] at *
  simp
  omega

theorem or_low (a i b : Nat) (hb : b < 2 ^ i) : a * 2 ^ i ||| b = a * 2 ^ i + b := by
  have := Nat.shiftLeft_add_eq_or_of_lt hb a
  rw [Nat.shiftLeft_eq] at this
  exact this.symm

end Go.Proofs.YtpophkigihfjoaaDoor
