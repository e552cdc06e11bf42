/- The steps of a scan as calls: each block that is written, each scaling. -/
import Derived.Test.YtpophkigihfjoaaDoorSosB
namespace Go.Proofs.YtpophkigihfjoaaDoor
open Go.RowKit
set_option maxRecDepth 100000
attribute [local irreducible] dctP coef BS.block scaleTo divP fillAt

/-- The state at a scan's beginning. -/
def MS.zero (s : BS) : MS := ⟨s, 0, 0, 0, List.replicate 64 0, List.replicate 256 0, List.replicate 256 0⟩

theorem MS.Ok.mono {st : MS} {c0 n m : Nat} (h : st.Ok c0 n) (hm : n ≤ m) : st.Ok c0 m :=
  ⟨h.lM, h.lN, h.lR, h.bN, h.bR, h.y1, h.y2, h.b1, h.b2, h.r1, h.r2, by have := h.len; omega⟩

theorem MS.Ok.zero (s : BS) : (MS.zero s).Ok s.c.length 0 := by
  have z : ∀ (n i : Nat), 0 ≤ (List.replicate n (0 : Int)).getD i 0 ∧ (List.replicate n (0 : Int)).getD i 0 ≤ 255 := by
    intro n i
    have : (List.replicate n (0 : Int)).getD i 0 = 0 := by
      rw [List.getD_eq_getElem?_getD, List.getElem?_replicate]; split <;> rfl
    omega
  exact ⟨by simp [MS.zero], by simp [MS.zero], by simp [MS.zero], z 256, z 256, by simp [MS.zero], by simp [MS.zero], by simp [MS.zero], by simp [MS.zero], by simp [MS.zero], by simp [MS.zero], by simp [MS.zero]⟩

/-- What writeSOS has reached: the state st, of n blocks; a, b, c are the three last first coefficients. -/
structure SosSt (w3 : World) (I : Ids) (v2 : Value) (k : Bks) (p : Par) (sc : List Int) (c0 : Nat) (st : MS) (n : Nat) (v' : Value) (wr : World) : Prop where
  mem : SosW wr I v' k p sc st
  ok : st.Ok c0 n
  fr : Fr (SosOut I v2 k) w3 wr
  mv : Moved w3 v2 v'

theorem SosSt.go {w3 wr wr' : World} {I : Ids} {v2 v' v'' : Value} {k : Bks} {p : Par} {sc : List Int} {c0 : Nat} {st st' : MS} {n m : Nat} (h : SosSt w3 I v2 k p sc c0 st n v' wr) (hk : k.Ok I) (hf : Fr (SosOut I v' k) wr wr') (hm : Moved wr v' v'')
    (he : EncS wr' I v'' st'.s sc p.q) (hb : Blk wr' k.B (st'.M.map I32) 135) (hc : Blk wr' k.C (st'.N.map I32) 136) (hr : Blk wr' k.R (st'.R.map I32) 136) (ho : st'.Ok c0 m) : SosSt w3 I v2 k p sc c0 st' m v'' wr' := by
  refine ⟨h.mem.go hk hf hm he hb hc hr, ho, h.fr.trans hf ?_, ?_⟩
  · rintro b hb2 ((e | e | e | e | e) | e)
    · exact .inl (.inl e)
    · exact .inl (.inr (.inl e))
    · exact .inl (.inr (.inr (.inl e)))
    · exact .inl (.inr (.inr (.inr (.inl e))))
    · rcases h.mv with e' | e'
      · exact .inl (.inr (.inr (.inr (.inr (e' ▸ e)))))
      · have := e' b e; omega
    · exact .inr e
  · rcases hm with e | e
    · rcases h.mv with e' | e'
      · exact .inl (e.trans e')
      · exact .inr fun k hk => e' k (e ▸ hk)
    · exact .inr fun k hk => Nat.le_trans h.fr.size (e k hk)

theorem SosSt.still {w3 wr wr' : World} {I : Ids} {v2 v' : Value} {k : Bks} {p : Par} {sc : List Int} {c0 : Nat} {st : MS} {n : Nat} (h : SosSt w3 I v2 k p sc c0 st n v' wr) (hk : k.Ok I) (hf : Fr (fun _ => False) wr wr') : SosSt w3 I v2 k p sc c0 st n v' wr' :=
  h.go hk (hf.mono (fun _ _ e => e.elim)) (.inl rfl) (h.mem.enc.frame hf (fun _ _ e => e)) (hf.blk h.mem.b (fun e => e)) (hf.blk h.mem.c (fun e => e)) (hf.blk h.mem.r (fun e => e)) h.ok

theorem block_step (hd : DctLaw) {w3 wr : World} {I : Ids} {v2 v' : Value} {k : Bks} {p : Par} {sc : List Int} {c0 : Nat} {st : MS} {n : Nat} (h : SosSt w3 I v2 k p sc c0 st n v' wr) (hk : k.Ok I) (hp : p.Ok)
    (hb : ∀ i, i < 64 → 0 ≤ st.M.getD i 0 ∧ st.M.getD i 0 ≤ 255) (hn : c0 + n * 2600 + 4000 ≤ BIG) (qi : Nat) (Q prev : Int) (hQ : Q = qi) (hqi : qi < 2) (ld la : List Nat) (hcd : Codes ld 12) (hca : Codes la 251)
    (henv : Env wr I v' qi ld la) (hLD : ¬ k.mine (I.LD qi)) (hLA : ¬ k.mine (I.LA qi)) (hp1 : -1024 ≤ prev) (hp2 : prev ≤ 1016) :
    Calls Tryd.prog 48 #[.pointer (some ⟨I.E, 0, none⟩), .pointer (some ⟨k.B, 0, none⟩), .int .i64 Q, .int .i32 prev] wr fun e w' => e = .returned (.int .i32 (coef (dctP st.M) p.q qi 0)) ∧
      ∃ v'', EncS w' I v'' (st.s.block ld la (coef (dctP st.M) p.q qi 0 - prev) (coef (dctP st.M) p.q qi)) sc p.q ∧ Blk w' k.B ((dctP st.M).map I32) 135 ∧ Fr (fun b => OutE I v' b ∨ b = k.B) wr w' ∧ Moved wr v' v'' := by
  subst hQ
  obtain ⟨g1, g2, g3⟩ := coef_bound hd st.M p.q qi hqi h.ok.lM hb hp.qb
  have hl := h.ok.len
  exact block_any h.mem.enc henv hqi hcd hca h.mem.b h.ok.lM h.mem.ab ⟨fun e => hk.g1 (.inl e.symm), fun e => hk.g2 (.inl e.symm), fun e => hLD (.inl e.symm), fun e => hLA (.inl e.symm)⟩ g3 hp.qb prev (by omega) g2 (by omega) (by omega)

section
variable (hd : DctLaw) {w3 wr : World} {I : Ids} {v2 v' : Value} {k : Bks} {p : Par} {sc : List Int} {c0 : Nat} {st : MS} {n : Nat} (h : SosSt w3 I v2 k p sc c0 st n v' wr) (hk : k.Ok I) (hp : p.Ok)
  (hb : ∀ i, i < 64 → 0 ≤ st.M.getD i 0 ∧ st.M.getD i 0 ≤ 255) (hn : c0 + n * 2600 + 4000 ≤ BIG)
include hd h hk hp hb hn

theorem sos_wY : Calls Tryd.prog 48 #[.pointer (some ⟨I.E, 0, none⟩), .pointer (some ⟨k.B, 0, none⟩), .int .i64 0, I32 st.pY] wr fun e w' => e = .returned (I32 (st.wY p).pY) ∧ ∃ v'', SosSt w3 I v2 k p sc c0 (st.wY p) (n + 1) v'' w' := by
  refine (block_step hd h hk hp hb hn 0 0 st.pY rfl (by omega) p.l0 p.l1 hp.c0 hp.c1 h.mem.env0 hk.l0 hk.l1 h.ok.y1 h.ok.y2).mono ?_
  rintro e w' ⟨rfl, v'', he, hb', hf, hm⟩
  refine ⟨rfl, v'', h.go hk (hf.mono (fun _ _ e => by rcases e with e | e; exact .inl e; exact .inr (.inl e))) hm he hb' ?_ ?_ (h.ok.wY hp hd hb h.mem.enc.hA h.mem.enc.hnb)⟩
  · exact hf.blk h.mem.c (by rintro (e | e); exact h.mem.ac.out e; exact hk.n1 e.symm)
  · exact hf.blk h.mem.r (by rintro (e | e); exact h.mem.ar.out e; exact hk.n2 e.symm)

theorem sos_wB : Calls Tryd.prog 48 #[.pointer (some ⟨I.E, 0, none⟩), .pointer (some ⟨k.B, 0, none⟩), .int .i64 1, I32 st.pB] wr fun e w' => e = .returned (I32 (st.wB p).pB) ∧ ∃ v'', SosSt w3 I v2 k p sc c0 (st.wB p) (n + 1) v'' w' := by
  refine (block_step hd h hk hp hb hn 1 1 st.pB rfl (by omega) p.l2 p.l3 hp.c2 hp.c3 h.mem.env1 hk.l2 hk.l3 h.ok.b1 h.ok.b2).mono ?_
  rintro e w' ⟨rfl, v'', he, hb', hf, hm⟩
  refine ⟨rfl, v'', h.go hk (hf.mono (fun _ _ e => by rcases e with e | e; exact .inl e; exact .inr (.inl e))) hm he hb' ?_ ?_ (h.ok.wB hp hd hb h.mem.enc.hA h.mem.enc.hnb)⟩
  · exact hf.blk h.mem.c (by rintro (e | e); exact h.mem.ac.out e; exact hk.n1 e.symm)
  · exact hf.blk h.mem.r (by rintro (e | e); exact h.mem.ar.out e; exact hk.n2 e.symm)

theorem sos_wR : Calls Tryd.prog 48 #[.pointer (some ⟨I.E, 0, none⟩), .pointer (some ⟨k.B, 0, none⟩), .int .i64 1, I32 st.pR] wr fun e w' => e = .returned (I32 (st.wR p).pR) ∧ ∃ v'', SosSt w3 I v2 k p sc c0 (st.wR p) (n + 1) v'' w' := by
  refine (block_step hd h hk hp hb hn 1 1 st.pR rfl (by omega) p.l2 p.l3 hp.c2 hp.c3 h.mem.env1 hk.l2 hk.l3 h.ok.r1 h.ok.r2).mono ?_
  rintro e w' ⟨rfl, v'', he, hb', hf, hm⟩
  refine ⟨rfl, v'', h.go hk (hf.mono (fun _ _ e => by rcases e with e | e; exact .inl e; exact .inr (.inl e))) hm he hb' ?_ ?_ (h.ok.wR hp hd hb h.mem.enc.hA h.mem.enc.hnb)⟩
  · exact hf.blk h.mem.c (by rintro (e | e); exact h.mem.ac.out e; exact hk.n1 e.symm)
  · exact hf.blk h.mem.r (by rintro (e | e); exact h.mem.ar.out e; exact hk.n2 e.symm)
end

section
variable {w3 wr : World} {I : Ids} {v2 v' : Value} {k : Bks} {p : Par} {sc : List Int} {c0 : Nat} {st : MS} {n : Nat} (h : SosSt w3 I v2 k p sc c0 st n v' wr) (hk : k.Ok I)
include h hk

theorem sos_sclB : Calls Tryd.prog 52 #[.pointer (some ⟨k.B, 0, none⟩), .pointer (some ⟨k.C, 0, none⟩)] wr fun e w' => e = .returned (.tuple #[]) ∧ SosSt w3 I v2 k p sc c0 st.sclB n v' w' := by
  refine (scale_any h.mem.b h.mem.c h.ok.lM h.ok.lN (Ne.symm hk.n1) h.ok.bN).mono ?_
  rintro e w' ⟨rfl, hb', hf⟩
  refine ⟨rfl, h.go hk (hf.mono (fun _ _ e => .inr (.inl e))) (.inl rfl) (h.mem.enc.frame hf (fun b hb e => h.mem.ab.out (e ▸ hb))) hb' (hf.blk h.mem.c (Ne.symm hk.n1)) (hf.blk h.mem.r (Ne.symm hk.n2)) h.ok.sclB.1⟩

theorem sos_sclR : Calls Tryd.prog 52 #[.pointer (some ⟨k.B, 0, none⟩), .pointer (some ⟨k.R, 0, none⟩)] wr fun e w' => e = .returned (.tuple #[]) ∧ SosSt w3 I v2 k p sc c0 st.sclR n v' w' := by
  refine (scale_any h.mem.b h.mem.r h.ok.lM h.ok.lR (Ne.symm hk.n2) h.ok.bR).mono ?_
  rintro e w' ⟨rfl, hb', hf⟩
  refine ⟨rfl, h.go hk (hf.mono (fun _ _ e => .inr (.inl e))) (.inl rfl) (h.mem.enc.frame hf (fun b hb e => h.mem.ab.out (e ▸ hb))) hb' (hf.blk h.mem.c (Ne.symm hk.n1)) (hf.blk h.mem.r (Ne.symm hk.n2)) h.ok.sclR.1⟩
end

end Go.Proofs.YtpophkigihfjoaaDoor
