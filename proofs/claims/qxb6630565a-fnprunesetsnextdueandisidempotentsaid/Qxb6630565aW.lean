/-
  THE WHOLE STORE IN MEMORY; what each step keeps.
-/
import Derived.Test.Qxb6630565aV2
import Derived.Test.Qxb6630565aLocks
namespace Go.Proofs.Qxb6630565a
open Go.ChangeShapes Go.WideShapes Go.ChangeAt Go.RowKit

structure SMx (w : World) (B S : Nat) (l0 l4 : Int) (I M : Nat) (cv : Value) (N : Nat) (len : Nat → Nat) (t : Nat → Nat → Int) (st : Nat → Nat) (pd : Int → Option (List Int)) (lk : Int → Option Value) (ps : List Int) (pv : Value) : Prop where
  s : ST w S l0 l4 I M cv pv (dueOf ps)
  k : KSt w B cv N len t st
  d : PDl w B M pd lk
  r : RT 42 .u64 w B pv ps

section
variable {w w' : World} {B S : Nat} {l0 l4 : Int} {I M : Nat} {cv : Value} {N : Nat} {len : Nat → Nat} {t : Nat → Nat → Int} {st : Nat → Nat} {pd : Int → Option (List Int)} {lk : Int → Option Value} {ps : List Int} {pv : Value}

theorem SMx.MS (h : SMx w B S l0 l4 I M cv N len t st pd lk ps pv) : M ≠ S := fun e => h.d.1.noTyp (e ▸ h.s.typ)

/-- a call that turns the store's own block alone -/
theorem SMx.own (h : SMx w B S l0 l4 I M cv N len t st pd lk ps pv) (f : Fr (· = S) w w') {k0 k4 : Int} (hs : ST w' S k0 k4 I M cv pv (dueOf ps)) : SMx w' B S k0 k4 I M cv N len t st pd lk ps pv := by
  have hS := h.s.typ
  refine ⟨hs, KS.fr h.k f fun b hb e => ?_, h.d.fr f (fun e => h.MS e) fun b _ ht e => ?_, h.r.fr f fun g hg e => ?_⟩
  · have e : b = S := e
    subst e
    rcases hb.2 with h1 | h1 <;> cases h1.inj hS
  · have e : b = S := e
    subst e
    cases ht.inj hS
  · have e : g = S := e
    subst e
    cases (h.r.typ hg).2.inj hS

theorem SMx.pruned (h : SMx w B S l0 l4 I M cv N len t st pd lk ps pv) (f : Fr (Kb w B) w w') {st' : Nat → Nat} (hk : KSt w' B cv N len t st') : SMx w' B S l0 l4 I M cv N len t st' pd lk ps pv := by
  have hS := h.s.typ
  refine ⟨h.s.fr f fun e => ?_, hk, h.d.fr f (fun e => ?_) fun b _ ht e => ?_, h.r.fr f fun g hg e => ?_⟩
  · rcases e.2 with h1 | h1 <;> cases h1.inj hS
  · rcases e.2 with h1 | h1 <;> exact h.d.1.noTyp h1
  · rcases e.2 with h1 | h1 <;> cases h1.inj ht
  · rcases e.2 with h1 | h1 <;> cases h1.inj (h.r.typ hg).2

theorem SMx.queued (h : SMx w B S l0 l4 I M cv N len t st pd lk ps pv) {p x : Int} {e : Ending} (q : QR B S M I l0 l4 cv pd lk ps p x w e w') :
    ∃ pv' ps' v', SMx w' B S l0 l4 I M cv N len t st (pdx pd p ((pd p).getD [] ++ [x])) (fun q => if q = p then some v' else lk q) ps' pv' ∧ QP pd ps p ps' ∧ Fr (Qb w B S M) w w' := by
  obtain ⟨_, pv', ps', v', h1, h2, h3, h4, h5⟩ := q
  refine ⟨pv', ps', v', ⟨h1, KS.fr h.k h5 fun b hb e => ?_, h3, h2⟩, h4, h5⟩
  rcases e with e | e | e
  · subst e
    rcases hb.2 with h6 | h6 <;> cases h6.inj h.s.typ
  · subst e
    rcases hb.2 with h6 | h6 <;> exact h.d.1.noTyp h6
  · rcases e.2 with h7 | h7 <;> rcases hb.2 with h6 | h6 <;> cases h6.inj h7

theorem Qb.ge {b : Nat} (hS : B ≤ S) (hM : B ≤ M) (h : Qb w B S M b) : B ≤ b := by
  rcases h with rfl | rfl | h
  · exact hS
  · exact hM
  · exact h.1
end

theorem lock_any (B S : Nat) {I M : Nat} {cv : Value} {N : Nat} {len : Nat → Nat} {t : Nat → Nat → Int} {st : Nat → Nat} {pd : Int → Option (List Int)} {lk : Int → Option Value} {ps : List Int} {pv : Value} (w : World) (h : SMx w B S 0 0 I M cv N len t st pd lk ps pv) :
    Calls Try.prog 25 #[.pointer (some ⟨S, 0, none⟩)] w fun e w' => e = .returned (.tuple #[]) ∧ SMx w' B S 1 (-1073741824) I M cv N len t st pd lk ps pv ∧ Fr (· = S) w w' := by
  refine (RwLone.wlock_free rwWLib S 0 _ _ w (h.s.cell 0) (h.s.cell 2) (h.s.cell 3) (h.s.cell 4) (h.s.fro 0) (h.s.fro 4)).mono ?_
  rintro e w' ⟨rfl, rfl⟩
  have f : Fr (· = S) w ((w.setCell ⟨S, 0, none⟩ (.int .i32 1)).setCell ⟨S, 0 + 4, none⟩ (.int .i32 (-1073741824))) := ((Fr.refl (· = S) w).setCell (p := ⟨S, 0, none⟩) rfl _).setCell (p := ⟨S, 0 + 4, none⟩) rfl _
  exact ⟨rfl, h.own f ((h.s.set0 1).set4 (-1073741824)), f⟩

theorem unlock_any (B S : Nat) {I M : Nat} {cv : Value} {N : Nat} {len : Nat → Nat} {t : Nat → Nat → Int} {st : Nat → Nat} {pd : Int → Option (List Int)} {lk : Int → Option Value} {ps : List Int} {pv : Value} (w : World) (h : SMx w B S 1 (-1073741824) I M cv N len t st pd lk ps pv) :
    Calls Try.prog 26 #[.pointer (some ⟨S, 0, none⟩)] w fun e w' => e = .returned (.tuple #[]) ∧ SMx w' B S 0 0 I M cv N len t st pd lk ps pv ∧ Fr (· = S) w w' := by
  refine (RwLone.wunlock_held rwWLib S 0 _ _ w (h.s.cell 0) (h.s.cell 2) (h.s.cell 3) (h.s.cell 4) (h.s.fro 0) (h.s.fro 4)).mono ?_
  rintro e w' ⟨rfl, rfl⟩
  have f : Fr (· = S) w ((w.setCell ⟨S, 0 + 4, none⟩ (.int .i32 0)).setCell ⟨S, 0, none⟩ (.int .i32 0)) := ((Fr.refl (· = S) w).setCell (p := ⟨S, 0 + 4, none⟩) rfl _).setCell (p := ⟨S, 0, none⟩) rfl _
  exact ⟨rfl, h.own f ((h.s.set4 0).set0 0), f⟩
end Go.Proofs.Qxb6630565a
