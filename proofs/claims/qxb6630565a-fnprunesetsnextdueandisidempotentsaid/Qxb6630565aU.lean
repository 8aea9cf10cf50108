/-
  THE CHAINS TOLD BY WHERE EACH BEGINS; prune at them.
-/
import Derived.Test.Qxb6630565aT
namespace Go.Proofs.Qxb6630565a
open Go.ChangeShapes Go.WideShapes Go.ChangeAt Go.RowKit

/-- a chain's floor -/
def flo (t : Nat → Nat → Int) (st : Nat → Nat) (j : Nat) : Int := if st j = 0 then 0 else t j (st j)
/-- chain j holds the versions of its row from st j on -/
def KSt (w : World) (B : Nat) (cv : Value) (N : Nat) (len : Nat → Nat) (t : Nat → Nat → Int) (st : Nat → Nat) : Prop :=
  KS w B cv N (fun j => len j - st j) (fun j a => t j (st j + a)) (fun j a => ((st j + a : Nat) : Int)) (flo t st)

/-- the rows that came in: in order, each number a uint64 -/
structure Rows (N : Nat) (len : Nat → Nat) (t : Nat → Nat → Int) : Prop where
  mono : ∀ i, i < N → ∀ a b, a ≤ b → b < len i → t i a ≤ t i b
  lo : ∀ i, i < N → ∀ a, a < len i → 0 ≤ t i a
  hi : ∀ i, i < N → ∀ a, a < len i → t i a ≤ 18446744073709551615
  big : ∀ i, i < N → len i ≤ 1048576
  num : N ≤ 65536

def upd (st : Nat → Nat) (i k : Nat) : Nat → Nat := fun j => if j = i then k else st j

theorem pruneK (B C cap N i : Nat) (len : Nat → Nat) (t : Nat → Nat → Int) (st : Nat → Nat) (h : Int) (w : World) (hR : Rows N len t) (hK : KSt w B (.slice (some ⟨C, 0, none⟩) N cap) N len t st) (hi : i < N) (hn : 2 ≤ len i - st i) (h1 : t i (st i + 1) ≤ h) :
    Calls Try.prog 27 #[.pointer (some ⟨C, i * 8, none⟩), .int .u64 h] w fun e w' => e = .returned (.tuple #[]) ∧
      ∃ k, 1 ≤ k ∧ k < len i - st i ∧ Cut (fun a => t i (st i + a)) (len i - st i) h (k + 1) ∧ KSt w' B (.slice (some ⟨C, 0, none⟩) N cap) N len t (upd st i (st i + k)) ∧ Fr (Kb w B) w w' := by
  obtain ⟨sv, hCR, hVV, hinj⟩ := hK
  rcases hCR with ⟨h0, _⟩ | ⟨C', cap', cur, e, hCB, hNc, hcm, hg, hsz, hca⟩
  · omega
  cases e
  have hv := hVV i hi
  rcases hv with ⟨h0, _⟩ | ⟨g, gc, hsv, hgB, hVR⟩
  · have h0 : len i - st i = 0 := h0
    omega
  have hsi : st i + 1 < len i := by omega
  have hCH : CH w C (i * 8) (.slice (some ⟨g, 0, none⟩) (len i - st i) gc) (flo t st i) cur := by
    refine ⟨cur, hg, rfl, fun _ _ => rfl, ?_⟩
    have := hca i hi
    rw [hsv] at this
    exact this
  have hTy : Typ w C 49 := ⟨_, _, hg⟩
  have hmono : Mono (fun a => t i (st i + a)) (len i - st i) := fun a b hab hb => hR.mono i hi _ _ (by omega) (by omega)
  refine (prune_any C (i * 8) g (len i - st i) gc (fun a => t i (st i + a)) (fun a => ((st i + a : Nat) : Int)) h (flo t st i) cur w hmono hn (by have := hR.big i hi; omega) h1 hVR hCH).mono ?_
  rintro e w' ⟨rfl, k, hk1, hk2, hcut, g', cap2, hV', hC', hg', hF⟩
  refine ⟨rfl, k, hk1, hk2, hcut, ?_, hF.mono fun b hb => ?_⟩
  · have hfle : flo t st i ≤ t i (st i + k) := by
      unfold flo
      split
      · exact hR.lo i hi _ (by omega)
      · exact hR.mono i hi _ _ (by omega) (by omega)
    have hfl : (if flo t st i < t i (st i + k) then t i (st i + k) else flo t st i) = t i (st i + k) := by
      split
      · rfl
      · omega
    have hC'' : CH w' C (i * 8) (.slice (some ⟨g', 0, none⟩) (len i - st i - k) cap2) (t i (st i + k)) cur := by
      rw [← hfl]
      exact hC'
    refine KS.turn (n2 := len i - st i - k) (i := i) hCB hNc hcm hsz hca hVV hinj hi hC'' (.inr ⟨g', cap2, rfl, ?_, hV'.moved (fun a _ => ?_) (fun a _ => ?_)⟩) (fun b hb => ?_) hF (fun b hb => ?_) hTy (fun j hj => ?_) (fun j hj => ?_) (fun j hj hne => ?_)
    · rcases hg' with rfl | h5
      · exact hgB
      · have := (Array.getElem?_eq_some_iff.1 hg).1
        omega
    · simp only [upd, if_true]
      congr 1
      omega
    · simp only [upd, if_true]
      congr 1
      omega
    · cases hb
      rcases hg' with rfl | h5
      · exact .inl (by rw [hsv]; rfl)
      · exact .inr h5
    · rcases hb with h5 | h5
      · exact .inl h5
      · exact .inr (by rw [hsv, h5]; rfl)
    · simp only [upd]
      by_cases e : j = i
      · rw [if_pos e, if_pos e, e]
        omega
      · rw [if_neg e, if_neg e]
    · by_cases e : j = i
      · subst e
        have hu : upd st j (st j + k) j = st j + k := if_pos rfl
        rw [flo, hu, if_neg (by omega), if_pos rfl]
      · have hu : upd st i (st i + k) j = st j := if_neg e
        rw [flo, hu, if_neg e]
        rfl
    · simp [upd, hne]
  · rcases hb with rfl | rfl
    · exact ⟨hCB, .inl hTy⟩
    · obtain ⟨c2, h5, _⟩ := hVR.row
      exact ⟨hgB, .inr ⟨_, _, h5⟩⟩
end Go.Proofs.Qxb6630565a
