/-
  ZZnewStore, zzBuild.
-/
import Derived.Test.Qxb6630565aZ2
import Derived.Carry
namespace Go.Proofs.Qxb6630565a
open Go.ChangeShapes Go.WideShapes Go.ChangeAt Go.RowKit

theorem newStore_any (w : World) : Calls Try.prog 15 #[] w fun e w' => e = .returned (.pointer (some ⟨w.heap.size + 1 + 1, 0, none⟩)) ∧
    ST w' (w.heap.size + 1 + 1) 0 0 w.heap.size (w.heap.size + 1) (.slice none 0 0) (.slice none 0 0) (dueOf []) ∧ MP w' (w.heap.size + 1) (fun _ => none) ∧ Below w.heap.size w w' := by
  have hmm := @run_makeMap Try.prog
  go_enter Try.func15, Try.ntmps15
  go_wp2_with fail
  have hS : ST (((w.alloc (Obj.map #[] 0)).alloc (Obj.map #[] 0)).alloc (Obj.cells (sarr 0 0 w.heap.size (w.heap.size + 1) (.slice none 0 0) (.slice none 0 0) 0) 70)) (w.heap.size + 1 + 1) 0 0 w.heap.size (w.heap.size + 1) (.slice none 0 0) (.slice none 0 0) 0 := by
    have h := heap_alloc_new ((w.alloc (Obj.map #[] 0)).alloc (Obj.map #[] 0)) (Obj.cells (sarr 0 0 w.heap.size (w.heap.size + 1) (.slice none 0 0) (.slice none 0 0) 0) 70)
    rwa [size_alloc, size_alloc] at h
  refine (setDue_any 0 (w.heap.size + 1 + 1) 0 0 _ _ _ _ 0 [] _ hS (.inl ⟨rfl, rfl⟩) (fun p hp => by cases hp)).mono ?_
  rintro e w2 ⟨rfl, hs2, hf2⟩
  have HS2 := hide hs2
  have hM1 : MP (((w.alloc (Obj.map #[] 0)).alloc (Obj.map #[] 0)).alloc (Obj.cells (sarr 0 0 w.heap.size (w.heap.size + 1) (.slice none 0 0) (.slice none 0 0) 0) 70)) (w.heap.size + 1) (fun _ => none) := by
    have h := MP.made (w.alloc (Obj.map #[] 0))
    rw [size_alloc] at h
    exact h.fr (Fr.below ((Below.refl _ _).alloc (Nat.le_refl _) _)) (B := fun _ => False) (fun h => h)
  have HM : Hid (MP w2 (w.heap.size + 1) (fun _ => none)) := hM1.fr hf2 (fun e => by have e : w.heap.size + 1 = w.heap.size + 1 + 1 := e; omega)
  have HB : Hid (Below w.heap.size w w2) := by
    have b1 : Below w.heap.size w (((w.alloc (Obj.map #[] 0)).alloc (Obj.map #[] 0)).alloc (Obj.cells (sarr 0 0 w.heap.size (w.heap.size + 1) (.slice none 0 0) (.slice none 0 0) 0) 70)) := (((Below.refl _ w).alloc (Nat.le_refl _) _).alloc (by rw [size_alloc]; omega) _).alloc (by rw [size_alloc, size_alloc]; omega) _
    exact b1.trans (hf2.to _ b1.size (fun i e => by have e : i = w.heap.size + 1 + 1 := e; omega))
  clear hS hs2 hf2 hM1 hmm
  go_wp2
  go_ret
  exact ⟨rfl, HS2.out, HM.out, HB.out⟩

def lens (L : Nat → Nat) (k m : Nat) : Nat → Nat := fun j => if j < k then L j else if j = k then m else 0
theorem lens_lt (L : Nat → Nat) {k m j : Nat} (h : j < k) : lens L k m j = L j := if_pos h
theorem lens_at (L : Nat → Nat) (k m : Nat) : lens L k m k = m := by
  unfold lens
  rw [if_neg (Nat.lt_irrefl _), if_pos rfl]
theorem lens_ne (L : Nat → Nat) {k m m' j : Nat} (h : j ≠ k) : lens L k m j = lens L k m' j := by
  unfold lens
  rw [if_neg h, if_neg h]

def BLD (w : World) (N : Nat) (L : Nat → Nat) (t : Nat → Nat → Int) (e : Ending) (w' : World) : Prop :=
  ∃ cv pd lk ps pv, e = .returned (.pointer (some ⟨w.heap.size + 1 + 1, 0, none⟩)) ∧ SMx w' w.heap.size (w.heap.size + 1 + 1) 0 0 w.heap.size (w.heap.size + 1) cv N L t z0 pd lk ps pv ∧ PI N L t z0 pd ps ∧ Below w.heap.size w w'
theorem BLD.mk {w w' : World} {N : Nat} {L : Nat → Nat} {t : Nat → Nat → Int} (cv : Value) (pd : Int → Option (List Int)) (lk : Int → Option Value) (ps : List Int) (pv : Value) (h1 : SMx w' w.heap.size (w.heap.size + 1 + 1) 0 0 w.heap.size (w.heap.size + 1) cv N L t z0 pd lk ps pv) (h2 : PI N L t z0 pd ps) (h3 : Below w.heap.size w w') : BLD w N L t (.returned (.pointer (some ⟨w.heap.size + 1 + 1, 0, none⟩))) w' := ⟨cv, pd, lk, ps, pv, rfl, h1, h2, h3⟩

theorem SMx.appended {w w' : World} {B S : Nat} {l0 l4 : Int} {I M : Nat} {cv : Value} {N : Nat} {len : Nat → Nat} {t : Nat → Nat → Int} {st : Nat → Nat} {pd : Int → Option (List Int)} {lk : Int → Option Value} {ps : List Int} {pv : Value} (h : SMx w B S l0 l4 I M cv N len t st pd lk ps pv) (f : Fr (fun b => Kb w B b) w w') {len' : Nat → Nat} (hk : KSt w' B cv N len' t st) : SMx w' B S l0 l4 I M cv N len' t st pd lk ps pv := by
  refine h.turned (f.mono fun _ => Or.inr) (h.s.fr f fun e => ?_) hk
  rcases e.2 with h1 | h1 <;> cases h1.inj h.s.typ

theorem SMx.new {w : World} {B S I M : Nat} (len : Nat → Nat) (t : Nat → Nat → Int) (st : Nat → Nat) (h : ST w S 0 0 I M (.slice none 0 0) (.slice none 0 0) (dueOf [])) (hM : MP w M (fun _ => none)) : SMx w B S 0 0 I M (.slice none 0 0) 0 len t st (fun _ => none) (fun _ => none) [] (.slice none 0 0) :=
  ⟨h, ⟨fun _ => .slice none 0 0, .inl ⟨rfl, rfl⟩, fun i hi => by omega, fun i j g hi => by omega⟩, ⟨hM, fun p => ⟨fun _ => rfl, fun _ => rfl⟩, fun p v is hv => (by cases hv), fun p q v u g hv => (by cases hv)⟩, .inl ⟨rfl, rfl⟩⟩

set_option maxRecDepth 100000 in
set_option maxHeartbeats 4000000 in
theorem build_any (a : Option Addr) (N cap : Nat) (A : Nat → Option Addr) (L C : Nat → Nat) (t : Nat → Nat → Int) (w : World) (hT : TSi w a N cap A L C t) (hN : N ≤ 65536) (hL : ∀ r, r < N → L r ≤ 1048576) :
    Calls Try.prog 7 #[.slice a N cap] w fun e w' => BLD w N L t e w' := by
  have HT := hide hT
  have HL := hide hL
  obtain ⟨B, hB⟩ : ∃ B, Hid (w.heap.size = B) := ⟨_, rfl⟩
  clear hT hL
  go_enter Try.func7, Try.ntmps7
  go_wp2_with fail
  refine (newStore_any w).mono ?_
  rintro e w1 ⟨rfl, hs, hm, hb⟩
  have HSM1 : Hid (SMx w1 w.heap.size (w.heap.size + 1 + 1) 0 0 w.heap.size (w.heap.size + 1) (.slice none 0 0) 0 L t z0 (fun _ => none) (fun _ => none) [] (.slice none 0 0)) := SMx.new L t z0 hs hm
  have HB1 := hide hb
  clear hs hm hb
  go_wp2
  go_loopg [4] N (fun g i wr => ∃ (k : Nat) (cv : Value) (pd : Int → Option (List Int)) (lk : Int → Option Value) (ps : List Int) (pv : Value), i = .int .i64 k ∧ k ≤ N ∧ g = N - k ∧
    Hid (SMx wr w.heap.size (w.heap.size + 1 + 1) 0 0 w.heap.size (w.heap.size + 1) cv k L t z0 pd lk ps pv) ∧ Hid (PI k L t z0 pd ps) ∧ Hid (Below w.heap.size w wr))
  case atStart => exact ⟨0, _, _, _, _, _, rfl, by omega, by omega, HSM1, PI.zero _ _ _, HB1⟩
  case round =>
    clear HSM1 HB1
    obtain ⟨k, cv, pd, lk, ps, pv, rfl, hk, hg, HSM, HPI, HB⟩ := hrel
    by_cases hlt : k < N
    · obtain ⟨x, rfl⟩ := HT.out.ptr (by omega)
      have HSMa := hide (HSM.out.congr (len' := lens L k 0) (fun i hi => lens_lt L hi))
      go_wp2_with fail
      refine (addChain_any w.heap.size (w.heap.size + 1 + 1) k _ _ _ _ 0 0 w.heap.size (w.heap.size + 1) cv pv (dueOf ps) wr HB.out.size HSMa.out.s HSMa.out.k (by omega) (by show lens L k 0 k - 0 = 0; rw [lens_at]) (if_pos rfl)).mono ?_
      rintro e w2 ⟨rfl, cv1, hs2, hk2, hf2⟩
      have HSM2 := hide (HSMa.out.turned hf2 (len' := lens L k 0) (st' := z0) hs2 hk2)
      have HB2 : Hid (Below w.heap.size w w2) := HB.out.trans (hf2.to _ HB.out.size (fun i e => by
        rcases e with rfl | e
        · omega
        · exact e.1))
      clear hs2 hk2 hf2 HSMa
      have hc := (HT.out.below HB2.out).row x rfl k hlt
      obtain ⟨l, hl⟩ : ∃ l, Hid (L k = l) := ⟨_, rfl⟩
      obtain ⟨ra, hra⟩ : ∃ ra, Hid (A k = ra) := ⟨_, rfl⟩
      have hlm := HL.out k hlt
      rw [hl.out, hra.out] at hc
      rw [hl.out] at hlm
      obtain ⟨gK, hgK⟩ : ∃ x, x = gk := ⟨_, rfl⟩
      subst hgK
      obtain ⟨wo, rfl⟩ : ∃ wo : World, wo = wr := ⟨_, rfl⟩
      go_wp2
      go_loopg [7] l (fun g j wr => ∃ m : Nat, j = .int .i64 m ∧ m ≤ l ∧ g = l - m ∧ Hid (SMx wr w.heap.size (w.heap.size + 1 + 1) 0 0 w.heap.size (w.heap.size + 1) cv1 (k + 1) (lens L k m) t z0 pd lk ps pv) ∧ Hid (Below w.heap.size w wr))
      case atStart => exact ⟨0, rfl, by omega, by omega, HSM2, HB2⟩
      case round =>
        clear HSM2 HB2 hc
        obtain ⟨m, rfl, hm, hg2, HSM3, HB3⟩ := hrel
        by_cases hml : m < l
        · cases ra with
          | none =>
            exfalso
            have := HT.out.nil k hlt hra.out
            rw [hl.out] at this
            omega
          | some y =>
            have g1 := (HT.out.below HB3.out).cell k hlt y hra.out m (by rw [hl.out]; exact hml)
            obtain ⟨v, hv⟩ : ∃ v, Hid (t k m = v) := ⟨_, rfl⟩
            rw [hv.out] at g1
            go_wp2_with fail
            refine (appendVersion_any w.heap.size (w.heap.size + 1 + 1) (k + 1) k m (fun j => lens L k m j - z0 j) (fun j => lens L k (m + 1) j - z0 j) _ _ _ 0 0 w.heap.size (w.heap.size + 1) cv1 pv (dueOf ps) wr HB3.out.size HSM3.out.s HSM3.out.k (by omega) (by show lens L k m k - 0 = m; rw [lens_at]; rfl) (by omega) (fun j hj => ?_) v m ?_ ?_).mono ?_
            · show lens L k (m + 1) j - 0 = if j = k then m + 1 else lens L k m j - 0
              by_cases e : j = k
              · rw [if_pos e, e, lens_at]
                rfl
              · rw [if_neg e, lens_ne L e]
            · show t k (0 + m) = v
              rw [Nat.zero_add]
              exact hv.out
            · show ((0 + m : Nat) : Int) = m
              rw [Nat.zero_add]
            rintro e w4 ⟨rfl, hk4, hf4⟩
            have HSM4 := hide (HSM3.out.appended hf4 (len' := lens L k (m + 1)) hk4)
            have HB4 : Hid (Below w.heap.size w w4) := HB3.out.trans (hf4.to _ HB3.out.size (fun i e => e.1))
            clear hk4 hf4 g1
            go_wp2
            go_roundg (l - (m + 1))
            case measure => omega
            case rel => exact ⟨m + 1, by go_num, by omega, rfl, HSM4, HB4⟩
        · obtain rfl : m = l := by omega
          have HSM4 : Hid (SMx wr w.heap.size (w.heap.size + 1 + 1) 0 0 w.heap.size (w.heap.size + 1) cv1 (k + 1) L t z0 pd lk ps pv) := HSM3.out.congr (fun i hi => by
            by_cases e : i = k
            · rw [e, lens_at]
              exact hl.out
            · rw [lens_lt L (by omega)])
          by_cases h1 : 1 < m
          · obtain ⟨tq, htq⟩ : ∃ tq, Hid (mid L t z0 k = tq) := ⟨_, rfl⟩
            have htm : Hid (t k (z0 k + m / 2) = tq) := by
              have h2 := htq.out
              unfold mid at h2
              rw [show L k - z0 k = m from hl.out] at h2
              exact h2
            have hfit := HT.out.fits k hlt (m / 2) (by rw [hl.out]; omega)
            have e0 : t k (m / 2) = tq := by
              have h2 := htm.out
              rw [show z0 k + m / 2 = m / 2 from Nat.zero_add _] at h2
              exact h2
            rw [e0] at hfit
            have HFT := hide hfit
            clear e0 hfit
            go_wp2_with fail
            refine (zzqueue_any w.heap.size (w.heap.size + 1 + 1) (k + 1) k _ _ _ _ 0 0 w.heap.size (w.heap.size + 1) cv1 pv ps pd lk wr HB3.out.size HSM4.out.s HSM4.out.k HSM4.out.d HSM4.out.r HPI.out.k.sor HPI.out.k.per (by omega) m hl.out (by omega) hlm tq htm.out HFT.out.1 HFT.out.2 (by have := HPI.out.psLen; omega) (fun js hj => by have := HPI.out.grpLen hj; omega)).mono ?_
            intro e w5 hQ
            have he : e = .returned (.tuple #[]) := hQ.1
            subst he
            obtain ⟨pv5, ps5, v5, hS5, hQP, hF5⟩ := HSM4.out.queued hQ
            have HSM5 := hide hS5
            have HPI5 := hide (HPI.out.add (show 1 < L k - z0 k by rw [show L k - z0 k = m from hl.out]; exact h1) (q1 := per tq) (by rw [htq.out]) (per_ok tq HFT.out.1 HFT.out.2).1 hQP)
            have HB5 : Hid (Below w.heap.size w w5) := HB3.out.trans (hF5.to _ HB3.out.size (fun i e => Qb.ge (by omega) (by omega) e))
            clear hQ hS5 hQP hF5
            go_wp2
            go_roundg (N - (k + 1))
            case measure => omega
            case rel => exact ⟨k + 1, _, _, _, _, _, by go_num, by omega, rfl, HSM5, HPI5, HB5⟩
          · have HPI5 := hide (HPI.out.skip (show L k - z0 k ≤ 1 by rw [show L k - z0 k = m from hl.out]; omega))
            go_wp2
            go_roundg (N - (k + 1))
            case measure => omega
            case rel => exact ⟨k + 1, _, _, _, _, _, by go_num, by omega, rfl, HSM4, HPI5, HB3⟩
    · obtain rfl : k = N := by omega
      go_wp2
      go_ret
      exact BLD.mk _ _ _ _ _ HSM.out HPI.out HB.out
end Go.Proofs.Qxb6630565a
