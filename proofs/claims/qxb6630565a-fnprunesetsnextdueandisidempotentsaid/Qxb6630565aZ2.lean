/-
  THE STORE BUILT; what is read of it.
-/
import Derived.Test.Qxb6630565aY
import Derived.Test.Qxb6630565aZ1
namespace Go.Proofs.Qxb6630565a
open Go.ChangeShapes Go.WideShapes Go.ChangeAt Go.RowKit

def z0 : Nat → Nat := fun _ => 0

theorem PI.zero (len : Nat → Nat) (t : Nat → Nat → Int) (st : Nat → Nat) : PI 0 len t st (fun _ => none) [] :=
  ⟨⟨fun q js h => (by cases h), fun i hi => by omega, fun q js h => (by cases h)⟩, ⟨fun i j _ hj => by simp at hj, fun p hp => (by cases hp), fun q => ⟨fun h => (by cases h), fun h => absurd rfl h⟩⟩, fun q js h => (by cases h)⟩

theorem PI.skip {N : Nat} {len : Nat → Nat} {t : Nat → Nat → Int} {st : Nat → Nat} {pd : Int → Option (List Int)} {ps : List Int} (h : PI N len t st pd ps) (hn : len N - st N ≤ 1) : PI (N + 1) len t st pd ps := by
  refine ⟨⟨fun q js hq x hx => ?_, fun i hi hw => ?_, h.g.nodup⟩, h.k, h.ne⟩
  · obtain ⟨i, e, hi, hw⟩ := h.g.mem q js hq x hx
    exact ⟨i, e, by omega, hw⟩
  · by_cases e : i = N
    · subst e
      omega
    · exact h.g.all i (by omega) hw

theorem PI.add {N : Nat} {len : Nat → Nat} {t : Nat → Nat → Int} {st : Nat → Nat} {pd : Int → Option (List Int)} {ps ps' : List Int} (h : PI N len t st pd ps) (hn : 1 < len N - st N) {q1 : Int} (hq : per (mid len t st N) = q1) (hp : Per q1) (hQ : QP pd ps q1 ps') :
    PI (N + 1) len t st (pdx pd q1 ((pd q1).getD [] ++ [(N : Int)])) ps' := by
  refine ⟨⟨fun q js hj x hx => ?_, fun i hi hw => ?_, fun q js hj => ?_⟩, h.k.queue hQ hp, fun q js hj => ?_⟩
  · by_cases e : q = q1
    · subst e
      rw [pdx_same] at hj
      cases hj
      rcases List.mem_append.1 hx with h3 | h3
      · cases hk : pd q with
        | none => rw [hk] at h3; cases h3
        | some js0 =>
          rw [hk] at h3
          obtain ⟨i, e, hi, hw⟩ := h.g.mem q js0 hk x h3
          exact ⟨i, e, by omega, hw⟩
      · rw [List.mem_singleton] at h3
        exact ⟨N, h3, by omega, hn, hq⟩
    · rw [pdx_ne _ _ e] at hj
      obtain ⟨i, e, hi, hw⟩ := h.g.mem q js hj x hx
      exact ⟨i, e, by omega, hw⟩
  · by_cases e : i = N
    · subst e
      refine ⟨(pd q1).getD [] ++ [(i : Int)], ?_, List.mem_append_right _ (List.mem_singleton.2 rfl)⟩
      rw [hq, pdx_same]
    · obtain ⟨js, h1, h2⟩ := h.g.all i (by omega) hw
      by_cases e1 : per (mid len t st i) = q1
      · rw [e1, pdx_same]
        rw [e1] at h1
        exact ⟨_, rfl, List.mem_append_left _ (by rw [h1]; exact h2)⟩
      · rw [pdx_ne _ _ e1]
        exact ⟨js, h1, h2⟩
  · by_cases e : q = q1
    · subst e
      rw [pdx_same] at hj
      cases hj
      cases hk : pd q with
      | none => simp
      | some js0 =>
        show (js0 ++ [(N : Int)]).Nodup
        rw [List.nodup_append]
        refine ⟨h.g.nodup q js0 hk, by simp, fun a ha b hb => ?_⟩
        rw [List.mem_singleton] at hb
        rw [hb]
        rintro rfl
        obtain ⟨i, e, hi, _⟩ := h.g.mem q js0 hk _ ha
        omega
    · rw [pdx_ne _ _ e] at hj
      exact h.g.nodup q js hj
  · by_cases e : q = q1
    · subst e
      rw [pdx_same] at hj
      cases hj
      simp
    · rw [pdx_ne _ _ e] at hj
      exact h.ne q js hj

theorem PI.psLen {N : Nat} {len : Nat → Nat} {t : Nat → Nat → Int} {st : Nat → Nat} {pd : Int → Option (List Int)} {ps : List Int} (h : PI N len t st pd ps) : ps.length ≤ N := by
  refine inj_len (N := N) (sor_nodup h.k.sor) (fun q i => i < N ∧ Waits len t st i q) (fun q hq => ?_) (fun p q i hp hq => hp.2.2.symm.trans hq.2.2)
  obtain ⟨js, hjs⟩ := Option.ne_none_iff_exists'.1 ((h.k.keys q).1 hq)
  obtain ⟨x, hxm⟩ := List.exists_mem_of_ne_nil js (h.ne q js hjs)
  obtain ⟨i, _, hi, hw⟩ := h.g.mem q js hjs x hxm
  exact ⟨i, hi, hi, hw⟩
theorem PI.grpLen {N : Nat} {len : Nat → Nat} {t : Nat → Nat → Int} {st : Nat → Nat} {pd : Int → Option (List Int)} {ps : List Int} (h : PI N len t st pd ps) {q : Int} {js : List Int} (hj : pd q = some js) : js.length ≤ N :=
  int_len (h.g.nodup q js hj) fun x hm => by
    obtain ⟨i, e, hi, _⟩ := h.g.mem q js hj x hm
    exact ⟨i, e, hi⟩

section
variable {w w' : World} {B S : Nat} {l0 l4 : Int} {I M : Nat} {cv : Value} {N : Nat} {len : Nat → Nat} {t : Nat → Nat → Int} {st : Nat → Nat} {pd : Int → Option (List Int)} {lk : Int → Option Value} {ps : List Int} {pv : Value}

theorem SMx.turned (h : SMx w B S l0 l4 I M cv N len t st pd lk ps pv) (f : Fr (fun b => b = S ∨ Kb w B b) w w') {cv' : Value} {N' : Nat} {len' st' : Nat → Nat} (hs : ST w' S l0 l4 I M cv' pv (dueOf ps)) (hk : KSt w' B cv' N' len' t st') : SMx w' B S l0 l4 I M cv' N' len' t st' pd lk ps pv := by
  have hS := h.s.typ
  refine ⟨hs, hk, h.d.fr f (fun e => ?_) fun b _ ht e => ?_, h.r.fr f fun g hg e => ?_⟩
  · rcases e with e | e
    · exact h.MS e
    · rcases e.2 with h1 | h1 <;> exact h.d.1.noTyp h1
  · rcases e with rfl | e
    · cases ht.inj hS
    · rcases e.2 with h1 | h1 <;> cases h1.inj ht
  · rcases e with rfl | e
    · cases (h.r.typ hg).2.inj hS
    · rcases e.2 with h1 | h1 <;> cases h1.inj (h.r.typ hg).2
theorem SMx.congr (h : SMx w B S l0 l4 I M cv N len t st pd lk ps pv) {len' : Nat → Nat} (hl : ∀ i, i < N → len' i = len i) : SMx w B S l0 l4 I M cv N len' t st pd lk ps pv :=
  ⟨h.s, KS.congr h.k fun i hi => by rw [hl i hi], h.d, h.r⟩

theorem KSt.cellv {C cap : Nat} (h : KSt w B (.slice (some ⟨C, 0, none⟩) N cap) N len t st) {i : Nat} (hi : i < N) : ∃ a gc, w.cell? ⟨C, i * 8, none⟩ = some (.slice a (len i - st i) gc) := by
  obtain ⟨sv, hCR, hVV, _⟩ := h
  rcases hCR with ⟨h0, _⟩ | ⟨C', cap', cur, e, _, _, _, hg, _, hca⟩
  · omega
  cases e
  rcases hVV i hi with ⟨h0, hsv⟩ | ⟨g, gc, hsv, _, _⟩
  · have h0 : len i - st i = 0 := h0
    exact ⟨none, 0, by rw [cell_row hg, (hca i hi).1, hsv, h0]⟩
  · exact ⟨_, gc, by rw [cell_row hg, (hca i hi).1, hsv]⟩
theorem KSt.cellt {C cap : Nat} (h : KSt w B (.slice (some ⟨C, 0, none⟩) N cap) N len t st) {i : Nat} (hi : i < N) {a : Nat} (ha : a < len i - st i) : ∃ g gc, w.cell? ⟨C, i * 8, none⟩ = some (.slice (some ⟨g, 0, none⟩) (len i - st i) gc) ∧ w.cell? ⟨g, a * 6, none⟩ = some (.int .u64 (t i (st i + a))) := by
  obtain ⟨sv, hCR, hVV, _⟩ := h
  rcases hCR with ⟨h0, _⟩ | ⟨C', cap', cur, e, _, _, _, hg, _, hca⟩
  · omega
  cases e
  rcases hVV i hi with ⟨h0, hsv⟩ | ⟨g, gc, hsv, _, hVR⟩
  · have h0 : len i - st i = 0 := h0
    omega
  · have h1 := (hVR.vc a ha).1
    rw [Nat.zero_add] at h1
    exact ⟨_, gc, by rw [cell_row hg, (hca i hi).1, hsv], h1⟩
theorem KSt.cellf {C cap : Nat} (h : KSt w B (.slice (some ⟨C, 0, none⟩) N cap) N len t st) {i : Nat} (hi : i < N) : w.cell? ⟨C, i * 8 + 7, none⟩ = some (.int .u64 (flo t st i)) := by
  obtain ⟨sv, hCR, hVV, _⟩ := h
  rcases hCR with ⟨h0, _⟩ | ⟨C', cap', cur, e, _, _, _, hg, _, hca⟩
  · omega
  cases e
  rw [cell_row hg]
  exact (hca i hi).2.2.2.2.2
end

theorem chainLen_any (B S N i : Nat) {l0 l4 : Int} {I M : Nat} {cv : Value} {len : Nat → Nat} {t : Nat → Nat → Int} {st : Nat → Nat} {pd : Int → Option (List Int)} {lk : Int → Option Value} {ps : List Int} {pv : Value} (w : World) (h : SMx w B S l0 l4 I M cv N len t st pd lk ps pv) (hi : i < N) (hN : N ≤ 65536) :
    Calls Try.prog 10 #[.pointer (some ⟨S, 0, none⟩), .int .i64 i] w fun e w' => e = .returned (.int .i64 (len i - st i : Nat)) ∧ w' = w := by
  obtain ⟨C, cap, rfl, hc⟩ := KSt.row h.k (by omega)
  obtain ⟨a, gc, h1⟩ := KSt.cellv h.k hi
  have c7 : w.cell? ⟨S, 7, none⟩ = some (.slice (some ⟨C, 0, none⟩) N cap) := h.s.cell 7
  obtain ⟨m, hm⟩ : ∃ m, len i - st i = m := ⟨_, rfl⟩
  rw [hm] at h1 ⊢
  clear hm h
  go_enter Try.func10, Try.ntmps10
  go_wp2
  go_ret
  exact ⟨rfl, rfl⟩

theorem chainTime_any (B S N i a : Nat) {l0 l4 : Int} {I M : Nat} {cv : Value} {len : Nat → Nat} {t : Nat → Nat → Int} {st : Nat → Nat} {pd : Int → Option (List Int)} {lk : Int → Option Value} {ps : List Int} {pv : Value} (w : World) (h : SMx w B S l0 l4 I M cv N len t st pd lk ps pv) (hi : i < N) (hN : N ≤ 65536) (ha : a < len i - st i) (hl : len i ≤ 1048576) :
    Calls Try.prog 11 #[.pointer (some ⟨S, 0, none⟩), .int .i64 i, .int .i64 a] w fun e w' => e = .returned (.int .u64 (t i (st i + a))) ∧ w' = w := by
  obtain ⟨C, cap, rfl, hc⟩ := KSt.row h.k (by omega)
  obtain ⟨g, gc, h1, h2⟩ := KSt.cellt h.k hi ha
  have c7 : w.cell? ⟨S, 7, none⟩ = some (.slice (some ⟨C, 0, none⟩) N cap) := h.s.cell 7
  obtain ⟨m, hm⟩ : ∃ m, len i - st i = m := ⟨_, rfl⟩
  obtain ⟨v, hv⟩ : ∃ v, t i (st i + a) = v := ⟨_, rfl⟩
  have hm1 : m ≤ 1048576 := by omega
  rw [hm] at h1 ha
  rw [hv] at h2 ⊢
  clear hm hv h hl
  go_enter Try.func11, Try.ntmps11
  go_wp2
  go_ret
  exact ⟨rfl, rfl⟩

theorem chainFloor_any (B S N i : Nat) {l0 l4 : Int} {I M : Nat} {cv : Value} {len : Nat → Nat} {t : Nat → Nat → Int} {st : Nat → Nat} {pd : Int → Option (List Int)} {lk : Int → Option Value} {ps : List Int} {pv : Value} (w : World) (h : SMx w B S l0 l4 I M cv N len t st pd lk ps pv) (hi : i < N) (hN : N ≤ 65536) :
    Calls Try.prog 12 #[.pointer (some ⟨S, 0, none⟩), .int .i64 i] w fun e w' => e = .returned (.int .u64 (flo t st i)) ∧ w' = w := by
  obtain ⟨C, cap, rfl, hc⟩ := KSt.row h.k (by omega)
  have h1 := KSt.cellf h.k hi
  have c7 : w.cell? ⟨S, 7, none⟩ = some (.slice (some ⟨C, 0, none⟩) N cap) := h.s.cell 7
  obtain ⟨v, hv⟩ : ∃ v, flo t st i = v := ⟨_, rfl⟩
  rw [hv] at h1 ⊢
  clear hv h
  go_enter Try.func12, Try.ntmps12
  go_wp2
  go_ret
  exact ⟨rfl, rfl⟩

theorem due_any (B S N : Nat) {l0 l4 : Int} {I M : Nat} {cv : Value} {len : Nat → Nat} {t : Nat → Nat → Int} {st : Nat → Nat} {pd : Int → Option (List Int)} {lk : Int → Option Value} {ps : List Int} {pv : Value} (w : World) (h : SMx w B S l0 l4 I M cv N len t st pd lk ps pv) :
    Calls Try.prog 14 #[.pointer (some ⟨S, 0, none⟩)] w fun e w' => e = .returned (.int .u64 (dueOf ps)) ∧ w' = w := by
  have c10 : w.cell? ⟨S, 10, none⟩ = some (.int .u64 (dueOf ps)) := h.s.cell 10
  obtain ⟨v, hv⟩ : ∃ v, dueOf ps = v := ⟨_, rfl⟩
  rw [hv] at c10 ⊢
  clear hv h
  go_enter Try.func14, Try.ntmps14
  go_wp2_with fail
  refine (load_any S 10 v w c10).mono ?_
  rintro e w ⟨rfl, rfl⟩
  go_wp2
  go_ret
  exact ⟨rfl, rfl⟩

theorem zzprune_any (B S I M N : Nat) (cv : Value) (len : Nat → Nat) (t : Nat → Nat → Int) (s0 : Nat → Nat) (h : Int) (pd : Int → Option (List Int)) (lk : Int → Option Value) (ps : List Int) (pv : Value) (w : World) (hBw : B ≤ w.heap.size) (hBS : B ≤ S) (hBM : B ≤ M) (hR : Rows N len t)
    (hSM : SMx w B S 0 0 I M cv N len t s0 pd lk ps pv) (hPI : PI N len t s0 pd ps) :
    Calls Try.prog 8 #[.pointer (some ⟨S, 0, none⟩), .int .u64 h] w fun e w' => PRd B S I M cv N len t s0 h w e w' := by
  have H := Prune_any B S I M N cv len t s0 h pd lk ps pv w hBw hBS hBM hR hSM hPI
  clear hSM hPI hR
  go_enter Try.func8, Try.ntmps8
  go_wp2_with fail
  refine H.mono ?_
  intro e w' hp
  have he : e = .returned (.tuple #[]) := hp.1
  subst he
  have HP := hide hp
  clear hp H
  go_wp2
  first | go_end0 | refine bodyPost_ret (results_none rfl _ _ _) rfl ?_
  exact HP.out

theorem zzqueue_any (B S N i : Nat) (n : Nat → Nat) (T X : Nat → Nat → Int) (fl : Nat → Int) (l0 l4 : Int) (I M : Nat) (cv pv : Value) (ps : List Int) (pd : Int → Option (List Int)) (lk : Int → Option Value) (w : World) (hBw : B ≤ w.heap.size)
    (hST : ST w S l0 l4 I M cv pv (dueOf ps)) (hKS : KS w B cv N n T X fl) (hPD : PDl w B M pd lk) (hPR : RT 42 .u64 w B pv ps) (hSor : Sor ps) (hper : ∀ q ∈ ps, Per q) (hi : i < N) (m : Nat) (hm : n i = m) (hm1 : 1 ≤ m) (hm2 : m ≤ 1048576)
    (t : Int) (ht : T i (m / 2) = t) (ht0 : 0 ≤ t) (ht1 : t ≤ 18446744073709551615) (hlp : ps.length ≤ 1048575) (hlg : ∀ is, pd (per t) = some is → is.length ≤ 1048576) :
    Calls Try.prog 18 #[.pointer (some ⟨S, 0, none⟩), .int .i64 i] w fun e w' => QR B S M I l0 l4 cv pd lk ps (per t) i w e w' := by
  have H := queue_any B S N i n T X fl l0 l4 I M cv pv ps pd lk w hBw hST hKS hPD hPR hSor hper hi m hm hm1 hm2 t ht ht0 ht1 hlp hlg
  clear hST hKS hPD hPR hSor hper hm ht hlg
  go_enter Try.func18, Try.ntmps18
  go_wp2_with fail
  refine H.mono ?_
  intro e w' hp
  have he : e = .returned (.tuple #[]) := hp.1
  subst he
  have HP := hide hp
  clear hp H
  go_wp2
  first | go_end0 | refine bodyPost_ret (results_none rfl _ _ _) rfl ?_
  exact HP.out

end Go.Proofs.Qxb6630565a
