/-
  THE STORE IN MEMORY at the end of a round of Prune.
-/
import Derived.Test.Qxb6630565aX
namespace Go.Proofs.Qxb6630565a
open Go.ChangeShapes Go.WideShapes Go.ChangeAt Go.RowKit

theorem zc3_len (m : Nat) : (Builtin.zeroCells #[.int .i64 0] m).toList.length = m := by
  rw [Array.length_toList, size_zeroCells]
  simp
theorem zc3_one (m : Nat) : ∀ v ∈ (Builtin.zeroCells #[.int .i64 0] m).toList, v.oneCell' = true := by
  intro v hv
  simp [Builtin.zeroCells] at hv
  obtain ⟨j, _, rfl⟩ := hv
  rw [Nat.mod_one]
  rfl

theorem clear3 (w : World) (ty : TypeId) (g o m c : Nat) (cur : Array Value) (hg : w.heap[g]? = some (.cells cur 3 (0, 0))) (hm : 0 < m) (hfit : o + m ≤ cur.size) :
    ∃ cs : Array Value, cs.size = cur.size ∧ (∀ j, o + m ≤ j → cs[j]? = cur[j]?) ∧ (Builtin.clear_ #[36] ty #[.slice (some ⟨g, o, none⟩) m c]).run Try.prog w = .ok (.tuple #[]) (w.setRow g cs) := by
  obtain ⟨m', rfl⟩ : ∃ m', m = m' + 1 := ⟨m - 1, by omega⟩
  have hl := zc3_len (m' + 1)
  have ho := zc3_one (m' + 1)
  obtain ⟨Z, hZ⟩ : ∃ Z, (Builtin.zeroCells #[.int .i64 0] (m' + 1)).toList = Z := ⟨_, rfl⟩
  rw [hZ] at hl ho
  have hst := run_storeCells_at Try.prog g o 3 Z 0 cur w hg (by rw [hl]; omega) ho
  simp only [Nat.add_zero] at hst
  have hz : (zeroValue 3).run Try.prog w = .ok (.int .i64 0) w := Try.zeroValue3 w
  refine ⟨(cur.toList.take o ++ Z ++ cur.toList.drop (o + Z.length)).toArray, ?_, ?_, ?_⟩
  · rw [List.size_toArray, List.length_append, List.length_append, hl, List.length_take, List.length_drop, Array.length_toList]
    omega
  · intro j hj
    have hlen : (cur.toList.take o ++ Z).length = o + (m' + 1) := by rw [List.length_append, List.length_take, Array.length_toList, hl]; omega
    rw [List.getElem?_toArray, List.getElem?_append_right (by rw [hlen]; exact hj), hlen, List.getElem?_drop, Array.getElem?_toList, hl, show o + (m' + 1) + (j - (o + (m' + 1))) = j by omega]
  · simp [Builtin.clear_, run_underlying Try.underlying36, Value.cells, hZ, hst, hz]

section
variable {w w' : World} {B S : Nat} {l0 l4 : Int} {I M : Nat} {cv : Value} {N : Nat} {len : Nat → Nat} {t : Nat → Nat → Int} {st : Nat → Nat} {pd : Int → Option (List Int)} {lk : Int → Option Value} {ps : List Int} {pv : Value} {p0 : Int} {G o L cap n : Nat} {is : List Int}

theorem RT.tail {e : TypeId} {k : IntKind} {x : Int} {xs : List Int} {P c : Nat} (h : RT e k w B (.slice (some ⟨P, o, none⟩) n c) (x :: xs)) : RT e k w B (.slice (some ⟨P, o + 1, none⟩) (n - 1) (c - 1)) xs ∧ (c = 1 → RT e k w B (.slice (some ⟨P, o, none⟩) (n - 1) 0) xs) := by
  rcases h with ⟨h0, _⟩ | ⟨P', o', cap, cur, h0, hb, hg, hf, h1, h2, hc⟩
  · cases h0
  · cases h0
    simp only [List.length_cons] at h1 hc
    refine ⟨.inr ⟨P, o + 1, c - 1, cur, by simp, hb, hg, by omega, by omega, by omega, fun j hj => ?_⟩, fun e => ?_⟩
    · have := hc (j + 1) (by omega)
      rw [show o + (j + 1) = o + 1 + j by omega] at this
      simpa using this
    · have hx : xs = [] := by cases xs with | nil => rfl | cons y ys => simp only [List.length_cons] at h1; omega
      subst hx
      exact .inr ⟨P, o, 0, cur, by simp, hb, hg, by omega, by simp, by omega, fun j hj => by simp at hj⟩

theorem ST.other (h : ST w S l0 l4 I M cv pv (dueOf ps)) {g : Nat} (ht : Typ w g 3) : g ≠ S := fun e => by
  subst e
  cases ht.inj h.typ

theorem clr_mem (h : SMx w B S l0 l4 I M cv N len t st pd lk ps pv) (hl : lk p0 = some (.slice (some ⟨G, o, none⟩) L cap)) (hp : pd p0 = some is) (hn1 : 1 ≤ n) (hn : n ≤ is.length) (ty : TypeId) (cc : Nat) :
    ∃ w1, (Builtin.clear_ #[36] ty #[.slice (some ⟨G, o, none⟩) n cc]).run Try.prog w = .ok (.tuple #[]) w1 ∧ Fr (· = G) w w1 ∧ (n < is.length → RT 3 .i64 w1 B (.slice (some ⟨G, o + n, none⟩) (L - n) (cap - n)) (is.drop n)) ∧ Typ w G 3 ∧ B ≤ G := by
  have hr := h.d.2.2.1 p0 _ is hl hp
  rcases hr with ⟨_, h0⟩ | ⟨P', o', cap', cur, h0, hb, hg, hf, h1, h2, hc⟩
  · cases h0
  · cases h0
    obtain ⟨cs, hs, hcs, hrun⟩ := clear3 w ty G o n cc cur hg (by omega) (by omega)
    refine ⟨_, hrun, (Fr.refl (· = G) w).setRow (g := G) rfl _, fun hlt => ?_, ⟨_, _, hg⟩, hb⟩
    refine .inr ⟨G, o + n, cap - n, cs, by simp, hb, setRow_heap w G cur cs 3 (0, 0) hg, by omega, by simp; omega, by omega, fun j hj => ?_⟩
    rw [List.length_drop] at hj
    rw [hcs _ (by omega), show o + n + j = o + (n + j) by omega, hc (n + j) (by omega)]
    simp

theorem left_mem (h : SMx w B S l0 l4 I M cv N len t st pd lk ps pv) (hl : lk p0 = some (.slice (some ⟨G, o, none⟩) L cap)) (hp : pd p0 = some is) (hn1 : 1 ≤ n) (hn : n < is.length) (ty : TypeId) (cc : Nat) :
    ∃ w1, (Builtin.clear_ #[36] ty #[.slice (some ⟨G, o, none⟩) n cc]).run Try.prog w = .ok (.tuple #[]) w1 ∧ ST w1 S l0 l4 I M cv pv (dueOf ps) ∧ B ≤ G ∧ ∃ w2, (Instr.mapUpdate 64 (.map (some M)) (.int .u64 p0) (.slice (some ⟨G, o + n, none⟩) (L - n) (cap - n))).run Try.prog w1.drew = .ok () w2 ∧
      SMx w2 B S l0 l4 I M cv N len t st (pdx pd p0 (is.drop n)) (fun q => if q = p0 then some (.slice (some ⟨G, o + n, none⟩) (L - n) (cap - n)) else lk q) ps pv ∧ Fr (fun b => b = G ∨ b = M) w w2 := by
  obtain ⟨w1, hc, hf, hr, hT, hb⟩ := clr_mem h hl hp hn1 (Nat.le_of_lt hn) ty cc
  have hr := hr hn
  have hGM : G ≠ M := fun e => h.d.1.noTyp (e ▸ hT)
  have hGS : G ≠ S := h.s.other hT
  have hs1 : ST w1 S l0 l4 I M cv pv (dueOf ps) := h.s.fr hf (fun e => hGS (Eq.symm e))
  refine ⟨w1, hc, hs1, hb, ?_⟩
  have hM1 : MP w1.drew M lk := h.d.1.fr hf.drew (fun e => hGM (Eq.symm e))
  obtain ⟨w2, hu, hM2, hf2⟩ := update_u64 w1.drew M lk hM1 p0 (.slice (some ⟨G, o + n, none⟩) (L - n) (cap - n))
  have hF : Fr (fun b => b = G ∨ b = M) w w2 := (hf.drew.mono fun _ => Or.inl).trans (hf2.mono fun _ => Or.inr)
  have hP2 : PDl w2 B M (pdx pd p0 (is.drop n)) (fun q => if q = p0 then some (.slice (some ⟨G, o + n, none⟩) (L - n) (cap - n)) else lk q) := by
    refine group_row h.d.2.1 h.d.2.2.1 h.d.2.2.2 hM2 ?_ hF (fun b hbb ht => ?_) (.inl ?_)
    · have hr1 : RT 3 .i64 w1.drew B (.slice (some ⟨G, o + n, none⟩) (L - n) (cap - n)) (is.drop n) := hr.fr (Fr.refl (fun _ => False) w1).drew (fun _ _ h => h)
      exact hr1.fr hf2 (fun g hg e => by cases hg; exact hGM e)
    · rcases hbb with rfl | rfl
      · exact ⟨_, hl, rfl⟩
      · exact (h.d.1.noTyp ht).elim
    · rw [hl]
      rfl
  refine ⟨w2, hu, ⟨h.s.fr hF (fun e => ?_), KS.fr h.k hF (fun b hbb e => ?_), hP2, h.r.fr hF (fun g hg e => ?_)⟩, hF⟩
  · rcases e with e | e
    · exact hGS e.symm
    · exact h.MS e.symm
  · rcases e with rfl | rfl
    · rcases hbb.2 with h1 | h1 <;> cases h1.inj hT
    · rcases hbb.2 with h1 | h1 <;> exact h.d.1.noTyp h1
  · rcases e with rfl | rfl
    · cases (h.r.typ hg).2.inj hT
    · exact h.d.1.noTyp (h.r.typ hg).2

theorem none_mem (h : SMx w B S l0 l4 I M cv N len t st pd lk ps pv) (hl : lk p0 = some (.slice (some ⟨G, o, none⟩) L cap)) (hp : pd p0 = some is) (hn1 : 1 ≤ n) (hn : n = is.length) (ty ty2 : TypeId) (cc : Nat) :
    ∃ w1, (Builtin.clear_ #[36] ty #[.slice (some ⟨G, o, none⟩) n cc]).run Try.prog w = .ok (.tuple #[]) w1 ∧ ST w1 S l0 l4 I M cv pv (dueOf ps) ∧ B ≤ G ∧ ∃ w2, (Builtin.delete_ #[64, 42] ty2 #[.map (some M), .int .u64 p0]).run Try.prog w1 = .ok (.tuple #[]) w2 ∧
      SMx w2 B S l0 l4 I M cv N len t st (pdn pd p0) (fun q => if q = p0 then none else lk q) ps pv ∧ Fr (fun b => b = G ∨ b = M) w w2 := by
  obtain ⟨w1, hc, hf, _, hT, hb⟩ := clr_mem h hl hp hn1 (Nat.le_of_eq hn) ty cc
  have hGM : G ≠ M := fun e => h.d.1.noTyp (e ▸ hT)
  have hGS : G ≠ S := h.s.other hT
  have hs1 : ST w1 S l0 l4 I M cv pv (dueOf ps) := h.s.fr hf (fun e => hGS (Eq.symm e))
  refine ⟨w1, hc, hs1, hb, ?_⟩
  have hM1 : MP w1 M lk := h.d.1.fr hf (fun e => hGM (Eq.symm e))
  obtain ⟨w2, hu, hM2, hf2⟩ := delete_u64 w1 M lk hM1 p0 ty2
  have hF : Fr (fun b => b = G ∨ b = M) w w2 := (hf.mono fun _ => Or.inl).trans (hf2.mono fun _ => Or.inr)
  have hP2 : PDl w2 B M (pdn pd p0) (fun q => if q = p0 then none else lk q) := by
    refine ⟨hM2, fun q => ?_, fun q v js hv hq => ?_, fun q q2 v u g hv hu hg hg2 => ?_⟩
    · unfold pdn
      by_cases e : q = p0
      · simp [e]
      · simp only [if_neg e]
        exact h.d.2.1 q
    · unfold pdn at hq
      by_cases e : q = p0
      · simp only [if_pos e] at hv
        cases hv
      · simp only [if_neg e] at hv hq
        refine (h.d.2.2.1 q v js hv hq).fr hF fun g hg hbb => ?_
        rcases hbb with rfl | rfl
        · exact e (h.d.2.2.2 q p0 v _ g hv hl hg rfl)
        · exact h.d.1.noTyp ((h.d.2.2.1 q v js hv hq).typ hg).2
    · by_cases e : q = p0
      · simp only [if_pos e] at hv
        cases hv
      · by_cases e2 : q2 = p0
        · simp only [if_pos e2] at hu
          cases hu
        · simp only [if_neg e, if_neg e2] at hv hu
          exact h.d.2.2.2 q q2 v u g hv hu hg hg2
  refine ⟨w2, hu, ⟨h.s.fr hF (fun e => ?_), KS.fr h.k hF (fun b hbb e => ?_), hP2, h.r.fr hF (fun g hg e => ?_)⟩, hF⟩
  · rcases e with e | e
    · exact hGS e.symm
    · exact h.MS e.symm
  · rcases e with rfl | rfl
    · rcases hbb.2 with h1 | h1 <;> cases h1.inj hT
    · rcases hbb.2 with h1 | h1 <;> exact h.d.1.noTyp h1
  · rcases e with rfl | rfl
    · cases (h.r.typ hg).2.inj hT
    · exact h.d.1.noTyp (h.r.typ hg).2

theorem SMx.shrink (h : SMx w B S l0 l4 I M cv N len t st pd lk ps pv) {v' : Value} {ps' : List Int} (hr : RT 42 .u64 w B v' ps') (f : Fr (· = S) w w') (hs : ST w' S l0 l4 I M cv v' (dueOf ps')) : SMx w' B S l0 l4 I M cv N len t st pd lk ps' v' := by
  have hS := h.s.typ
  refine ⟨hs, KS.fr h.k f fun b hb e => ?_, h.d.fr f (fun e => h.MS e) fun b _ ht e => ?_, hr.fr f fun g hg e => ?_⟩
  · have e : b = S := e
    subst e
    rcases hb.2 with h1 | h1 <;> cases h1.inj hS
  · have e : b = S := e
    subst e
    cases ht.inj hS
  · have e : g = S := e
    subst e
    cases (hr.typ hg).2.inj hS
end
end Go.Proofs.Qxb6630565a
