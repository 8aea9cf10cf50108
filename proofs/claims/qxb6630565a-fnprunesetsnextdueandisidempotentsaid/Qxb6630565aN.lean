/-
  THE MAP OF PENDING GROUPS: keys of the kind uint64; look-up, update, delete, from an equation on the run.
-/
import Derived.Test.Qxb6630565aM
import Derived.Maps.OwnSet
import Derived.MapKept
namespace Go.Proofs.Qxb6630565a
open Go.ChangeShapes Go.WideShapes Go.ChangeAt Go.RowKit

/-- the first entry of that key -/
def fnd (k : Int) : List (Int × Value) → Nat → Option (Nat × Value)
  | [], _ => none
  | (a, v) :: l, i => if k == a then some (i, v) else fnd k l (i + 1)

def Ents (es : List MapEntry) (L : List (Int × Value)) : Prop := es.map (fun e => (e.key, e.val)) = L.map (fun p => (Value.int .u64 p.1, p.2))

theorem fnd_now (k : Int) : ∀ (es : List MapEntry) (L : List (Int × Value)) (i : Nat), Ents es L → Instr.findNow (.int .u64) (.int .u64 k) es i = some (fnd k L i)
  | [], [], _, _ => rfl
  | [], _ :: _, _, h => by cases h
  | _ :: _, [], _, h => by cases h
  | e :: es, (a, v) :: L, i, h => by
    simp only [Ents, List.map_cons, List.cons.injEq, Prod.mk.injEq] at h
    obtain ⟨⟨h1, h2⟩, h3⟩ := h
    have ih := fnd_now k es L (i + 1) h3
    unfold Instr.findNow fnd
    rw [h1]
    cases hk : (k == a)
    · simp only [Instr.sameNow, if_true, hk, ih]
      rfl
    · simp only [Instr.sameNow, if_true, hk, h2]

theorem fnd_lookup (k : Int) : ∀ (L : List (Int × Value)) (i : Nat), (fnd k L i).map (·.2) = L.lookup k
  | [], _ => rfl
  | (a, v) :: L, i => by
    unfold fnd List.lookup
    cases hk : (k == a)
    · rw [if_neg (by simp)]
      exact fnd_lookup k L (i + 1)
    · rfl

theorem fnd_some {k : Int} : ∀ {L : List (Int × Value)} {i j : Nat} {v : Value}, fnd k L i = some (j, v) → i ≤ j ∧ L[j - i]? = some (k, v)
  | [], _, _, _, h => by cases h
  | (a, u) :: L, i, j, v, h => by
    unfold fnd at h
    cases hk : (k == a)
    · rw [hk] at h
      have ih := fnd_some h
      refine ⟨by omega, ?_⟩
      rw [show j - i = (j - (i + 1)) + 1 by omega, List.getElem?_cons_succ]
      exact ih.2
    · rw [hk] at h
      cases h
      rw [beq_iff_eq] at hk
      subst hk
      exact ⟨Nat.le_refl _, by simp⟩

theorem fnd_none {k : Int} : ∀ {L : List (Int × Value)} {i : Nat}, fnd k L i = none → ∀ p ∈ L, p.1 ≠ k
  | [], _, _, p, hp => by cases hp
  | (a, u) :: L, i, h, p, hp => by
    unfold fnd at h
    cases hk : (k == a)
    · rw [hk] at h
      rcases List.mem_cons.1 hp with rfl | hp
      · intro e
        simp [← e] at hk
      · exact fnd_none h p hp
    · rw [hk] at h
      cases h

/-- the map, told by its look-ups -/
def MP (w : World) (M : Nat) (lk : Int → Option Value) : Prop :=
  ∃ es clock L, w.heap[M]? = some (.map es clock) ∧ Ents es.toList L ∧ (L.map (·.1)).Nodup ∧ ∀ k, L.lookup k = lk k

theorem MP.fr {w w' : World} {M : Nat} {lk : Int → Option Value} (h : MP w M lk) {B : Nat → Prop} (f : Fr B w w') (hB : ¬ B M) : MP w' M lk := by
  obtain ⟨es, c, L, h1, h2⟩ := h
  exact ⟨es, c, L, f.heap hB h1, h2⟩
theorem MP.noTyp {w : World} {M : Nat} {lk : Int → Option Value} (h : MP w M lk) {t : TypeId} (k : Typ w M t) : False := by
  obtain ⟨es, c, L, h1, _⟩ := h
  obtain ⟨cs, r, h2⟩ := k
  rw [h1] at h2
  cases h2
theorem MP.made (w : World) : MP (w.alloc (.map #[] 0)) w.heap.size (fun _ => none) := ⟨#[], 0, [], heap_alloc_new _ _, rfl, List.nodup_nil, fun _ => rfl⟩

theorem checkKey_u64 (b : Bool) (k : Int) (w : World) : (Instr.checkKey b 10000 42 (.int .u64 k)).run Try.prog w = .ok () w :=
  MapKept.run_checkKey (n := 9999) Try.underlying42 (by simp [MapKept.IsKey]) b

theorem findKey_u64 (k : Int) (es : Array MapEntry) (L : List (Int × Value)) (w : World) (h : Ents es.toList L) : (Instr.findKey 42 (.int .u64 k) es.toList).run Try.prog w = .ok (fnd k L 0) w :=
  MapKept.run_findKey Try.underlying42 (fnd_now k _ _ 0 h)

theorem lookup_u64 (w : World) (M : Nat) (lk : Int → Option Value) (h : MP w M lk) (k : Int) (ok : Bool) :
    (Instr.lookup 64 (.map (some M)) (.int .u64 k) ok).run Try.prog w = .ok (if ok then .tuple #[(lk k).getD (.slice none 0 0), .bool (lk k).isSome] else (lk k).getD (.slice none 0 0)) w := by
  obtain ⟨es, c, L, h1, h2, h3, h4⟩ := h
  have hf := findKey_u64 k es L w h2
  have hl := fnd_lookup k L 0
  rw [h4 k] at hl
  have hg := MapKept.run_getObj_map (P := Try.prog) h1
  have hz : (zeroValue 36).run Try.prog w = .ok (.slice none 0 0) w := Try.zeroValue36 w
  cases hk : fnd k L 0 with
  | none =>
    rw [hk] at hl hf
    rw [← hl]
    cases ok <;> simp [Instr.lookup, run_underlying Try.underlying64, hg, checkKey_u64, hf, hz]
  | some q =>
    obtain ⟨j, v⟩ := q
    rw [hk] at hl hf
    rw [← hl]
    cases ok <;> simp [Instr.lookup, run_underlying Try.underlying64, hg, checkKey_u64, hf]

theorem Fr.setObj (w : World) (M : Nat) (o : Obj) : Fr (· = M) w { w with heap := w.heap.setIfInBounds M o } :=
  ⟨rfl, rfl, rfl, by simp, fun k _ hn => by simp [Ne.symm hn]⟩

theorem lookup_set {k k' : Int} {v : Value} : ∀ {L : List (Int × Value)} {j : Nat} {u : Value}, L[j]? = some (k, u) → (L.map (·.1)).Nodup → (L.set j (k, v)).lookup k' = if k' = k then some v else L.lookup k'
  | [], _, _, h, _ => by cases h
  | (a, b) :: L, 0, u, h, _ => by
    simp only [List.getElem?_cons_zero, Option.some.injEq, Prod.mk.injEq] at h
    obtain ⟨rfl, rfl⟩ := h
    simp only [List.set_cons_zero, List.lookup]
    by_cases e : k' = a
    · subst e
      simp
    · rw [if_neg e, beq_eq_false_iff_ne.2 e]
  | (a, b) :: L, j + 1, u, h, hd => by
    simp only [List.getElem?_cons_succ] at h
    simp only [List.map_cons, List.nodup_cons] at hd
    have hne : a ≠ k := by
      rintro rfl
      exact hd.1 (List.mem_map.2 ⟨_, List.mem_of_getElem? h, rfl⟩)
    simp only [List.set_cons_succ, List.lookup]
    rw [lookup_set h hd.2]
    by_cases e : k' = a
    · subst e
      simp [hne]
    · rw [beq_eq_false_iff_ne.2 e]

theorem lookup_snoc {k k' : Int} {v : Value} : ∀ {L : List (Int × Value)}, (∀ p ∈ L, p.1 ≠ k) → (L ++ [(k, v)]).lookup k' = if k' = k then some v else L.lookup k'
  | [], _ => by
    by_cases e : k' = k
    · simp [e]
    · rw [if_neg e]
      simp [List.lookup, beq_eq_false_iff_ne.2 e]
  | (a, b) :: L, h => by
    have hne : a ≠ k := h _ (List.mem_cons_self ..)
    have ih := lookup_snoc (k' := k') (v := v) (fun p hp => h p (List.mem_cons_of_mem _ hp))
    simp only [List.cons_append, List.lookup]
    rw [ih]
    by_cases e : k' = a
    · subst e
      simp [hne]
    · rw [beq_eq_false_iff_ne.2 e]

theorem lookup_erase {k k' : Int} : ∀ {L : List (Int × Value)} {j : Nat} {u : Value}, L[j]? = some (k, u) → (L.map (·.1)).Nodup → (L.eraseIdx j).lookup k' = if k' = k then none else L.lookup k'
  | [], _, _, h, _ => by cases h
  | (a, b) :: L, 0, u, h, hd => by
    simp only [List.getElem?_cons_zero, Option.some.injEq, Prod.mk.injEq] at h
    obtain ⟨rfl, rfl⟩ := h
    simp only [List.map_cons, List.nodup_cons] at hd
    simp only [List.eraseIdx_cons_zero, List.lookup]
    by_cases e : k' = a
    · subst e
      rw [if_pos rfl, List.lookup_eq_none_iff]
      intro p hp
      rw [bne_iff_ne]
      rintro rfl
      exact hd.1 (List.mem_map.2 ⟨_, hp, rfl⟩)
    · rw [if_neg e, beq_eq_false_iff_ne.2 e]
  | (a, b) :: L, j + 1, u, h, hd => by
    simp only [List.getElem?_cons_succ] at h
    simp only [List.map_cons, List.nodup_cons] at hd
    have hne : a ≠ k := by
      rintro rfl
      exact hd.1 (List.mem_map.2 ⟨_, List.mem_of_getElem? h, rfl⟩)
    simp only [List.eraseIdx_cons_succ, List.lookup]
    rw [lookup_erase h hd.2]
    by_cases e : k' = a
    · subst e
      simp [hne]
    · rw [beq_eq_false_iff_ne.2 e]

theorem map_eraseIdx' {α β : Type} (f : α → β) : ∀ (l : List α) (j : Nat), (l.eraseIdx j).map f = (l.map f).eraseIdx j
  | [], _ => rfl
  | _ :: _, 0 => rfl
  | a :: l, j + 1 => by simp [map_eraseIdx' f l j]

theorem update_u64 (w : World) (M : Nat) (lk : Int → Option Value) (h : MP w M lk) (k : Int) (v : Value) :
    ∃ w', (Instr.mapUpdate 64 (.map (some M)) (.int .u64 k) v).run Try.prog w = .ok () w' ∧ MP w' M (fun k' => if k' = k then some v else lk k') ∧ Fr (· = M) w w' := by
  obtain ⟨es, c, L, h1, h2, h3, h4⟩ := h
  have hf := findKey_u64 k es L w h2
  have hg := MapKept.run_getObj_map (P := Try.prog) h1
  cases hk : fnd k L 0 with
  | none =>
    rw [hk] at hf
    have hn := fnd_none hk
    have hs := MapKept.run_setObj_map (P := Try.prog) (.map (es.push { key := .int .u64 k, val := v, born := c }) (c + 1)) h1
    refine ⟨_, by simp [Instr.mapUpdate, run_underlying Try.underlying64, hg, checkKey_u64, hf, hs], ?_, Fr.setObj w M (.map (es.push { key := .int .u64 k, val := v, born := c }) (c + 1))⟩
    refine ⟨_, _, L ++ [(k, v)], (MapKept.heap_set h1).1, ?_, ?_, fun k' => ?_⟩
    · show Ents (es.push _).toList _
      rw [Array.toList_push]
      show List.map _ (_ ++ _) = List.map _ (_ ++ _)
      rw [List.map_append, List.map_append, h2]
      rfl
    · rw [List.map_append, List.nodup_append]
      refine ⟨h3, by simp, fun a ha b hb => ?_⟩
      obtain ⟨p, hp, rfl⟩ := List.mem_map.1 ha
      simp only [List.map_cons, List.map_nil, List.mem_singleton] at hb
      rw [hb]
      exact hn p hp
    · rw [lookup_snoc hn, h4]
  | some q =>
    obtain ⟨j, u⟩ := q
    rw [hk] at hf
    have hj := (fnd_some hk).2
    rw [Nat.sub_zero] at hj
    have hje : (es[j]?).map (·.key) = some (.int .u64 k) := by
      have h5 := congrArg (fun l => l[j]?) h2
      simp only [List.getElem?_map, hj, Option.map_some, Array.getElem?_toList] at h5
      cases hq : es[j]? with
      | none => rw [hq] at h5; cases h5
      | some e0 =>
        rw [hq] at h5
        simp only [Option.map_some, Option.some.injEq, Prod.mk.injEq] at h5
        simp [h5.1]
    have hks : (Instr.keyThatStays (((es[j]?).map (·.key)).getD (.int .u64 k)) (.int .u64 k)).run Try.prog w = .ok (.int .u64 k) w := by
      rw [hje]
      simp [Instr.keyThatStays, Instr.sameBits]
    have hs := MapKept.run_setObj_map (P := Try.prog) (.map (es.modify j fun e => { e with key := .int .u64 k, val := v }) c) h1
    refine ⟨_, by simp [Instr.mapUpdate, run_underlying Try.underlying64, hg, checkKey_u64, hf, hks, hs], ?_, Fr.setObj w M (.map (es.modify j fun e => { e with key := .int .u64 k, val := v }) c)⟩
    refine ⟨_, _, L.set j (k, v), (MapKept.heap_set h1).1, ?_, ?_, fun k' => ?_⟩
    · show List.map _ _ = List.map _ _
      apply List.ext_getElem?
      intro q
      have h5 := congrArg (fun l => l[q]?) h2
      simp only [List.getElem?_map] at h5 ⊢
      by_cases e : q = j
      · subst e
        have hlt : q < L.length := (List.getElem?_eq_some_iff.1 hj).1
        have hlt2 : q < es.size := by
          cases hq : es[q]? with
          | none => rw [hq] at hje; cases hje
          | some e0 => exact (Array.getElem?_eq_some_iff.1 hq).1
        simp [hlt, hlt2]
      · rw [List.getElem?_set_ne (Ne.symm e), ← h5]
        simp [Ne.symm e]
    · rw [List.map_set]
      have : (L.map (·.1)).set j k = L.map (·.1) := by
        apply List.ext_getElem?
        intro q
        by_cases e : q = j
        · subst e
          have hlt : q < L.length := (List.getElem?_eq_some_iff.1 hj).1
          rw [List.getElem?_set_self (by simpa using hlt), List.getElem?_map, hj]
          rfl
        · rw [List.getElem?_set_ne (Ne.symm e)]
      rw [this]
      exact h3
    · rw [lookup_set hj h3, h4]

theorem delete_u64 (w : World) (M : Nat) (lk : Int → Option Value) (h : MP w M lk) (k : Int) (ty : TypeId) :
    ∃ w', (Builtin.delete_ #[64, 42] ty #[.map (some M), .int .u64 k]).run Try.prog w = .ok (.tuple #[]) w' ∧ MP w' M (fun k' => if k' = k then none else lk k') ∧ Fr (· = M) w w' := by
  obtain ⟨es, c, L, h1, h2, h3, h4⟩ := h
  have hf := findKey_u64 k es L w h2
  have hg := MapKept.run_getObj_map (P := Try.prog) h1
  cases hk : fnd k L 0 with
  | none =>
    rw [hk] at hf
    have hn := fnd_none hk
    have hs := MapKept.run_setObj_map (P := Try.prog) (.map es c) h1
    refine ⟨_, by simp [Builtin.delete_, run_underlying Try.underlying64, hg, checkKey_u64, hf, hs], ?_, Fr.setObj w M (.map es c)⟩
    refine ⟨_, _, L, (MapKept.heap_set h1).1, h2, h3, fun k' => ?_⟩
    show _ = if k' = k then none else lk k'
    by_cases e : k' = k
    · rw [if_pos e, List.lookup_eq_none_iff]
      intro p hp
      rw [bne_iff_ne, e]
      exact (hn p hp).symm
    · rw [if_neg e, h4]
  | some q =>
    obtain ⟨j, u⟩ := q
    rw [hk] at hf
    have hj := (fnd_some hk).2
    rw [Nat.sub_zero] at hj
    have hs := MapKept.run_setObj_map (P := Try.prog) (.map (es.eraseIdxIfInBounds j) c) h1
    refine ⟨_, by simp [Builtin.delete_, run_underlying Try.underlying64, hg, checkKey_u64, hf, hs], ?_, Fr.setObj w M (.map (es.eraseIdxIfInBounds j) c)⟩
    refine ⟨_, _, L.eraseIdx j, (MapKept.heap_set h1).1, ?_, ?_, fun k' => ?_⟩
    · show List.map _ _ = List.map _ _
      have hl : es.toList.length = L.length := by
        have := congrArg List.length h2
        simpa using this
      have hlt : j < es.size := by
        have := (List.getElem?_eq_some_iff.1 hj).1
        rw [← hl] at this
        simpa using this
      rw [Array.toList_eraseIdxIfInBounds, map_eraseIdx', map_eraseIdx', h2]
    · rw [map_eraseIdx']
      exact h3.sublist (List.eraseIdx_sublist _ _)
    · rw [lookup_erase hj h3, h4]
end Go.Proofs.Qxb6630565a
