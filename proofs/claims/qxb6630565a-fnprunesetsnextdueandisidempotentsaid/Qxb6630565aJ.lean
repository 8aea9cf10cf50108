/-
  THE STORE's BLOCK AND ITS CHAINS; ZZaddChain, ZZappendVersion.
-/
import Derived.Test.Qxb6630565aI
namespace Go.Proofs.Qxb6630565a
open Go.ChangeShapes Go.WideShapes Go.ChangeAt Go.RowKit

abbrev sarr (l0 l4 : Int) (I M : Nat) (cv pv : Value) (due : Int) : Array Value :=
  #[.int .i32 l0, .int .u32 0, .int .u32 0, .int .u32 0, .int .i32 l4, .int .i32 0, .map (some I), cv, .map (some M), pv, .int .u64 due]
/-- the store's block -/
def ST (w : World) (S : Nat) (l0 l4 : Int) (I M : Nat) (cv pv : Value) (due : Int) : Prop := w.heap[S]? = some (.cells (sarr l0 l4 I M cv pv due) 70 (0, 0))
/-- what kind of row lies there -/
def Typ (w : World) (b : Nat) (t : TypeId) : Prop := ∃ cs fr, w.heap[b]? = some (.cells cs t fr)
theorem Typ.inj {w : World} {b : Nat} {t u : TypeId} (h : Typ w b t) (k : Typ w b u) : t = u := by
  obtain ⟨c, f, h⟩ := h
  obtain ⟨c', f', k⟩ := k
  rw [h] at k
  cases k
  rfl
theorem ST.typ {w : World} {S : Nat} {l0 l4 : Int} {I M : Nat} {cv pv : Value} {due : Int} (h : ST w S l0 l4 I M cv pv due) : Typ w S 70 := ⟨_, _, h⟩
theorem ST.fr {w w' : World} {S : Nat} {l0 l4 : Int} {I M : Nat} {cv pv : Value} {due : Int} (h : ST w S l0 l4 I M cv pv due) {P : Nat → Prop} (f : Fr P w w') (hP : ¬ P S) : ST w' S l0 l4 I M cv pv due := f.heap hP h

/-- the chains' blocks -/
def Kb (w : World) (B b : Nat) : Prop := B ≤ b ∧ (Typ w b 49 ∨ Typ w b 72)

def CA (cur : Array Value) (o : Nat) (sv : Value) (fl : Int) : Prop := cur[o]? = some sv ∧ cur[o + 1]? = some (.int .i32 0) ∧
  (∃ l0 l1 l2, cur[o + 2]? = some l0 ∧ cur[o + 3]? = some l1 ∧ cur[o + 4]? = some l2) ∧ cur[o + 5]? = some (.slice none 0 0) ∧ cur[o + 6]? = some (.slice none 0 0) ∧ cur[o + 7]? = some (.int .u64 fl)

/-- the chains' row -/
def CR (w : World) (B : Nat) (cv : Value) (N : Nat) (sv : Nat → Value) (fl : Nat → Int) : Prop :=
  (N = 0 ∧ cv = .slice none 0 0) ∨ ∃ C cap cur, cv = .slice (some ⟨C, 0, none⟩) N cap ∧ B ≤ C ∧ N ≤ cap ∧ cap ≤ maxLen ∧ w.heap[C]? = some (.cells cur 49 (0, 0)) ∧ cur.size = cap * 8 ∧ ∀ i, i < N → CA cur (i * 8) (sv i) (fl i)

/-- the chains and their versions -/
def KS (w : World) (B : Nat) (cv : Value) (N : Nat) (n : Nat → Nat) (T X : Nat → Nat → Int) (fl : Nat → Int) : Prop :=
  ∃ sv : Nat → Value, CR w B cv N sv fl ∧ (∀ i, i < N → VV w B (sv i) (n i) (T i) (X i)) ∧ ∀ i j g, i < N → j < N → (sv i).ownBlock = some g → (sv j).ownBlock = some g → i = j

theorem VV.typ {w : World} {B n : Nat} {sv : Value} {T X : Nat → Int} (h : VV w B sv n T X) {g : Nat} (hg : sv.ownBlock = some g) : B ≤ g ∧ Typ w g 72 := by
  rcases h with ⟨_, rfl⟩ | ⟨g', cap, rfl, hb, hv⟩
  · cases hg
  · cases hg
    obtain ⟨cur, h1, _⟩ := hv.row
    exact ⟨hb, cur, _, h1⟩

theorem CR.fr {w w' : World} {B N : Nat} {cv : Value} {sv : Nat → Value} {fl : Nat → Int} (h : CR w B cv N sv fl) {P : Nat → Prop} (f : Fr P w w') (hP : ∀ b, B ≤ b → Typ w b 49 → ¬ P b) : CR w' B cv N sv fl := by
  rcases h with h | ⟨C, cap, cur, h1, h2, h3, h4, h5, h6⟩
  · exact .inl h
  · exact .inr ⟨C, cap, cur, h1, h2, h3, h4, f.heap (hP C h2 ⟨_, _, h5⟩) h5, h6⟩

theorem KS.fr {w w' : World} {B N : Nat} {cv : Value} {n : Nat → Nat} {T X : Nat → Nat → Int} {fl : Nat → Int} (h : KS w B cv N n T X fl) {P : Nat → Prop} (f : Fr P w w') (hP : ∀ b, Kb w B b → ¬ P b) : KS w' B cv N n T X fl := by
  obtain ⟨sv, h1, h2, h3⟩ := h
  refine ⟨sv, h1.fr f fun b hb ht => hP b ⟨hb, .inl ht⟩, fun i hi => (h2 i hi).fr f fun g hg => ?_, h3⟩
  have := (h2 i hi).typ hg
  exact hP g ⟨this.1, .inr this.2⟩

theorem KS.congr {w : World} {B N : Nat} {cv : Value} {n n' : Nat → Nat} {T X : Nat → Nat → Int} {fl : Nat → Int} (h : KS w B cv N n T X fl) (hn : ∀ i, i < N → n' i = n i) : KS w B cv N n' T X fl := by
  obtain ⟨sv, h1, h2, h3⟩ := h
  exact ⟨sv, h1, fun i hi => by rw [hn i hi]; exact h2 i hi, h3⟩

theorem VR.moved {w : World} {g cap n : Nat} {T X T' X' : Nat → Int} (h : VR w g cap n T X) (hT : ∀ i, i < n → T' i = T i) (hX : ∀ i, i < n → X' i = X i) : VR w g cap n T' X' :=
  ⟨h.row, h.len, h.cap, fun i hi => by rw [hT i hi, hX i hi]; exact h.vc i hi⟩

/-! ### ZZaddChain -/
abbrev ch0 : Array Value := #[.slice none 0 0, .int .i32 0, .int .u64 0, .int .u64 0, .int .i64 0, .slice none 0 0, .slice none 0 0, .int .u64 0]
def EncC (xs : List Value) (N : Nat) (sv : Nat → Value) (fl : Nat → Int) : Prop := ∀ i, i < N → CA xs.toArray (i * 8) (sv i) (fl i)

theorem CR.own {w : World} {B N : Nat} {cv : Value} {sv : Nat → Value} {fl : Nat → Int} (h : CR w B cv N sv fl) : ∃ xs, w.ownsRow B 49 8 cv N xs ∧ EncC xs N sv fl := by
  rcases h with ⟨rfl, rfl⟩ | ⟨C, cap, cur, rfl, hb, hl, hc, hg, hsz, hca⟩
  · exact ⟨[], World.ownsRow_nil _ _ _ _, fun i hi => by omega⟩
  · refine ⟨cur.toList.take (N * 8), ⟨by rw [List.length_take, Array.length_toList, hsz]; omega, .inr ⟨C, cap, cur, rfl, hb, hg, hl, hc, hsz, rfl⟩⟩, fun i hi => ?_⟩
    have f : ∀ r, r < 8 → (cur.toList.take (N * 8)).toArray[i * 8 + r]? = cur[i * 8 + r]? := fun r hr => by
      rw [List.getElem?_toArray, List.getElem?_take, if_pos (by omega), Array.getElem?_toList]
    obtain ⟨a, b, ⟨l0, l1, l2, c, d, e⟩, k, m, q⟩ := hca i hi
    exact ⟨(f 0 (by omega)).trans a, (f 1 (by omega)).trans b, ⟨l0, l1, l2, (f 2 (by omega)).trans c, (f 3 (by omega)).trans d, (f 4 (by omega)).trans e⟩, (f 5 (by omega)).trans k, (f 6 (by omega)).trans m, (f 7 (by omega)).trans q⟩

theorem CR.of_own {w : World} {B C cap N : Nat} {xs : List Value} {sv : Nat → Value} {fl : Nat → Int} (h : w.ownsRow B 49 8 (.slice (some ⟨C, 0, none⟩) N cap) N xs) (he : EncC xs N sv fl) : CR w B (.slice (some ⟨C, 0, none⟩) N cap) N sv fl := by
  rcases h.2 with ⟨h1, _⟩ | ⟨g', cap', cur, h1, hb, hg, hl, hc, hsz, htk⟩
  · cases h1
  · cases h1
    refine .inr ⟨C, cap, cur, rfl, hb, hl, hc, hg, hsz, fun i hi => ?_⟩
    have f : ∀ j v, xs.toArray[j]? = some v → cur[j]? = some v := fun j v hv => by
      rw [List.getElem?_toArray, ← htk, List.getElem?_take] at hv
      split at hv
      · rw [← Array.getElem?_toList]
        exact hv
      · cases hv
    obtain ⟨a, b, ⟨l0, l1, l2, c, d, e⟩, k, m, q⟩ := he i hi
    exact ⟨f _ _ a, f _ _ b, ⟨l0, l1, l2, f _ _ c, f _ _ d, f _ _ e⟩, f _ _ k, f _ _ m, f _ _ q⟩

theorem EncC.snoc {xs : List Value} {N : Nat} {sv sv' : Nat → Value} {fl : Nat → Int} (h : EncC xs N sv fl) (hl : xs.length = N * 8) (hs : ∀ i, i < N → sv' i = sv i) (hN : sv' N = .slice none 0 0) (hf : fl N = 0) : EncC (xs ++ ch0.toList) (N + 1) sv' fl := by
  intro i hi
  rcases Nat.lt_or_ge i N with h1 | h1
  · rw [hs i h1]
    have f : ∀ j v, xs.toArray[j]? = some v → (xs ++ ch0.toList).toArray[j]? = some v := fun j v hv => by
      rw [List.getElem?_toArray] at hv ⊢
      rw [List.getElem?_append_left (List.getElem?_eq_some_iff.1 hv).1]
      exact hv
    obtain ⟨a, b, ⟨l0, l1, l2, c, d, e⟩, k, m, q⟩ := h i h1
    exact ⟨f _ _ a, f _ _ b, ⟨l0, l1, l2, f _ _ c, f _ _ d, f _ _ e⟩, f _ _ k, f _ _ m, f _ _ q⟩
  · obtain rfl : i = N := by omega
    rw [hN, hf]
    have f : ∀ r, r < 8 → (xs ++ ch0.toList).toArray[i * 8 + r]? = ch0[r]? := fun r hr => by
      rw [List.getElem?_toArray, List.getElem?_append_right (by omega), hl, Array.getElem?_toList]
      congr 1
      omega
    exact ⟨f 0 (by omega), f 1 (by omega), ⟨_, _, _, f 2 (by omega), f 3 (by omega), f 4 (by omega)⟩, f 5 (by omega), f 6 (by omega), f 7 (by omega)⟩
end Go.Proofs.Qxb6630565a
