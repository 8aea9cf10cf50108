/-
  THE WALKS of TradingDays.After and of ZZnewTradingDays; the empty slices.
-/
import Derived.Test.Qxb6630672aWalksB
namespace Go.Proofs.Qxb6630672a
open Go.ChangeShapes Go.WideShapes Go.ChangeAt Go.RowKit

theorem nth_empty (a : Option Addr) (c : Nat) (d m : Int) (w : World) :
    Calls Try.prog 9 #[.slice a 0 c, .int .i64 d, .int .i64 m, .bool false, .int .i64 0] w fun e w' => e = .returned (.bool true) ∧ w' = w := by
  by_cases hm : 1 ≤ m
  · have hm0 : decide (m ≤ 0) = false := decide_eq_false (by omega)
    go_enter Try.func9, Try.ntmps9
    go_wp2
    refine wp_loop_rounds 1 ?_
    rw [rounds_succ]
    go_wp2
    go_ret
    exact ⟨rfl, rfl⟩
  · go_enter Try.func9, Try.ntmps9
    go_wp2
    refine wp_loop_rounds 1 ?_
    rw [rounds_succ]
    go_wp2
    go_ret
    exact ⟨rfl, rfl⟩

theorem search_empty (a : Option Addr) (c : Nat) (d : Int) (w : World) :
    Calls Try.prog 12 #[.slice a 0 c, .agg #[.int .i64 d], .func (.func 13) #[] #[]] w fun e w' => e = .returned (.tuple #[.int .i64 0, .bool false]) ∧ Below w.heap.size w w' := by
  go_enter Try.func12, Try.ntmps12
  go_wp2
  refine wp_loop_rounds 1 ?_
  rw [rounds_succ]
  go_upto_region 8 with fail
  go_region
  go_wp2
  go_ret2
  exact ⟨rfl, (((Below.refl _ w).alloc (Nat.le_refl _) _)).trans (Below.drew (Below.refl _ _))⟩

/-- q of them are not behind d -/
def PartsLe (zs : List Int) (d : Int) (q : Nat) : Prop := q ≤ zs.length ∧ (∀ i, i < q → zs.getD i 0 ≤ d) ∧ ∀ i, q ≤ i → i < zs.length → d < zs.getD i 0

theorem PartsLe.uniq {zs : List Int} {d : Int} {q q' : Nat} (h : PartsLe zs d q) (h' : PartsLe zs d q') : q = q' := by
  obtain ⟨h1, h2, h3⟩ := h
  obtain ⟨k1, k2, k3⟩ := h'
  rcases Nat.lt_trichotomy q q' with hl | rfl | hl
  · have a := k2 q hl
    have b := h3 q (Nat.le_refl _) (by omega)
    omega
  · rfl
  · have a := h2 q' hl
    have b := k3 q' (Nat.le_refl _) (by omega)
    omega

theorem Parts.le_eq {zs : List Int} {d : Int} {p : Nat} (ha : Asc zs) (h : Parts zs d p) : PartsLe zs d (p + if (decide (p < zs.length) && (zs.getD p 0 == d)) = true then 1 else 0) := by
  obtain ⟨h1, h2, h3⟩ := h
  split
  · rename_i hf
    simp only [Bool.and_eq_true, decide_eq_true_eq, beq_iff_eq] at hf
    refine ⟨by omega, fun i hi => ?_, fun i hi hl => ?_⟩
    · rcases Nat.lt_or_ge i p with h | h
      · have := h2 i h
        omega
      · have : i = p := by omega
        subst this
        omega
    · have := ha p i (by omega) hl
      omega
  · rename_i hf
    simp only [Bool.and_eq_true, decide_eq_true_eq, beq_iff_eq, not_and] at hf
    refine ⟨by omega, fun i hi => ?_, fun i hi hl => ?_⟩
    · have := h2 i (by omega)
      omega
    · have hp : p < zs.length := by omega
      have h0 := hf hp
      have h4 := h3 p (Nat.le_refl _) hp
      rcases Nat.lt_or_ge p i with h | h
      · have := ha p i h hl
        omega
      · have : i = p := by omega
        subst this
        omega

/-- is there an m-th behind the first q? -/
def aok (zs : List Int) (q : Nat) (m : Int) : Bool := decide (1 ≤ m) && decide (m ≤ (zs.length : Int) - q)
/-- the m-th behind the first q; 0 where there is none -/
def aft (zs : List Int) (q : Nat) (m : Int) : Int := if aok zs q m = true then zs.getD (q + m.toNat - 1) 0 else 0

theorem cell_of {w : World} {g i : Nat} {t : TypeId} {fr : Nat × Nat} {cs : Array Value} {v : Value} (h : w.heap[g]? = some (.cells cs t fr)) (hi : cs[i]? = some v) : w.cell? ⟨g, i, none⟩ = some v := by simp [World.cell?, h, hi]
theorem fro_of {w : World} {g i : Nat} {t : TypeId} {cs : Array Value} (h : w.heap[g]? = some (.cells cs t (0, 0))) : w.frozen? ⟨g, i, none⟩ = false := by simp [World.frozen?, h]
theorem size_alloc (w : World) (o : Obj) : (w.alloc o).heap.size = w.heap.size + 1 := by
  show (w.heap.push o).size = _
  simp
theorem heap3_0 (w : World) (A B C : Obj) : (((w.alloc A).alloc B).alloc C).heap[w.heap.size]? = some A := by
  rw [heap_alloc_old _ _ (by rw [size_alloc, size_alloc]; omega), heap_alloc_old _ _ (by rw [size_alloc]; omega), heap_alloc_new]
theorem heap3_2 (w : World) (A B C : Obj) : (((w.alloc A).alloc B).alloc C).heap[w.heap.size + 1 + 1]? = some C := by
  have h := heap_alloc_new ((w.alloc A).alloc B) C
  rwa [size_alloc, size_alloc] at h

set_option maxHeartbeats 2000000 in
theorem after_any (g : Nat) (zs : List Int) (d m : Int) (q : Nat) (w : World) (hasc : Asc zs) (hq : PartsLe zs d q) (hg : g < w.heap.size) (hbig : zs.length ≤ 1048576) (hc : DRow g zs w) :
    Calls Try.prog 8 #[.agg #[.slice (some ⟨g, 0, none⟩) zs.length zs.length], .agg #[.int .i64 d], .int .i64 m] w fun e w' =>
      e = .returned (.tuple #[.agg #[.int .i64 (aft zs q m)], .bool (aok zs q m)]) ∧ Below w.heap.size w w' := by
  have HA : Hid (Asc zs) := hasc
  have HC : Hid (DRow g zs w) := hc
  have HQ : Hid (PartsLe zs d q) := hq
  clear hasc hc hq
  obtain ⟨AO, hAO⟩ : ∃ AO, Hid (aok zs q m = AO) := ⟨_, rfl⟩
  obtain ⟨AF, hAF⟩ : ∃ AF, Hid (aft zs q m = AF) := ⟨_, rfl⟩
  rw [hAO.out, hAF.out]
  go_enter Try.func8, Try.ntmps8
  go_wp2_with fail
  refine (search_any _ _ _ _ HA.out ?_ hbig ?_).mono ?_
  · simp; omega
  · refine HC.out.step hg (((Below.refl _ w).alloc (Nat.le_refl _) _ |>.alloc ?_ _).alloc ?_ _) <;> simp <;> omega
  rintro e w5 ⟨⟨p, rfl, hp⟩, hb5⟩
  have HP : Hid (Parts zs d p) := hp
  have hsz := hb5.size
  simp at hsz
  have c3 : w5.cell? ⟨w.heap.size, 0, none⟩ = some (.slice (some ⟨g, 0, none⟩) zs.length zs.length) := (hb5.cell (p := ⟨w.heap.size, 0, none⟩) (by simp; omega)).trans (cell_of (heap3_0 _ _ _ _) rfl)
  have c6 : w5.cell? ⟨w.heap.size + 1 + 1, 0, none⟩ = some (.int .i64 0) := (hb5.cell (p := ⟨w.heap.size + 1 + 1, 0, none⟩) (by simp)).trans (cell_of (heap3_2 _ _ _ _) rfl)
  have f6 : w5.frozen? ⟨w.heap.size + 1 + 1, 0, none⟩ = false := (hb5.frozen (p := ⟨w.heap.size + 1 + 1, 0, none⟩) (by simp)).trans (fro_of (heap3_2 _ _ _ _))
  have HB : Hid (Below w.heap.size w w5) := by
    refine Below.trans (((Below.refl _ w).alloc (Nat.le_refl _) _ |>.alloc ?_ _).alloc ?_ _) (hb5.mono ?_) <;> simp <;> omega
  have HR : Hid (DRow g zs w5) := HC.out.step hg HB.out
  clear hb5 hp HC hsz
  obtain ⟨f, hf⟩ : ∃ f, (decide (p < zs.length) && (zs.getD p 0 == d)) = f := ⟨_, rfl⟩
  rw [hf]
  have hpq : p + (if f = true then 1 else 0) = q := by
    have h := HP.out.le_eq HA.out
    rw [hf] at h
    exact h.uniq HQ.out
  have hql := HQ.out.1
  clear hf HP HA HQ
  by_cases hm : 1 ≤ m ∧ m ≤ (zs.length : Int) - q
  · have hok : aok zs q m = true := by simp [aok, hm.1, hm.2]
    have hft : aft zs q m = zs.getD (q + m.toNat - 1) 0 := by rw [aft, if_pos hok]
    obtain rfl : true = AO := hok.symm.trans hAO.out
    have HF : Hid (zs.getD (q + m.toNat - 1) 0 = AF) := hft.symm.trans hAF.out
    clear hok hft hAO hAF
    obtain ⟨M, rfl⟩ : ∃ M : Nat, m = M := ⟨m.toNat, by omega⟩
    obtain ⟨hm1, hm2⟩ := hm
    have hcell : w5.cell? ⟨g, q + M - 1, none⟩ = some (.int .i64 AF) := by rw [← HF.out]; exact HR.out _ (by omega)
    clear HF HR
    cases f
    · simp only [Bool.false_eq_true, if_false, Nat.add_zero] at hpq
      subst hpq
      go_wp2
      exact bodyPost_ret (v := .tuple #[.agg #[.int .i64 AF], .bool true]) (by simp [results, Try.results8, go_sem, c6]) rfl ⟨rfl, HB.out.setCell (by show _ ≤ _; simp; omega) _⟩
    · simp only [if_true] at hpq
      subst hpq
      rw [show p + 1 + M - 1 = p + M by omega] at hcell
      go_wp2
      exact bodyPost_ret (v := .tuple #[.agg #[.int .i64 AF], .bool true]) (by simp [results, Try.results8, go_sem, c6]) rfl ⟨rfl, HB.out.setCell (by show _ ≤ _; simp; omega) _⟩
  · have hok : aok zs q m = false := by simp only [aok, Bool.and_eq_false_iff, decide_eq_false_iff_not]; omega
    have hft : aft zs q m = 0 := by rw [aft, hok]; rfl
    obtain rfl : false = AO := hok.symm.trans hAO.out
    obtain rfl : 0 = AF := hft.symm.trans hAF.out
    clear hok hft hAO hAF HR
    have hm' : m < 1 ∨ (zs.length : Int) - q < m := by omega
    clear hm
    cases f
    · simp only [Bool.false_eq_true, if_false, Nat.add_zero] at hpq
      subst hpq
      by_cases h1 : m < 1
      · clear hm'
        go_wp2
        exact bodyPost_ret (v := .tuple #[.agg #[.int .i64 0], .bool false]) (by simp [results, Try.results8, go_sem, c6]) rfl ⟨rfl, HB.out.setCell (by show _ ≤ _; simp; omega) _⟩
      · have h : (zs.length : Int) - (p : Nat) < m := by omega
        clear hm'
        go_wp2
        exact bodyPost_ret (v := .tuple #[.agg #[.int .i64 0], .bool false]) (by simp [results, Try.results8, go_sem, c6]) rfl ⟨rfl, HB.out.setCell (by show _ ≤ _; simp; omega) _⟩
    · simp only [if_true] at hpq
      subst hpq
      by_cases h1 : m < 1
      · clear hm'
        go_wp2
        exact bodyPost_ret (v := .tuple #[.agg #[.int .i64 0], .bool false]) (by simp [results, Try.results8, go_sem, c6]) rfl ⟨rfl, HB.out.setCell (by show _ ≤ _; simp; omega) _⟩
      · have h : (zs.length : Int) - (p + 1 : Nat) < m := by omega
        clear hm'
        go_wp2
        exact bodyPost_ret (v := .tuple #[.agg #[.int .i64 0], .bool false]) (by simp [results, Try.results8, go_sem, c6]) rfl ⟨rfl, HB.out.setCell (by show _ ≤ _; simp; omega) _⟩
end Go.Proofs.Qxb6630672a
