/-
  search.
-/
import Derived.Test.Qxb6630565aC
import Derived.WalkSmall
namespace Go.Proofs.Qxb6630565a
open Go.ChangeShapes Go.WideShapes Go.ChangeAt Go.RowKit

set_option maxHeartbeats 4000000 in
theorem search_any (C o g n cap : Nat) (T X : Nat → Int) (h : Int) (w : World) (hm : Mono T n) (hn : 1 ≤ n) (hn2 : n ≤ 1048576) (hcap : n ≤ cap) (hcm : cap ≤ maxLen) (hv : VC g 0 n T X w)
    (hC : w.cell? ⟨C, o, none⟩ = some (.slice (some ⟨g, 0, none⟩) n cap)) :
    Calls Try.prog 46 #[.pointer (some ⟨C, o, none⟩), .int .u64 h, .int .i64 0] w fun e w' => (∃ r : Nat, e = .returned (.int .i64 r) ∧ Cut T n h r) ∧ Below w.heap.size w w' := by
  have HM : Hid (Mono T n) := hm
  have HV : Hid (VC g 0 n T X w) := hv
  clear hm hv
  have HCM : Hid (cap ≤ maxLen) := hcm
  unfold maxLen at hcm
  have lC : C < w.heap.size := by simpa using World.block_lt_of_cell? _ _ hC
  have hmf : ∀ (fn : Fn) (first cap : Array Value) (w : World), (Instr.makeFunc fn first cap).run Try.prog w = .ok (.func fn first cap) w := fun _ _ _ _ => rfl
  go_enter Try.func46, Try.ntmps46
  go_upto_region 1 with fail
  go_quiet (fail)
  go_wp2
  go_loopw [7] (fun a wr => ∃ k : Nat, a = .int .i64 k ∧ k ≤ n ∧ k ≤ 5 ∧ Hid (Below (w.heap.size + 1) (w.alloc (.cells #[.int .u64 h] 42)) wr) ∧ Hid (∀ i, i < k → T i ≤ h)) (fun a _ => 5 - (intOf a).toNat)
  case atStart => exact ⟨0, rfl, by omega, by omega, below_drewN (Below.refl _ _) _, fun i h1 => by omega⟩
  case round =>
    obtain ⟨k, rfl, hkn, hk5, HB, HP⟩ := hrel
    have hsz : w.heap.size + 1 ≤ wr.heap.size := by
      have := HB.out.size
      rwa [size_alloc] at this
    have hk := (Keeps.alloc1 w (.cells #[.int .u64 h] 42)).trans (Keeps.of (by rw [size_alloc]; exact HB.out))
    have hBw : wr.cell? ⟨w.heap.size, 0, none⟩ = some (.int .u64 h) := Keeps.of (by rw [size_alloc]; exact HB.out) _ _ (cell_of (heap_alloc_new w (.cells #[.int .u64 h] 42)) rfl)
    have hCw := hk _ _ hC
    have HVw : Hid (VC g 0 n T X wr) := HV.out.keep hk
    clear hk
    by_cases hk4 : k ≤ 4
    · by_cases hkn2 : k = n
      · subst hkn2
        have hmin : (if (k : Int) < 4 then (k : Int) else 4) = k := by split <;> omega
        have HCut : Hid (Cut T k h k) := ⟨Nat.le_refl _, HP.out, fun i h1 h2 => by omega⟩
        have HBe : Hid (Below w.heap.size w wr) := ((Below.refl _ w).alloc (Nat.le_refl _) _).trans (HB.out.mono (by omega))
        go_upto_region 5 with fail
        go_quiet (fail)
        go_wp2
        go_ret
        exact ⟨⟨k, rfl, HCut.out⟩, below_drewN HBe.out _⟩
      · have hkl : k < n := by omega
        have hkd : ((k : Int) == (n : Int)) = false := by simp; omega
        have hkd2 : decide ((k : Int) = (n : Int)) = false := by simp; omega
        obtain ⟨y, hy⟩ : ∃ y, Hid (T k = y) := ⟨_, rfl⟩
        have g0 := (HVw.out k hkl).1
        rw [Nat.zero_add, hy.out] at g0
        by_cases hyh : h < y
        · have HCut : Hid (Cut T n h k) := by
            refine ⟨hkn, HP.out, fun i h1 h2 => ?_⟩
            have := HM.out k i h1 h2
            rw [hy.out] at this
            omega
          have HBe : Hid (Below w.heap.size w wr) := ((Below.refl _ w).alloc (Nat.le_refl _) _).trans (HB.out.mono (by omega))
          go_upto_region 5 with fail
          go_quiet (fail)
          go_wp2
          all_goals
            go_ret
            exact ⟨⟨k, rfl, HCut.out⟩, below_drewN HBe.out _⟩
        · go_upto_region 5 with fail
          go_quiet (fail)
          go_wp2
          refine ⟨⟨k + 1, by go_num, by omega, by omega, below_drewN HB.out _, fun i h1 => ?_⟩, by simp only [intOf]; omega⟩
          rcases Nat.lt_or_ge i k with h2 | h2
          · exact HP.out i h2
          · obtain rfl : i = k := by omega
            rw [hy.out]
            omega
    · obtain rfl : k = 5 := by omega
      go_wp2_with fail
      refine (back_any C o g n cap T X w.heap.size h _ HM.out hn hn2 hcap HCM.out HVw.out hCw hBw).mono ?_
      rintro e w5 ⟨⟨r, rfl, hr⟩, hb5⟩
      have HCut : Hid (Cut T n h r) := hr
      have HB5 : Hid (Below w.heap.size w w5) := keep_below (((Below.refl _ w).alloc (Nat.le_refl _) _).trans (HB.out.mono (by omega))) (by omega) hb5
      clear hr hb5
      go_wp2
      go_ret
      exact ⟨⟨r, rfl, HCut.out⟩, HB5.out⟩
end Go.Proofs.Qxb6630565a
