/-
  THE SEARCH among a chain's versions.
-/
import Derived.Test.Qxb6630565aA
namespace Go.Proofs.Qxb6630565a
open Go.ChangeShapes Go.WideShapes Go.ChangeAt Go.RowKit

/-- n versions from cell o on -/
def VC (g o n : Nat) (T X : Nat → Int) (w : World) : Prop := ∀ i, i < n → V6 g (o + i * 6) (T i) (X i) w
theorem VC.keep {g o n : Nat} {T X : Nat → Int} {w w' : World} (h : VC g o n T X w) (k : Keeps w w') : VC g o n T X w' := fun i hi => (h i hi).keep k

/-- r of the n are not behind h -/
def Cut (T : Nat → Int) (n : Nat) (h : Int) (r : Nat) : Prop := r ≤ n ∧ (∀ i, i < r → T i ≤ h) ∧ ∀ i, r ≤ i → i < n → h < T i
def Mono (T : Nat → Int) (n : Nat) : Prop := ∀ i j, i ≤ j → j < n → T i ≤ T j

set_option linter.unusedSimpArgs false in
set_option maxHeartbeats 2000000 in
theorem bsf_any (g o n c : Nat) (T X : Nat → Int) (p q : Nat) (h : Int) (w : World) (hm : Mono T n) (hn : n ≤ 1048576) (hv : VC g o n T X w) (hp : w.cell? ⟨p, 0, none⟩ = some (aft q)) (hq : w.cell? ⟨q, 0, none⟩ = some (.int .u64 h)) :
    Calls Try.prog 68 #[.slice (some ⟨g, o, none⟩) n c, .bool true, .func (.func 69) #[] #[.pointer (some ⟨p, 0, none⟩)]] w fun e w' =>
      (∃ r : Nat, e = .returned (.tuple #[.int .i64 r, .bool false]) ∧ Cut T n h r) ∧ Below w.heap.size w w' := by
  have HM : Hid (Mono T n) := hm
  have HV : Hid (VC g o n T X w) := hv
  clear hm hv
  go_enter Try.func68, Try.ntmps68
  go_wp2
  go_loopw [9, 10] (fun l r wr => ∃ lo hi : Nat, l = .int .i64 lo ∧ r = .int .i64 hi ∧ lo ≤ hi ∧ hi ≤ n ∧ Hid (Below w.heap.size w wr) ∧
      Hid ((∀ i, i < lo → T i ≤ h) ∧ ∀ i, hi ≤ i → i < n → h < T i)) (fun l r _ => (intOf r).toNat - (intOf l).toNat)
  case atStart => exact ⟨0, n, rfl, rfl, by omega, by omega, Below.refl _ _, ⟨fun i hi => by omega, fun i h1 h2 => by omega⟩⟩
  case round =>
    obtain ⟨lo, hi, rfl, rfl, hlh, hhn, HB, HP⟩ := hrel
    have hk := Keeps.of HB.out
    have hpw := hk _ _ hp
    have hqw := hk _ _ hq
    have HVw : Hid (VC g o n T X wr) := HV.out.keep hk
    have hsz := HB.out.size
    clear hk
    by_cases hlt : lo < hi
    · have hm1 : lo ≤ (lo + hi) / 2 := by omega
      have hm2 : (lo + hi) / 2 < hi := by omega
      have hmn : (lo + hi) / 2 < n := by omega
      have HV6 := HVw.out ((lo + hi) / 2) hmn
      obtain ⟨y, hy⟩ : ∃ y, Hid (T ((lo + hi) / 2) = y) := ⟨_, rfl⟩
      obtain ⟨z, hz⟩ : ∃ z, X ((lo + hi) / 2) = z := ⟨_, rfl⟩
      rw [hy.out, hz] at HV6
      obtain ⟨g0, g1, g2, g3, g4, g5⟩ := HV6
      clear hz
      go_wp2_with fail
      refine (cmp_any _ _ _ _ q h _ hpw hqw).mono ?_
      rintro e wc ⟨rfl, hbc⟩
      have HBc : Hid (Below w.heap.size w wc) := keep_below HB.out hsz hbc
      clear hbc g0 g1 g2 g3 g4 g5
      by_cases hyh : h < y
      · rw [if_pos hyh]
        go_wp2
        refine ⟨⟨lo, (lo + hi) / 2, rfl, by go_num, by omega, by omega, HBc, HP.out.1, fun i h1 h2 => ?_⟩, by simp only [intOf]; omega⟩
        have := HM.out _ i h1 h2
        rw [hy.out] at this
        omega
      · rw [if_neg hyh]
        go_wp2
        refine ⟨⟨(lo + hi) / 2 + 1, hi, by go_num, rfl, by omega, by omega, HBc, fun i h1 => ?_, HP.out.2⟩, by simp only [intOf]; omega⟩
        have := HM.out i ((lo + hi) / 2) (by omega) hmn
        rw [hy.out] at this
        omega
    · obtain rfl : lo = hi := by omega
      have HC : Hid (Cut T n h lo) := ⟨hhn, HP.out.1, HP.out.2⟩
      by_cases hln : lo < n
      · have HV6 := HVw.out lo hln
        obtain ⟨y, hy⟩ : ∃ y, Hid (T lo = y) := ⟨_, rfl⟩
        obtain ⟨z, hz⟩ : ∃ z, X lo = z := ⟨_, rfl⟩
        rw [hy.out, hz] at HV6
        obtain ⟨g0, g1, g2, g3, g4, g5⟩ := HV6
        clear hz
        go_wp2_with fail
        refine (cmp_any _ _ _ _ q h _ hpw hqw).mono ?_
        rintro e wc ⟨rfl, hbc⟩
        have HBc : Hid (Below w.heap.size w wc) := keep_below HB.out hsz hbc
        clear hbc g0 g1 g2 g3 g4 g5
        by_cases hyh : h < y
        · rw [if_pos hyh]
          go_wp2
          go_ret2
          exact ⟨⟨lo, rfl, HC.out⟩, HBc.out⟩
        · rw [if_neg hyh]
          go_wp2
          go_ret2
          exact ⟨⟨lo, rfl, HC.out⟩, HBc.out⟩
      · go_wp2
        go_ret2
        exact ⟨⟨lo, rfl, HC.out⟩, HB.out⟩
end Go.Proofs.Qxb6630565a
