/-
  LAW 3: FnPruneKeepsEachDueKeyFromItsLatestAtHorizon, walked.
-/
import Derived.Test.Qxb6630565aZ3
import Derived.Test.Qxb6630565aZ4
namespace Go.Proofs.Qxb6630565a
open Go.ChangeShapes Go.WideShapes Go.ChangeAt Go.RowKit

theorem rows_of {w : World} {a : Option Addr} {N cap : Nat} {A : Nat → Option Addr} {L C : Nat → Nat} {t : Nat → Nat → Int} (hT : TSi w a N cap A L C t) (hN : N ≤ 65536) (hL : ∀ r, r < N → L r ≤ 1048576) (hs : ∀ r, r < N → ∀ j, j + 1 < L r → t r j ≤ t r (j + 1)) : Rows N L t := by
  refine ⟨fun i hi a b hab hb => ?_, fun i hi a ha => (hT.fits i hi a ha).1, fun i hi a ha => (hT.fits i hi a ha).2, hL, hN⟩
  induction b with
  | zero =>
    obtain rfl : a = 0 := by omega
    exact Int.le_refl _
  | succ b ih =>
    by_cases e : a = b + 1
    · subst e
      exact Int.le_refl _
    · exact Int.le_trans (ih (by omega) (by omega)) (hs i hi b hb)

set_option maxRecDepth 100000 in
set_option maxHeartbeats 4000000 in
theorem law3 (a : Option Addr) (N cap : Nat) (A : Nat → Option Addr) (L C : Nat → Nat) (t : Nat → Nat → Int) (h : Int) (w : World) (hT : TSi w a N cap A L C t) :
    Calls Try.prog 3 #[.slice a N cap, .int .u64 h] w fun e w' => e = .returned (.bool true) ∧ Below w.heap.size w w' := by
  have HT := hide hT
  have hcap := hT.cap
  unfold maxLen at hcap
  clear hT
  go_enter Try.func3, Try.ntmps3
  go_wp2_with fail
  refine (bytes5 a N cap A L C t h w HT.out).mono ?_
  rintro e w ⟨⟨b, rfl, hb⟩, rfl⟩
  cases b with
  | false =>
    clear hb
    go_wp2
    go_ret
    exact ⟨rfl, Below.refl _ _⟩
  | true =>
    have HL := hide (hb rfl)
    clear hb
    by_cases hN : N ≤ 65536
    · go_wp2
      go_loop [5, 6] (fun s i => ∃ k m : Nat, s = .int .i64 m ∧ i = .int .i64 k ∧ k ≤ N ∧ m ≤ 1048576) (fun _ i => N - (intOf i).toNat)
      case atStart => exact ⟨0, 0, rfl, rfl, by omega, by omega⟩
      case round =>
        obtain ⟨k, m, rfl, rfl, hk, hm⟩ := hrel
        by_cases hlt : k < N
        · obtain ⟨x, rfl⟩ := HT.out.ptr (by omega)
          have hc := HT.out.row x rfl k hlt
          have hlm := HL.out k hlt
          obtain ⟨l, hl⟩ : ∃ l, Hid (L k = l) := ⟨_, rfl⟩
          rw [hl.out] at hc hlm
          by_cases hs : m + (24 + 8 * l) ≤ 1048576
          · go_wp2
            exact ⟨⟨k + 1, m + (24 + 8 * l), by go_num, by go_num, by omega, by omega⟩, by simp [intOf]; omega⟩
          · go_wp2
            go_ret
            exact ⟨rfl, Below.refl _ _⟩
        · obtain rfl : k = N := by omega
          go_wp2_with fail
          refine (sorted_any a k cap A L C t w HT.out).mono ?_
          rintro e w2 ⟨⟨b, rfl, hb⟩, hbel⟩
          have HB2 := hide hbel
          clear hbel
          cases b with
          | false =>
            clear hb
            go_wp2
            go_ret
            exact ⟨rfl, HB2.out⟩
          | true =>
            have HR := hide (rows_of HT.out hN HL.out (hb rfl))
            have HT2 := hide (HT.out.below HB2.out)
            clear hb
            go_wp2_with fail
            refine (build_any a k cap A L C t w2 HT2.out hN HL.out).mono ?_
            rintro e w3 ⟨cv, pd, lk, ps, pv, rfl, hSM, hPI, hbel⟩
            obtain ⟨B, hB⟩ : ∃ B, Hid (w2.heap.size = B) := ⟨_, rfl⟩
            rw [hB.out] at hSM hbel ⊢
            have HSM := hide hSM
            have HPI := hide hPI
            have HB3 := hide hbel
            clear hSM hPI hbel
            go_wp2_with fail
            refine (zzprune_any B (B + 1 + 1) B (B + 1) k cv L t z0 h pd lk ps pv w3 (by have := HB3.out.size; rw [hB.out] at this; exact this) (by omega) (by omega) HR.out HSM.out HPI.out).mono ?_
            rintro e w4 ⟨rfl, st, pd', lk', ps', pv', hSM, hPI', hends, hW, hbel⟩
            have HSM4 := hide hSM
            have HN : Hid (∀ i, i < k → ¬ Due L t st h i) := fun i hi => no_due hPI' hends hi
            have HW := hide hW
            have HB4 : Hid (Below B w2 w4) := HB3.out.trans hbel
            clear hSM hPI' hends hW hbel HSM HPI
            go_wp2
            go_loopg [8] k (fun g i wr => ∃ q : Nat, i = .int .i64 q ∧ q ≤ k ∧ g = k - q ∧ Hid (SMx wr B (B + 1 + 1) 0 0 B (B + 1) cv k L t st pd' lk' ps' pv') ∧ Hid (Below B w2 wr))
            case atStart => exact ⟨0, rfl, by omega, by omega, HSM4, HB4⟩
            case round =>
              clear HSM4 HB4
              obtain ⟨q, rfl, hq, hg, HSM, HB⟩ := hrel
              by_cases hqk : q < k
              · obtain ⟨x, rfl⟩ := HT.out.ptr (by omega)
                have HTr : Hid (TSi wr (some x) k cap A L C t) := HT2.out.below (by rw [hB.out]; exact HB.out)
                have hc := HTr.out.row x rfl q hqk
                have hlm := HL.out q hqk
                obtain ⟨l, hl⟩ : ∃ l, Hid (L q = l) := ⟨_, rfl⟩
                obtain ⟨ra, hra⟩ : ∃ ra, Hid (A q = ra) := ⟨_, rfl⟩
                rw [hl.out, hra.out] at hc
                rw [hl.out] at hlm
                go_wp2_with fail
                refine (start_any ra l (C q) (t q) h wr hlm (fun e => by rw [← hl.out]; exact HTr.out.nil q hqk (hra.out.trans e)) (fun y hy c hc => HTr.out.cell q hqk y (hra.out.trans hy) c (by rw [hl.out]; exact hc)) (fun c hc => HTr.out.fits q hqk c (by rw [hl.out]; exact hc))).mono ?_
                rintro e wr ⟨⟨zs, b, rfl, hz⟩, rfl⟩
                obtain ⟨hst, hzl, hbt, hbf⟩ := law3_chain HW.out HN.out hqk (show ZS (t q) (L q) h zs b by rw [hl.out]; exact hz)
                rw [hl.out] at hzl hbt
                have HST := hide hst
                have HBT := hide hbt
                have HBF := hide hbf
                have HZ := hide hz
                clear hst hbt hbf hz
                obtain ⟨fl, hfl⟩ : ∃ fl, Hid (flo t st q = fl) := ⟨_, rfl⟩
                go_upto_if 62 with fail
                go_cut [12] (fun f wx => f = .int .u64 fl ∧ Hid (SMx wx B (B + 1 + 1) 0 0 B (B + 1) cv k L t st pd' lk' ps' pv') ∧ Hid (Below B w2 wx))
                case first =>
                  cases b with
                  | true =>
                    obtain ⟨h1, h2⟩ := HBT.out rfl
                    cases ra with
                    | none =>
                      exfalso
                      have := HTr.out.nil q hqk hra.out
                      rw [hl.out] at this
                      omega
                    | some y =>
                      have g1 := HTr.out.cell q hqk y hra.out zs (by rw [hl.out]; exact h1)
                      rw [← h2, hfl.out] at g1
                      clear h2
                      go_wp2
                      go_meet
                      exact ⟨rfl, HSM, HB⟩
                  | false =>
                    have h2 := HBF.out rfl
                    rw [hfl.out] at h2
                    subst h2
                    go_wp2
                    go_meet
                    exact ⟨rfl, HSM, HB⟩
                case rest =>
                  clear HSM HB HTr hc
                  obtain ⟨rfl, HSMc, HBc⟩ := hcut
                  obtain ⟨n2, hn2⟩ : ∃ n2, n2 + zs = l := ⟨l - zs, by omega⟩
                  have hsub : (l : Int) - (zs : Int) = (n2 : Int) := by omega
                  have H10 := chainLen_any B (B + 1 + 1) k q wc HSMc.out hqk hN
                  rw [hl.out, HST.out, show l - zs = n2 by omega] at H10
                  have HN2 := hide hn2
                  clear hn2
                  go_wp2_with fail
                  refine H10.mono ?_
                  rintro e wc ⟨rfl, rfl⟩
                  clear H10
                  obtain ⟨gK, hgK⟩ : ∃ x, x = gk := ⟨_, rfl⟩
                  subst hgK
                  go_wp2
                  go_loopg [13] (l - zs) (fun g j wj => ∃ m2 : Nat, j = .int .i64 m2 ∧ zs ≤ m2 ∧ m2 ≤ l ∧ g = l - m2 ∧ Hid (SMx wj B (B + 1 + 1) 0 0 B (B + 1) cv k L t st pd' lk' ps' pv') ∧ Hid (Below B w2 wj))
                  case atStart => exact ⟨zs, rfl, by omega, by omega, rfl, HSMc, HBc⟩
                  case round =>
                    clear HSMc HBc
                    obtain ⟨m2, rfl, hm2, hm2l, hg2, HSMj, HBj⟩ := hrel
                    by_cases hml : m2 < l
                    · cases ra with
                      | none =>
                        exfalso
                        have := HT2.out.nil q hqk hra.out
                        rw [hl.out] at this
                        omega
                      | some y =>
                        have g1 := (HT2.out.below (by rw [hB.out]; exact HBj.out)).cell q hqk y hra.out m2 (by rw [hl.out]; exact hml)
                        obtain ⟨v, hv⟩ : ∃ v, Hid (t q m2 = v) := ⟨_, rfl⟩
                        rw [hv.out] at g1
                        obtain ⟨ai, hai⟩ : ∃ ai : Nat, zs + ai = m2 := ⟨m2 - zs, by omega⟩
                        have hwr : IntKind.i64.wrap ((m2 : Int) - (zs : Int)) = (ai : Int) := by
                          rw [IntKind.wrap_i64]
                          omega
                        have H11 : Hid (∀ n, Calls Try.prog 11 #[.pointer (some ⟨B + 1 + 1, 0, none⟩), .int .i64 q, .int .i64 ai] (wr.drewN n) fun e w' => e = .returned (.int .u64 v) ∧ w' = wr.drewN n) := fun n => by
                          have H := chainTime_any B (B + 1 + 1) k q ai (wr.drewN n) (HSMj.out.fr0 ((Fr.refl _ wr).drewN n)) hqk hN (by rw [hl.out, HST.out]; omega) (HL.out q hqk)
                          rw [HST.out, hai, hv.out] at H
                          exact H
                        have HAI := hide hai
                        clear hai
                        go_wp2
                        go_quiet (exact Calls.quiet_of_same (H11.out _))
                        go_wp2
                        go_roundg (l - (m2 + 1))
                        case measure => omega
                        case rel => exact ⟨m2 + 1, by go_num, by omega, by omega, rfl, HSMj.out.fr0 ((Fr.refl _ wr).drewN _), below_drewN HBj.out _⟩
                    · obtain rfl : m2 = l := by omega
                      have H12 := chainFloor_any B (B + 1 + 1) k q wr HSMj.out hqk hN
                      rw [hfl.out] at H12
                      go_wp2_with fail
                      refine H12.mono ?_
                      rintro e wr ⟨rfl, rfl⟩
                      clear H12
                      go_wp2
                      go_roundg (k - (q + 1))
                      case measure => omega
                      case rel => exact ⟨q + 1, by go_num, by omega, rfl, HSMj, HBj⟩
              · go_wp2
                go_ret
                exact ⟨rfl, HB2.out.trans (HB.out.mono (by rw [← hB.out]; exact HB2.out.size))⟩
    · go_wp2
      go_ret
      exact ⟨rfl, Below.refl _ _⟩
end Go.Proofs.Qxb6630565a
