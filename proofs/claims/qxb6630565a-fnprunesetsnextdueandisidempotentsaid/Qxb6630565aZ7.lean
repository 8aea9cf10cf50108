/-
  LAW 4: FnPruneSetsNextDueAndIsIdempotent, walked.
-/
import Derived.Test.Qxb6630565aZ6
namespace Go.Proofs.Qxb6630565a
open Go.ChangeShapes Go.WideShapes Go.ChangeAt Go.RowKit

theorem rows_of' {w : World} {a : Option Addr} {N cap : Nat} {A : Nat → Option Addr} {L C : Nat → Nat} {t : Nat → Nat → Int} (hT : TSi w a N cap A L C t) (hN : N ≤ 65536) (hL : ∀ r, r < N → L r ≤ 1048576) (hs : ∀ r, r < N → ∀ j, j + 1 < L r → t r j ≤ t r (j + 1)) : Rows N L t := by
  refine ⟨fun i hi a b hab hb => ?_, fun i hi a ha => (hT.fits i hi a ha).1, fun i hi a ha => (hT.fits i hi a ha).2, hL, hN⟩
  induction b with
  | zero =>
    obtain rfl : a = 0 := by omega
    exact Int.le_refl _
  | succ b ih =>
    by_cases e : a = b + 1
    · subst e
      exact Int.le_refl _
    · exact Int.le_trans (ih (by omega) (by omega)) (hs i hi b hb)

/-- where law 4 reckons each chain to begin -/
noncomputable def sst (L : Nat → Nat) (t : Nat → Nat → Int) (h : Int) : Nat → Nat := fun i => zst (t i) (L i) h

theorem end_of {L : Nat → Nat} {t : Nat → Nat → Int} {h : Int} {q l zs : Nat} {u d : Int} (hl : L q = l) (hs : sst L t h q = zs) (h1 : 1 < l - zs) (hu : t q (zs + (l - zs) / 2) = u) (hd : per u + 67108863 = d) : EndP L t (sst L t h) q d := by
  unfold EndP mid
  rw [hs, hl, hu]
  exact ⟨h1, hd.symm⟩

/-- the versions that each chain holds -/
def ln (L st : Nat → Nat) : Nat → Nat := fun i => L i - st i

set_option maxRecDepth 100000 in
set_option maxHeartbeats 4000000 in
theorem law4 (a : Option Addr) (N cap : Nat) (A : Nat → Option Addr) (L C : Nat → Nat) (t : Nat → Nat → Int) (h : Int) (w : World) (hT : TSi w a N cap A L C t) :
    Calls Try.prog 4 #[.slice a N cap, .int .u64 h] w fun e w' => e = .returned (.bool true) ∧ Below w.heap.size w w' := by
  have HT := hide hT
  have hcap := hT.cap
  unfold maxLen at hcap
  clear hT
  go_enter Try.func4, Try.ntmps4
  go_wp2_with fail
  refine (bytes13 a N cap A L C t h w HT.out).mono ?_
  rintro e w ⟨⟨b, rfl, hb⟩, rfl⟩
  cases b with
  | false =>
    clear hb
    go_wp2
    go_ret
    exact ⟨rfl, Below.refl _ _⟩
  | true =>
    have HL := hide (hb rfl)
    clear hb
    by_cases hN : N ≤ 65536
    · go_wp2
      go_loop [5, 6] (fun s i => ∃ k m : Nat, s = .int .i64 m ∧ i = .int .i64 k ∧ k ≤ N ∧ m ≤ 1048576) (fun _ i => N - (intOf i).toNat)
      case atStart => exact ⟨0, 0, rfl, rfl, by omega, by omega⟩
      case round =>
        obtain ⟨k, m, rfl, rfl, hk, hm⟩ := hrel
        by_cases hlt : k < N
        · obtain ⟨x, rfl⟩ := HT.out.ptr (by omega)
          have hc := HT.out.row x rfl k hlt
          have hlm := HL.out k hlt
          obtain ⟨l, hl⟩ : ∃ l, Hid (L k = l) := ⟨_, rfl⟩
          rw [hl.out] at hc hlm
          by_cases hs : m + (24 + 8 * l) ≤ 1048576
          · go_wp2
            exact ⟨⟨k + 1, m + (24 + 8 * l), by go_num, by go_num, by omega, by omega⟩, by simp [intOf]; omega⟩
          · go_wp2
            go_ret
            exact ⟨rfl, Below.refl _ _⟩
        · obtain rfl : k = N := by omega
          go_wp2_with fail
          refine (sorted_any a k cap A L C t w HT.out).mono ?_
          rintro e w2 ⟨⟨b, rfl, hb⟩, hbel⟩
          have HB2 := hide hbel
          clear hbel
          cases b with
          | false =>
            clear hb
            go_wp2
            go_ret
            exact ⟨rfl, HB2.out⟩
          | true =>
            have HR := hide (rows_of' HT.out hN HL.out (hb rfl))
            have HT2 := hide (HT.out.below HB2.out)
            clear hb
            go_wp2
            go_loopg [7, 8] k (fun g v i wr => ∃ (q : Nat) (want : Int), v = .int .u64 want ∧ i = .int .i64 q ∧ q ≤ k ∧ g = k - q ∧ wr = w2 ∧ Hid (Wn L t (sst L t h) q want))
            case atStart => exact ⟨0, _, rfl, rfl, by omega, by omega, rfl, Wn.zero⟩
            case round =>
              obtain ⟨q, want, rfl, rfl, hq, hg, rfl, HWn⟩ := hrel
              by_cases hqk : q < k
              · obtain ⟨x, rfl⟩ := HT.out.ptr (by omega)
                have hc := HT2.out.row x rfl q hqk
                have hlm := HL.out q hqk
                obtain ⟨l, hl⟩ : ∃ l, Hid (L q = l) := ⟨_, rfl⟩
                obtain ⟨ra, hra⟩ : ∃ ra, Hid (A q = ra) := ⟨_, rfl⟩
                rw [hl.out, hra.out] at hc
                rw [hl.out] at hlm
                go_wp2_with fail
                refine (start_any ra l (C q) (t q) h wr hlm (fun e => by rw [← hl.out]; exact HT2.out.nil q hqk (hra.out.trans e)) (fun y hy c hc => HT2.out.cell q hqk y (hra.out.trans hy) c (by rw [hl.out]; exact hc)) (fun c hc => HT2.out.fits q hqk c (by rw [hl.out]; exact hc))).mono ?_
                rintro e wr ⟨⟨zs, b, rfl, hz⟩, rfl⟩
                have HSS : Hid (sst L t h q = zs) := by
                  show zst (t q) (L q) h = zs
                  rw [hl.out]
                  exact hz.zst
                have hzl : zs ≤ l := by
                  rcases hz with ⟨_, _, h2⟩ | ⟨_, _, h2⟩
                  · have := cnt_le (t q) h l
                    omega
                  · omega
                cases b with
                | false =>
                  have hz0 : zs = 0 := by
                    rcases hz with ⟨hb, _⟩ | ⟨_, _, h2⟩
                    · cases hb
                    · exact h2
                  subst hz0
                  clear hz
                  by_cases h1 : 1 < l
                  · cases ra with
                    | none =>
                      exfalso
                      have := HT2.out.nil q hqk hra.out
                      rw [hl.out] at this
                      omega
                    | some y =>
                      have g1 := HT2.out.cell q hqk y hra.out (l / 2) (by rw [hl.out]; omega)
                      have hf1 := HT2.out.fits q hqk (l / 2) (by rw [hl.out]; omega)
                      obtain ⟨u, hu⟩ : ∃ u, Hid (t q (l / 2) = u) := ⟨_, rfl⟩
                      rw [hu.out] at g1 hf1
                      have hor := or_mask u hf1.1 hf1.2
                      obtain ⟨d, hd⟩ : ∃ d, Hid (per u + 67108863 = d) := ⟨_, rfl⟩
                      rw [hd.out] at hor
                      have HE : Hid (EndP L t (sst L t h) q d) := end_of hl.out HSS.out (by omega) (by rw [Nat.zero_add, Nat.sub_zero]; exact hu.out) hd.out
                      clear hf1
                      by_cases hdw : d < want
                      · go_wp2
                        go_roundg (k - (q + 1))
                        case measure => omega
                        case rel => exact ⟨q + 1, d, rfl, by go_num, by omega, rfl, rfl, HWn.out.less HE.out hdw⟩
                      · go_wp2
                        go_roundg (k - (q + 1))
                        case measure => omega
                        case rel => exact ⟨q + 1, want, rfl, by go_num, by omega, rfl, rfl, HWn.out.more HE.out (by omega)⟩
                  · go_wp2
                    go_roundg (k - (q + 1))
                    case measure => omega
                    case rel => exact ⟨q + 1, want, rfl, by go_num, by omega, rfl, rfl, HWn.out.none (by rw [hl.out, HSS.out]; omega)⟩
                | true =>
                  have h1 : 1 < l := by
                    rcases hz with ⟨_, h2, _⟩ | ⟨hb, _⟩
                    · exact h2.1
                    · cases hb
                  clear hz
                  obtain ⟨n2, hn2⟩ : ∃ n2, n2 + zs = l := ⟨l - zs, by omega⟩
                  have hsub : (l : Int) - (zs : Int) = (n2 : Int) := by omega
                  have HN2 : Hid (l - zs = n2) := by show l - zs = n2; omega
                  have hn21 : n2 ≤ 1048576 := by omega
                  have hzn : zs ≤ 1048576 := by omega
                  by_cases h2 : 1 < n2
                  · cases ra with
                    | none =>
                      exfalso
                      have := HT2.out.nil q hqk hra.out
                      rw [hl.out] at this
                      omega
                    | some y =>
                      have hix : zs + n2 / 2 < l := by omega
                      have g1 := HT2.out.cell q hqk y hra.out (zs + n2 / 2) (by rw [hl.out]; exact hix)
                      have hf1 := HT2.out.fits q hqk (zs + n2 / 2) (by rw [hl.out]; exact hix)
                      obtain ⟨u, hu⟩ : ∃ u, Hid (t q (zs + n2 / 2) = u) := ⟨_, rfl⟩
                      rw [hu.out] at g1 hf1
                      have hor := or_mask u hf1.1 hf1.2
                      obtain ⟨d, hd⟩ : ∃ d, Hid (per u + 67108863 = d) := ⟨_, rfl⟩
                      rw [hd.out] at hor
                      have HE : Hid (EndP L t (sst L t h) q d) := end_of hl.out HSS.out (by rw [HN2.out]; exact h2) (by rw [HN2.out]; exact hu.out) hd.out
                      clear hf1 hn2
                      by_cases hdw : d < want
                      · go_wp2
                        go_roundg (k - (q + 1))
                        case measure => omega
                        case rel => exact ⟨q + 1, d, rfl, by go_num, by omega, rfl, rfl, HWn.out.less HE.out hdw⟩
                      · go_wp2
                        go_roundg (k - (q + 1))
                        case measure => omega
                        case rel => exact ⟨q + 1, want, rfl, by go_num, by omega, rfl, rfl, HWn.out.more HE.out (by omega)⟩
                  · clear hn2
                    go_wp2
                    go_roundg (k - (q + 1))
                    case measure => omega
                    case rel => exact ⟨q + 1, want, rfl, by go_num, by omega, rfl, rfl, HWn.out.none (by rw [hl.out, HSS.out, HN2.out]; exact h2)⟩
              · obtain rfl : q = k := by omega
                go_wp2_with fail
                refine (build_any a q cap A L C t wr HT2.out hN HL.out).mono ?_
                rintro e w3 ⟨cv, pd, lk, ps, pv, rfl, hSM, hPI, hbel⟩
                obtain ⟨B, hB⟩ : ∃ B, Hid (wr.heap.size = B) := ⟨_, rfl⟩
                rw [hB.out] at hSM hbel ⊢
                have HSM := hide hSM
                have HPI := hide hPI
                have HB3 := hide hbel
                clear hSM hPI hbel
                go_wp2_with fail
                refine (zzprune_any B (B + 1 + 1) B (B + 1) q cv L t z0 h pd lk ps pv w3 (by have := HB3.out.size; rw [hB.out] at this; exact this) (by omega) (by omega) HR.out HSM.out HPI.out).mono ?_
                rintro e w4 ⟨rfl, st, pd', lk', ps', pv', hSM, hPI', hends, hW, hbel⟩
                have HSM4 := hide hSM
                have HEN := hide hends
                have HDU : Hid (dueOf ps' = want) := due_is hPI' (HWn.out.congr (fun i hi => went_zst hW (fun i hi => no_due hPI' hends hi) hi))
                have HB4 : Hid (Below B wr w4) := HB3.out.trans hbel
                have HS4 : Hid (B + 1 + 1 < w4.heap.size) := hSM.s.lt
                clear hSM hPI' hends hW hbel HSM HPI
                have H14 := due_any B (B + 1 + 1) q w4 HSM4.out
                rw [HDU.out] at H14
                go_wp2_with fail
                refine H14.mono ?_
                rintro e w4 ⟨rfl, rfl⟩
                clear H14
                have hmk := fun w => make3 q (by omega) w
                obtain ⟨wb, rfl⟩ : ∃ wb : World, wb = wr := ⟨_, rfl⟩
                go_wp2
                go_loopg [19] q (fun g i wj => ∃ r : Nat, i = .int .i64 r ∧ r ≤ q ∧ g = q - r ∧ Hid (Below w4.heap.size w4 wj) ∧ Hid (LN wj w4.heap.size q (ln L st) r))
                case atStart => exact ⟨0, rfl, by omega, by omega, (Below.refl _ _).alloc (Nat.le_refl _) _, ⟨_, heap_alloc_new _ _, size_madeCells _ _, fun i hi => by omega⟩⟩
                case round =>
                  obtain ⟨r, rfl, hr, hg3, HB5, HLN⟩ := hrel
                  have HSM5 : Hid (SMx wr B (B + 1 + 1) 0 0 B (B + 1) cv q L t st pd' lk' ps' pv') := HSM4.out.fr0 (Fr.below HB5.out)
                  by_cases hrq : r < q
                  · obtain ⟨n2, hn2⟩ : ∃ n2, Hid (ln L st r = n2) := ⟨_, rfl⟩
                    have H10 := chainLen_any B (B + 1 + 1) q r wr HSM5.out hrq hN
                    rw [show L r - st r = n2 from hn2.out] at H10
                    obtain ⟨v, cv5⟩ := HLN.out.cell hrq
                    have zv := HLN.out.fro r
                    have HP : Hid (LN (wr.setCell ⟨w4.heap.size, r, none⟩ (.int .i64 (n2 : Nat))) w4.heap.size q (ln L st) (r + 1)) := by
                      have h1 := HLN.out.put hrq
                      rw [hn2.out] at h1
                      exact h1
                    go_wp2_with fail
                    refine H10.mono ?_
                    rintro e wr ⟨rfl, rfl⟩
                    clear H10
                    go_wp2
                    go_roundg (q - (r + 1))
                    case measure => omega
                    case rel => exact ⟨r + 1, by go_num, by omega, rfl, HB5.out.setCell (by exact Nat.le_refl _) _, HP⟩
                  · obtain rfl : r = q := by omega
                    go_wp2_with fail
                    refine (zzagain_any B (B + 1 + 1) B (B + 1) r cv L t st h pd' lk' ps' pv' wr HSM5.out HEN.out).mono ?_
                    rintro e w6 ⟨rfl, hSM6, hF6⟩
                    have HSM6 := hide hSM6
                    have HLN6 : Hid (LN w6 w4.heap.size r (ln L st) r) := HLN.out.fr hF6 (fun e => by
                      have e : w4.heap.size = B + 1 + 1 := e
                      have := HS4.out
                      omega)
                    have HB6 : Hid (Below B wb w6) := (HB4.out.trans (HB5.out.mono (by have := HS4.out; omega))).trans (hF6.to B (by
                      have h1 := HB5.out.size
                      have h2 := HS4.out
                      omega) (fun i e => by have e : i = B + 1 + 1 := e; omega))
                    clear hSM6 hF6
                    have H14 := due_any B (B + 1 + 1) r w6 HSM6.out
                    rw [HDU.out] at H14
                    go_wp2_with fail
                    refine H14.mono ?_
                    rintro e w6 ⟨rfl, rfl⟩
                    clear H14 hmk
                    obtain ⟨wg, rfl⟩ : ∃ wg : World, wg = wr := ⟨_, rfl⟩
                    go_wp2
                    go_loopg [20] r (fun g i wj => ∃ p : Nat, i = .int .i64 p ∧ p ≤ r ∧ g = r - p ∧ Hid (SMx wj B (B + 1 + 1) 0 0 B (B + 1) cv r L t st pd' lk' ps' pv') ∧ Hid (LN wj w4.heap.size r (ln L st) r) ∧ Hid (Below B wb wj))
                    case atStart => exact ⟨0, rfl, by omega, by omega, HSM6, HLN6, HB6⟩
                    case round =>
                      clear HSM6 HLN6 HB6
                      obtain ⟨p, rfl, hp, hg4, HSM7, HLN7, HB7⟩ := hrel
                      by_cases hpr : p < r
                      · obtain ⟨n2, hn2⟩ : ∃ n2, Hid (ln L st p = n2) := ⟨_, rfl⟩
                        have g1 := HLN7.out.at hpr
                        rw [hn2.out] at g1
                        have H10 : Hid (∀ n, Calls Try.prog 10 #[.pointer (some ⟨B + 1 + 1, 0, none⟩), .int .i64 p] (wr.drewN n) fun e w' => e = .returned (.int .i64 (n2 : Nat)) ∧ w' = wr.drewN n) := fun n => by
                          have H := chainLen_any B (B + 1 + 1) r p (wr.drewN n) (HSM7.out.fr0 ((Fr.refl _ wr).drewN n)) hpr hN
                          rw [show L p - st p = n2 from hn2.out] at H
                          exact H
                        go_wp2
                        go_quiet (exact Calls.quiet_of_same (H10.out _))
                        go_wp2
                        go_roundg (r - (p + 1))
                        case measure => omega
                        case rel => exact ⟨p + 1, by go_num, by omega, rfl, HSM7.out.fr0 ((Fr.refl _ wr).drewN _), HLN7.out.fr (P := fun _ => False) ((Fr.refl _ wr).drewN _) (fun h => h), below_drewN HB7.out _⟩
                      · go_wp2
                        go_ret
                        exact ⟨rfl, HB2.out.trans (HB7.out.mono (by rw [← hB.out]; exact HB2.out.size))⟩
    · go_wp2
      go_ret
      exact ⟨rfl, Below.refl _ _⟩
end Go.Proofs.Qxb6630565a
