/-
  THE ROWS THAT CAME IN; zzBytes, zzSorted, zzStart.
-/
import Derived.Test.Qxb6630565aV2
namespace Go.Proofs.Qxb6630565a
open Go.ChangeShapes Go.WideShapes Go.ChangeAt Go.RowKit

theorem nat_or_mask (n : Nat) : n ||| 67108863 = n - n % 67108864 + 67108863 := by
  have h1 : n = 2 ^ 26 * (n / 2 ^ 26) + n % 2 ^ 26 := (Nat.div_add_mod n (2 ^ 26)).symm
  have h2 : n % 2 ^ 26 < 2 ^ 26 := Nat.mod_lt _ (by decide)
  have h3 : n % 2 ^ 26 ||| 67108863 = 67108863 := by
    apply Nat.eq_of_testBit_eq
    intro i
    rw [Nat.testBit_or, show (67108863 : Nat) = 2 ^ 26 - 1 by rfl, Nat.testBit_two_pow_sub_one, Nat.testBit_mod_two_pow]
    by_cases hi : i < 26 <;> simp [hi]
  have h4 := Nat.two_pow_add_eq_or_of_lt h2 (n / 2 ^ 26)
  have h5 := Nat.two_pow_add_eq_or_of_lt (b := 67108863) (i := 26) (by decide) (n / 2 ^ 26)
  have h6 : n ||| 67108863 = 2 ^ 26 * (n / 2 ^ 26) + 67108863 := by
    have h7 : n = 2 ^ 26 * (n / 2 ^ 26) ||| n % 2 ^ 26 := h1.trans h4
    calc n ||| 67108863 = (2 ^ 26 * (n / 2 ^ 26) ||| n % 2 ^ 26) ||| 67108863 := by rw [← h7]
      _ = 2 ^ 26 * (n / 2 ^ 26) ||| 67108863 := by rw [Nat.or_assoc, h3]
      _ = _ := h5.symm
  rw [h6]
  have h8 : 2 ^ 26 * (n / 2 ^ 26) = n - n % 67108864 := by
    show 67108864 * (n / 67108864) = _
    omega
  rw [h8]

theorem or_mask (x : Int) (h0 : 0 ≤ x) (h1 : x ≤ 18446744073709551615) : bits .or .u64 x 67108863 = per x + 67108863 := by
  obtain ⟨n, rfl⟩ := Int.eq_ofNat_of_zero_le h0
  unfold per
  show IntKind.u64.wrap (((BitVec.ofInt 64 (n : Int)) ||| (BitVec.ofInt 64 67108863)).toNat : Int) = _
  have e1 : (BitVec.ofInt 64 (n : Int)).toNat = n := by
    rw [BitVec.toNat_ofInt]
    omega
  have e2 : (BitVec.ofInt 64 (67108863 : Int)).toNat = 67108863 := by
    rw [BitVec.toNat_ofInt]
    decide
  rw [BitVec.toNat_or, e1, e2, nat_or_mask, IntKind.wrap_u64]
  have h2 := Nat.mod_lt n (show 67108864 > 0 by decide)
  have h3 : n % 67108864 ≤ n := Nat.mod_le _ _
  omega

/-- the rows that came in -/
structure TSi (w : World) (a : Option Addr) (N cap : Nat) (A : Nat → Option Addr) (L C : Nat → Nat) (t : Nat → Nat → Int) : Prop where
  ptr : 0 < N → ∃ x, a = some x
  row : ∀ x, a = some x → ∀ r, r < N → w.cell? (x.add r) = some (.slice (A r) (L r) (C r))
  cap : N ≤ cap ∧ cap ≤ maxLen
  rcap : ∀ r, r < N → L r ≤ C r ∧ C r ≤ maxLen
  nil : ∀ r, r < N → A r = none → L r = 0
  cell : ∀ r, r < N → ∀ y, A r = some y → ∀ c, c < L r → w.cell? (y.add c) = some (.int .u64 (t r c))
  fits : ∀ r, r < N → ∀ c, c < L r → 0 ≤ t r c ∧ t r c ≤ 18446744073709551615

theorem TSi.below {w w' : World} {a : Option Addr} {N cap : Nat} {A : Nat → Option Addr} {L C : Nat → Nat} {t : Nat → Nat → Int} (h : TSi w a N cap A L C t) (b : Below w.heap.size w w') : TSi w' a N cap A L C t :=
  ⟨h.ptr, fun x hx r hr => (World.cell?_of_block (b.block _ (World.block_lt_of_cell? _ _ (h.row x hx r hr)))).trans (h.row x hx r hr), h.cap, h.rcap, h.nil,
    fun r hr y hy c hc => (World.cell?_of_block (b.block _ (World.block_lt_of_cell? _ _ (h.cell r hr y hy c hc)))).trans (h.cell r hr y hy c hc), h.fits⟩

def BoolP (P : Prop) (e : Ending) : Prop := ∃ b, e = .returned (.bool b) ∧ (b = true → P)
theorem BoolP.f {P : Prop} : BoolP P (.returned (.bool false)) := ⟨false, rfl, fun h => by cases h⟩
theorem BoolP.t {P : Prop} (h : P) : BoolP P (.returned (.bool true)) := ⟨true, rfl, fun _ => h⟩

set_option maxHeartbeats 2000000 in
theorem bytes5 (a : Option Addr) (N cap : Nat) (A : Nat → Option Addr) (L C : Nat → Nat) (t : Nat → Nat → Int) (hz : Int) (w : World) (hT : TSi w a N cap A L C t) :
    Calls Try.prog 5 #[.slice a N cap, .int .u64 hz] w fun e w' => BoolP (∀ r, r < N → L r ≤ 1048576) e ∧ w' = w := by
  have HT := hide hT
  have hcap := hT.cap
  unfold maxLen at hcap
  clear hT
  by_cases hN : N ≤ 1048576
  · go_enter Try.func5, Try.ntmps5
    go_wp2
    go_loop [5, 6] (fun s i => ∃ k m : Nat, s = .int .i64 m ∧ i = .int .i64 k ∧ k ≤ N ∧ m ≤ 1048576 ∧ Hid (∀ r, r < k → L r ≤ 1048576)) (fun _ i => N - (intOf i).toNat)
    case atStart => exact ⟨0, N, rfl, rfl, by omega, by omega, fun r hr => by omega⟩
    case round =>
      obtain ⟨k, m, rfl, rfl, hk, hm, HL⟩ := hrel
      by_cases hlt : k < N
      · obtain ⟨x, rfl⟩ := HT.out.ptr (by omega)
        have hc := HT.out.row x rfl k hlt
        obtain ⟨l, hl⟩ : ∃ l, Hid (L k = l) := ⟨_, rfl⟩
        have hlc := (HT.out.rcap k hlt).2
        have hlr := (HT.out.rcap k hlt).1
        unfold maxLen at hlc
        rw [hl.out] at hc hlr
        by_cases hb : l ≤ 1048576
        · by_cases hs : m + l ≤ 1048576
          · go_wp2
            refine ⟨⟨k + 1, m + l, by go_num, by go_num, by omega, by omega, fun r hr => ?_⟩, by simp [intOf]; omega⟩
            rcases Nat.lt_or_ge r k with h1 | h1
            · exact HL.out r h1
            · rw [show r = k by omega, hl.out]
              exact hb
          · go_wp2
            go_ret
            exact ⟨BoolP.f, rfl⟩
        · go_wp2
          go_ret
          exact ⟨BoolP.f, rfl⟩
      · go_wp2
        go_ret
        exact ⟨BoolP.t fun r hr => HL.out r (by omega), rfl⟩
  · go_enter Try.func5, Try.ntmps5
    go_wp2
    go_ret
    exact ⟨BoolP.f, rfl⟩
set_option maxHeartbeats 2000000 in
theorem bytes13 (a : Option Addr) (N cap : Nat) (A : Nat → Option Addr) (L C : Nat → Nat) (t : Nat → Nat → Int) (hz : Int) (w : World) (hT : TSi w a N cap A L C t) :
    Calls Try.prog 13 #[.slice a N cap, .int .u64 hz] w fun e w' => BoolP (∀ r, r < N → L r ≤ 1048576) e ∧ w' = w := by
  have HT := hide hT
  have hcap := hT.cap
  unfold maxLen at hcap
  clear hT
  by_cases hN : N ≤ 1048576
  · go_enter Try.func13, Try.ntmps13
    go_wp2
    go_loop [5, 6] (fun s i => ∃ k m : Nat, s = .int .i64 m ∧ i = .int .i64 k ∧ k ≤ N ∧ m ≤ 1048576 ∧ Hid (∀ r, r < k → L r ≤ 1048576)) (fun _ i => N - (intOf i).toNat)
    case atStart => exact ⟨0, N, rfl, rfl, by omega, by omega, fun r hr => by omega⟩
    case round =>
      obtain ⟨k, m, rfl, rfl, hk, hm, HL⟩ := hrel
      by_cases hlt : k < N
      · obtain ⟨x, rfl⟩ := HT.out.ptr (by omega)
        have hc := HT.out.row x rfl k hlt
        obtain ⟨l, hl⟩ : ∃ l, Hid (L k = l) := ⟨_, rfl⟩
        have hlc := (HT.out.rcap k hlt).2
        have hlr := (HT.out.rcap k hlt).1
        unfold maxLen at hlc
        rw [hl.out] at hc hlr
        by_cases hb : l ≤ 1048576
        · by_cases hs : m + l ≤ 1048576
          · go_wp2
            refine ⟨⟨k + 1, m + l, by go_num, by go_num, by omega, by omega, fun r hr => ?_⟩, by simp [intOf]; omega⟩
            rcases Nat.lt_or_ge r k with h1 | h1
            · exact HL.out r h1
            · rw [show r = k by omega, hl.out]
              exact hb
          · go_wp2
            go_ret
            exact ⟨BoolP.f, rfl⟩
        · go_wp2
          go_ret
          exact ⟨BoolP.f, rfl⟩
      · go_wp2
        go_ret
        exact ⟨BoolP.t fun r hr => HL.out r (by omega), rfl⟩
  · go_enter Try.func13, Try.ntmps13
    go_wp2
    go_ret
    exact ⟨BoolP.f, rfl⟩

set_option maxHeartbeats 2000000 in
theorem sorted_any (a : Option Addr) (N cap : Nat) (A : Nat → Option Addr) (L C : Nat → Nat) (t : Nat → Nat → Int) (w : World) (hT : TSi w a N cap A L C t) :
    Calls Try.prog 6 #[.slice a N cap] w fun e w' => BoolP (∀ r, r < N → ∀ j, j + 1 < L r → t r j ≤ t r (j + 1)) e ∧ Below w.heap.size w w' := by
  have HT := hide hT
  have hcap := hT.cap
  unfold maxLen at hcap
  clear hT
  go_enter Try.func6, Try.ntmps6
  go_wp2
  go_loopg [3] N (fun g i wr => ∃ k : Nat, i = .int .i64 k ∧ k ≤ N ∧ g = N - k ∧ Hid (Below w.heap.size w wr) ∧ Hid (∀ r, r < k → ∀ j, j + 1 < L r → t r j ≤ t r (j + 1)))
  case atStart => exact ⟨0, rfl, by omega, by omega, Below.refl _ _, fun r hr => by omega⟩
  case round =>
    obtain ⟨k, rfl, hk, hg, HB, HS⟩ := hrel
    by_cases hlt : k < N
    · obtain ⟨x, rfl⟩ := HT.out.ptr (by omega)
      have HTr : Hid (TSi wr (some x) N cap A L C t) := HT.out.below HB.out
      have hc := HTr.out.row x rfl k hlt
      obtain ⟨l, hl⟩ : ∃ l, Hid (L k = l) := ⟨_, rfl⟩
      obtain ⟨ra, hra⟩ : ∃ ra, Hid (A k = ra) := ⟨_, rfl⟩
      have hlc := (HT.out.rcap k hlt).2
      have hlr := (HT.out.rcap k hlt).1
      unfold maxLen at hlc
      rw [hl.out, hra.out] at hc
      rw [hl.out] at hlr
      obtain ⟨gK, hgK⟩ : ∃ x, x = gk := ⟨_, rfl⟩
      subst hgK
      obtain ⟨wo, rfl⟩ : ∃ wo : World, wo = wr := ⟨_, rfl⟩
      go_wp2
      go_loopg [5] l (fun g j wr => ∃ m : Nat, j = .int .i64 m ∧ 1 ≤ m ∧ (m ≤ l ∨ m = 1) ∧ g = l + 1 - m ∧ Hid (Below w.heap.size w wr) ∧ Hid (∀ j, j + 1 < m → t k j ≤ t k (j + 1)))
      case atStart => exact ⟨1, rfl, by omega, .inr rfl, by omega, HB, fun j hj => by omega⟩
      case round =>
        obtain ⟨m, rfl, hm1, hm2, hg2, HB2, HS2⟩ := hrel
        by_cases hml : m < l
        · cases ra with
          | none =>
            exfalso
            have := HT.out.nil k hlt hra.out
            rw [hl.out] at this
            omega
          | some y =>
            have HT2 := (HT.out.below HB2.out).cell k hlt y hra.out
            have g1 := HT2 m (by rw [hl.out]; exact hml)
            have g2 := HT2 (m - 1) (by rw [hl.out]; omega)
            obtain ⟨p, hp⟩ : ∃ p, Hid (t k m = p) := ⟨_, rfl⟩
            obtain ⟨q, hq⟩ : ∃ q, Hid (t k (m - 1) = q) := ⟨_, rfl⟩
            rw [hp.out] at g1
            rw [hq.out] at g2
            clear HT2 hc
            by_cases hpq : p < q
            · go_wp2
              go_region
              go_wp2
              go_ret
              exact ⟨BoolP.f, HB2.out.drew⟩
            · go_wp2
              go_region
              go_wp2
              go_roundg (l + 1 - (m + 1))
              case measure => omega
              case rel =>
                refine ⟨m + 1, by go_num, by omega, .inl (by omega), rfl, HB2.out.drew, fun j hj => ?_⟩
                rcases Nat.lt_or_ge (j + 1) m with h1 | h1
                · exact HS2.out j h1
                · have e1 : j + 1 = m := by omega
                  have e2 : j = m - 1 := by omega
                  rw [e1, hp.out, e2, hq.out]
                  omega
        · go_wp2
          go_roundg (N - (k + 1))
          case measure => omega
          case rel =>
            refine ⟨k + 1, by go_num, by omega, rfl, HB2, fun r hr j hj => ?_⟩
            rcases Nat.lt_or_ge r k with h1 | h1
            · exact HS.out r h1 j hj
            · have e1 : r = k := by omega
              subst e1
              rw [hl.out] at hj
              exact HS2.out j (by omega)
    · go_wp2
      go_ret
      exact ⟨BoolP.t fun r hr => HS.out r (by omega), HB.out⟩

/-- how many of the first n are at most h -/
def cnt (T : Nat → Int) (h : Int) : Nat → Nat
  | 0 => 0
  | n + 1 => cnt T h n + if T n ≤ h then 1 else 0
theorem cnt_le (T : Nat → Int) (h : Int) : ∀ n, cnt T h n ≤ n
  | 0 => Nat.le_refl _
  | n + 1 => by
    have := cnt_le T h n
    unfold cnt
    split <;> omega
theorem cnt_pos (T : Nat → Int) (h : Int) (j : Nat) (hj : T j ≤ h) : ∀ n, j < n → 1 ≤ cnt T h n
  | 0, hn => by omega
  | n + 1, hn => by
    unfold cnt
    by_cases e : j = n
    · subst e
      rw [if_pos hj]
      omega
    · have := cnt_pos T h j hj n (by omega)
      omega
def zdue (T : Nat → Int) (n : Nat) (h : Int) : Prop := 1 < n ∧ per (T (n / 2)) + 67108863 ≤ h
/-- what zzStart tells -/
def ZS (T : Nat → Int) (n : Nat) (h : Int) (st : Nat) (b : Bool) : Prop := (b = true ∧ zdue T n h ∧ st + 1 = cnt T h n) ∨ (b = false ∧ ¬ zdue T n h ∧ st = 0)
def ZSP (T : Nat → Int) (n : Nat) (h : Int) (e : Ending) : Prop := ∃ st b, e = .returned (.tuple #[.int .i64 (st : Nat), .bool b]) ∧ ZS T n h st b
theorem ZSP.f {T : Nat → Int} {n : Nat} {h : Int} (hn : ¬ zdue T n h) : ZSP T n h (.returned (.tuple #[.int .i64 0, .bool false])) := ⟨0, false, rfl, .inr ⟨rfl, hn, rfl⟩⟩
theorem ZSP.t {T : Nat → Int} {n : Nat} {h : Int} {st : Nat} {z : Int} (hz : z = st) (hd : zdue T n h) (hs : st + 1 = cnt T h n) : ZSP T n h (.returned (.tuple #[.int .i64 z, .bool true])) := ⟨st, true, by rw [hz], .inl ⟨rfl, hd, hs⟩⟩

set_option maxHeartbeats 2000000 in
theorem start_any (ra : Option Addr) (n rc : Nat) (T : Nat → Int) (h : Int) (w : World) (hn : n ≤ 1048576) (hnil : ra = none → n = 0) (hc : ∀ y, ra = some y → ∀ c, c < n → w.cell? (y.add c) = some (.int .u64 (T c))) (hf : ∀ c, c < n → 0 ≤ T c ∧ T c ≤ 18446744073709551615) :
    Calls Try.prog 9 #[.slice ra n rc, .int .u64 h] w fun e w' => ZSP T n h e ∧ w' = w := by
  by_cases h1 : 1 < n
  · cases ra with
    | none => have := hnil rfl; omega
    | some y =>
      have HC := hide (hc y rfl)
      clear hc hnil
      have g0 := HC.out (n / 2) (by omega)
      obtain ⟨u, hu⟩ : ∃ u, Hid (T (n / 2) = u) := ⟨_, rfl⟩
      rw [hu.out] at g0
      have hor : bits .or .u64 u 67108863 = per u + 67108863 := by
        have := hf (n / 2) (by omega)
        rw [hu.out] at this
        exact or_mask u this.1 this.2
      obtain ⟨d, hd⟩ : ∃ d, Hid (per u + 67108863 = d) := ⟨_, rfl⟩
      rw [hd.out] at hor
      clear hf
      by_cases hdh : h < d
      · go_enter Try.func9, Try.ntmps9
        go_wp2
        go_ret2
        refine ⟨ZSP.f fun hz => ?_, rfl⟩
        have := hz.2
        rw [hu.out, hd.out] at this
        omega
      · have HZ : Hid (zdue T n h) := ⟨h1, by rw [hu.out, hd.out]; omega⟩
        have HP : Hid (1 ≤ cnt T h n) := cnt_pos T h (n / 2) (by
          have h2 := HZ.out.2
          have h3 := per_le (T (n / 2))
          omega) n (by omega)
        go_enter Try.func9, Try.ntmps9
        go_wp2
        go_loop [7, 8] (fun j i => ∃ k m : Nat, j = .int .i64 m ∧ i = .int .i64 k ∧ k ≤ n ∧ m ≤ k ∧ Hid (m = cnt T h k)) (fun _ i => n - (intOf i).toNat)
        case atStart => exact ⟨0, 0, rfl, rfl, by omega, by omega, rfl⟩
        case round =>
          obtain ⟨k, m, rfl, rfl, hk, hmk, HM⟩ := hrel
          by_cases hlt : k < n
          · have gk := HC.out k hlt
            obtain ⟨v, hv⟩ : ∃ v, Hid (T k = v) := ⟨_, rfl⟩
            rw [hv.out] at gk
            by_cases hvh : v ≤ h
            · go_wp2
              refine ⟨⟨k + 1, m + 1, by go_num, by go_num, by omega, by omega, ?_⟩, by simp [intOf]; omega⟩
              show m + 1 = cnt T h (k + 1)
              unfold cnt
              rw [hv.out, if_pos hvh, HM.out]
            · go_wp2
              refine ⟨⟨k + 1, m, by go_num, by go_num, by omega, by omega, ?_⟩, by simp [intOf]; omega⟩
              show m = cnt T h (k + 1)
              unfold cnt
              rw [hv.out, if_neg hvh, HM.out]
              rfl
          · obtain rfl : k = n := by omega
            go_wp2
            go_ret2
            have h2 := HM.out
            have h3 := HP.out
            exact ⟨ZSP.t (st := m - 1) (by omega) HZ.out (by omega), rfl⟩
  · have hz : ¬ zdue T n h := fun hz => h1 hz.1
    have HZ := hide hz
    clear hz
    go_enter Try.func9, Try.ntmps9
    go_wp2
    go_ret2
    exact ⟨ZSP.f HZ.out, rfl⟩
end Go.Proofs.Qxb6630565a
