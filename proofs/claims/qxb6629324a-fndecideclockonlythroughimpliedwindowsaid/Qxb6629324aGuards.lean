/-
  The laws' two guards: zzBytes_.. and consentB1TooBig.
-/
import Derived.Test.Qxb6629324aPurp
namespace Go.Proofs.Qxb6629324a
open Go.ChangeShapes Go.WideShapes Go.ChangeAt Go.RowKit

theorem Tops.below {w w' : World} {ta : Option Addr} {tl : Nat} (h : Tops w ta tl) (hb : Below w.heap.size w w') : Tops w' ta tl := by
  rcases h with h | ⟨tb, toff, h1, h2⟩
  · exact .inl h
  · refine .inr ⟨tb, toff, h1, fun i hi => ?_⟩
    obtain ⟨s, s', a, b, c, d⟩ := h2 i hi
    exact ⟨s, s', (hb.cell (p := ⟨tb, toff + i * 2, none⟩) (block_lt_of_cell a)).trans a, (hb.cell (p := ⟨tb, toff + i * 2 + 1, none⟩) (block_lt_of_cell b)).trans b, c, d⟩

/-- it answers some bool, and nothing that was there has turned -/
def RetB (w : World) (e : Ending) (w' : World) : Prop := ∃ b : Bool, e = .returned (.bool b) ∧ Below w.heap.size w w'
theorem RetB.mk {w w' : World} (b : Bool) (h : Below w.heap.size w w') : RetB w (.returned (.bool b)) w' := ⟨b, rfl, h⟩

set_option maxHeartbeats 1000000 in
theorem zzBytes5 (nm lb ch ad ich iad : ByteArray) (ty md ps pa ts tA x0 x1 x2 inb mo : Int) (ta : Option Addr) (tl tc : Nat) (smsP hrsP : Option Addr) (w : World) (ht : Tops w ta tl) (htl : tl ≤ maxLen)
    (h1 : nm.size ≤ maxLen) (h2 : lb.size ≤ maxLen) (h3 : ch.size ≤ maxLen) (h4 : ad.size ≤ maxLen) (h5 : ich.size ≤ maxLen) (h6 : iad.size ≤ maxLen) :
    Calls Try.prog 5 #[.agg #[.string nm, .string lb, .int .i64 ty, .int .i64 md, .pointer smsP, .slice ta tl tc, .pointer hrsP], .string ch, .string ad, .agg #[.int .i64 ps, .int .i64 pa, .int .i64 ts, .int .i64 tA, .int .i64 x0, .int .i64 x1, .int .i64 x2, .string ich, .string iad, .int .i64 inb], .int .i64 mo] w fun e w' => RetB w e w' := by
  unfold maxLen at htl h1 h2 h3 h4 h5 h6
  go_enter Try.func5, Try.ntmps5
  go_wp2
  all_goals try (go_ret; exact RetB.mk _ (((Below.refl _ _).alloc (Nat.le_refl _) _).alloc (by simp) _))
  go_loop [11, 12] (fun z i => ∃ (k : Nat) (x : Int), k ≤ tl ∧ i = .int .i64 k ∧ z = .int .i64 x ∧ 0 ≤ x ∧ x ≤ 1048576) (fun _ i => tl - (intOf i).toNat)
  case atStart => exact ⟨0, _, Nat.zero_le _, rfl, rfl, by omega, by omega⟩
  case round =>
    obtain ⟨k, x, hk, rfl, rfl, hx0, hx1⟩ := hrel
    by_cases hlt : k < tl
    · rcases ht with h0 | ⟨tb, toff, hta, hcs⟩
      · omega
      · subst hta
        obtain ⟨s1, s2, hs1, hs2, hsz1, hsz2⟩ := hcs k hlt
        have htb : tb < w.heap.size := block_lt_of_cell hs1
        have hlt' : (k : Int) < (tl : Int) := by omega
        unfold maxLen at hsz1 hsz2
        clear hcs
        go_wp2
        all_goals first | (go_ret; exact RetB.mk _ (((Below.refl _ _).alloc (Nat.le_refl _) _).alloc (by simp) _)) | skip
        go_round
        case rel => exact ⟨k + 1, _, by omega, by go_num, rfl, by omega, by omega⟩
        case measure => go_light; simp [intOf]; omega
    · go_wp2
      all_goals (go_ret; exact RetB.mk _ (((Below.refl _ _).alloc (Nat.le_refl _) _).alloc (by simp) _))
set_option maxHeartbeats 1000000 in
theorem zzBytes12 (nm lb ch ad ich iad : ByteArray) (ty md ps pa ts tA x0 x1 x2 inb mo : Int) (ta : Option Addr) (tl tc : Nat) (smsP hrsP : Option Addr) (w : World) (ht : Tops w ta tl) (htl : tl ≤ maxLen)
    (h1 : nm.size ≤ maxLen) (h2 : lb.size ≤ maxLen) (h3 : ch.size ≤ maxLen) (h4 : ad.size ≤ maxLen) (h5 : ich.size ≤ maxLen) (h6 : iad.size ≤ maxLen) :
    Calls Try.prog 12 #[.agg #[.string nm, .string lb, .int .i64 ty, .int .i64 md, .pointer smsP, .slice ta tl tc, .pointer hrsP], .string ch, .string ad, .agg #[.int .i64 ps, .int .i64 pa, .int .i64 ts, .int .i64 tA, .int .i64 x0, .int .i64 x1, .int .i64 x2, .string ich, .string iad, .int .i64 inb], .int .i64 mo] w fun e w' => RetB w e w' := by
  unfold maxLen at htl h1 h2 h3 h4 h5 h6
  go_enter Try.func12, Try.ntmps12
  go_wp2
  all_goals try (go_ret; exact RetB.mk _ (((Below.refl _ _).alloc (Nat.le_refl _) _).alloc (by simp) _))
  go_loop [11, 12] (fun z i => ∃ (k : Nat) (x : Int), k ≤ tl ∧ i = .int .i64 k ∧ z = .int .i64 x ∧ 0 ≤ x ∧ x ≤ 1048576) (fun _ i => tl - (intOf i).toNat)
  case atStart => exact ⟨0, _, Nat.zero_le _, rfl, rfl, by omega, by omega⟩
  case round =>
    obtain ⟨k, x, hk, rfl, rfl, hx0, hx1⟩ := hrel
    by_cases hlt : k < tl
    · rcases ht with h0 | ⟨tb, toff, hta, hcs⟩
      · omega
      · subst hta
        obtain ⟨s1, s2, hs1, hs2, hsz1, hsz2⟩ := hcs k hlt
        have htb : tb < w.heap.size := block_lt_of_cell hs1
        have hlt' : (k : Int) < (tl : Int) := by omega
        unfold maxLen at hsz1 hsz2
        clear hcs
        go_wp2
        all_goals first | (go_ret; exact RetB.mk _ (((Below.refl _ _).alloc (Nat.le_refl _) _).alloc (by simp) _)) | skip
        go_round
        case rel => exact ⟨k + 1, _, by omega, by go_num, rfl, by omega, by omega⟩
        case measure => go_light; simp [intOf]; omega
    · go_wp2
      all_goals (go_ret; exact RetB.mk _ (((Below.refl _ _).alloc (Nat.le_refl _) _).alloc (by simp) _))
/-- consentB1TooBig: where it says no there are at most 1<<15 topics -/
def RetT (w : World) (tl : Nat) (e : Ending) (w' : World) : Prop := ∃ b : Bool, e = .returned (.bool b) ∧ (b = false → tl ≤ 32768) ∧ Below w.heap.size w w'
theorem RetT.mk {w w' : World} {tl : Nat} (b : Bool) (hb : b = false → tl ≤ 32768) (h : Below w.heap.size w w') : RetT w tl (.returned (.bool b)) w' := ⟨b, rfl, hb, h⟩

set_option maxHeartbeats 2000000 in
theorem tooBig_any (nm lb ch ad ich iad : ByteArray) (ty md ps pa ts tA x0 x1 x2 inb : Int) (ta : Option Addr) (tl tc : Nat) (smsP hrsP : Option Addr) (w : World) (ht : Tops w ta tl) (htl : tl ≤ maxLen)
    (h1 : nm.size ≤ maxLen) (h2 : lb.size ≤ maxLen) (h3 : ch.size ≤ maxLen) (h4 : ad.size ≤ maxLen) (h5 : ich.size ≤ maxLen) (h6 : iad.size ≤ maxLen) :
    Calls Try.prog 6 #[.agg #[.string nm, .string lb, .int .i64 ty, .int .i64 md, .pointer smsP, .slice ta tl tc, .pointer hrsP], .string ch, .string ad, .agg #[.int .i64 ps, .int .i64 pa, .int .i64 ts, .int .i64 tA, .int .i64 x0, .int .i64 x1, .int .i64 x2, .string ich, .string iad, .int .i64 inb]] w fun e w' => RetT w tl e w' := by
  unfold maxLen at htl h1 h2 h3 h4 h5 h6
  go_enter Try.func6, Try.ntmps6
  go_wp2
  all_goals try (go_ret; exact RetT.mk _ (fun h => by first | exact Bool.noConfusion h | (simp at h)) (((Below.refl _ _).alloc (Nat.le_refl _) _).alloc (by simp) _))
  have htl2 : tl ≤ 32768 := by omega
  go_loopw [9, 10] (fun z i wr => ∃ (k : Nat) (x : Int), k ≤ tl ∧ i = .int .i64 k ∧ z = .int .i64 x ∧ 0 ≤ x ∧ x ≤ 1048576 ∧ Hid (wr.heap[w.heap.size]? = some (.cells #[.string nm, .string lb, .int .i64 ty, .int .i64 md, .pointer smsP, .slice ta tl tc, .pointer hrsP] 25 (0, 0)) ∧ Below w.heap.size w wr)) (fun _ i _ => tl - (intOf i).toNat)
  case atStart => exact ⟨0, _, Nat.zero_le _, rfl, rfl, by omega, by omega, ⟨(heap_alloc_old _ _ (by simp)).trans (heap_at _ _ _ rfl), ((Below.refl _ _).alloc (Nat.le_refl _) _).alloc (by simp) _⟩⟩
  case round =>
    obtain ⟨k, x, hk, rfl, rfl, hx0, hx1, E⟩ := hrel
    have c5 : wr.cell? ⟨w.heap.size, 5, none⟩ = some (.slice ta tl tc) := (cell_of_row wr _ 5 _ _ _ E.out.1).trans rfl
    by_cases hlt : k < tl
    · rcases ht with h0 | ⟨tb, toff, hta, hcs⟩
      · omega
      · subst hta
        obtain ⟨s1, s2, hs1, hs2, hsz1, hsz2⟩ := hcs k hlt
        have htb : tb < w.heap.size := block_lt_of_cell hs1
        have d1 : wr.cell? ⟨tb, toff + k * 2, none⟩ = some (.string s1) := (E.out.2.cell (p := ⟨tb, toff + k * 2, none⟩) htb).trans hs1
        have d2 : wr.cell? ⟨tb, toff + k * 2 + 1, none⟩ = some (.string s2) := (E.out.2.cell (p := ⟨tb, toff + k * 2 + 1, none⟩) htb).trans hs2
        have hlt' : (k : Int) < (tl : Int) := by omega
        have hk0 : (0 : Int) ≤ (k : Int) := by omega
        unfold maxLen at hsz1 hsz2
        clear hcs hs1 hs2
        go_wp2
        all_goals try (go_ret; exact RetT.mk _ (fun h => by first | exact Bool.noConfusion h | (simp at h)) E.out.2)
        go_quiet (fail)
        go_wp2
        · go_ret
          exact RetT.mk _ (fun h => Bool.noConfusion h) (below_drewN E.out.2 _)
        · go_roundw
          case rel => exact ⟨k + 1, _, by omega, by go_num, rfl, by omega, by omega, ⟨E.out.1, below_drewN E.out.2 _⟩⟩
          case measure => go_light; simp [intOf]; omega
    · go_wp2
      go_ret
      exact RetT.mk _ (fun _ => htl2) E.out.2
end Go.Proofs.Qxb6629324a
