/-
  Decide: implied consent that has expired.
-/
import Derived.Test.Qxb6629324aDecEnv
import Derived.Test.Qxb6629324aDecH
namespace Go.Proofs.Qxb6629324a
open Go.ChangeShapes Go.WideShapes Go.ChangeAt Go.RowKit

set_option maxRecDepth 20000 in
set_option maxHeartbeats 1000000 in
theorem decide_expired (nm lb : ByteArray) (ty md : Int) (smsP : Option Addr) (ta : Option Addr) (tl tc : Nat) (hrsP : Option Addr) (ch ad : ByteArray) (ps p1 p2 ts t1 t2 n0 s0 n1 s1 n2 s2 inb mo : Int) (ich iad : ByteArray) (w : World) (sms : Option Int) (hp : PtrIs w smsP sms) (hbw : bw (n0 == 0 && s0 == 0) (n1 == 0 && s1 == 0) (n2 == 0 && s2 == 0) ty = -1) (M : Int) (hM : mdl ty md sms (emailB ch) = M) (h2 : M ≠ 2) (S : Int) (hS : (if keep (ps != 2) ts = 0 then ps else keep (ps != 2) ts) = S) (h : S ≠ 1) (h' : S ≠ 2) (h1 : M ≠ 1) (b off : Nat) (hh : hrsP = some ⟨b, off, none⟩) (v : Int) (hpv0 : PtrIs w (some ⟨b, off, none⟩) (some v)) (hi1 : -73786976294838206464 ≤ inb) (hi2 : inb ≤ 73786976294838206464) (hI : inbZ ich iad (ns inb) (sc inb) = false) (L : Bool) (hL : decide (mo < inb + IntKind.i64.wrap (v * 3600000000000)) = L) (hl : L = false) :
    Calls Try.prog 10 #[.agg #[.string nm, .string lb, .int .i64 ty, .int .i64 md, .pointer smsP, .slice ta tl tc, .pointer hrsP], .agg #[.string ch, .string ad], .agg #[.int .i64 ps, .int .u64 p1, .int .i64 p2, .pointer none, .int .i64 ts, .int .u64 t1, .int .i64 t2, .pointer none, .int .u64 n0, .int .i64 s0, .pointer none, .int .u64 n1, .int .i64 s1, .pointer none, .int .u64 n2, .int .i64 s2, .pointer none, .string ich, .string iad, .int .u64 (ns inb), .int .i64 (sc inb), .pointer none], .agg #[.int .u64 (ns mo), .int .i64 (sc mo), .pointer none]] w fun e w' =>
      e = .returned (.agg #[.bool false, .int .i64 6, .int .i64 0, .int .u64 0, .int .i64 0, .pointer none, .int .i64 0, .int .u64 0, .int .i64 0, .pointer none, .int .u64 0, .int .i64 0, .pointer none, .int .u64 0, .int .i64 0, .pointer none, .int .u64 0, .int .i64 0, .pointer none, .string ich, .string iad, .int .u64 (ns inb), .int .i64 (sc inb), .pointer none]) ∧ Below w.heap.size w w' := by
  have HBL := hide (fun w => blocking_none n0 s0 n1 s1 n2 s2 ty hbw w)
  have hmd := fun w h => modelFor_any nm lb ty md smsP ta tl tc hrsP ch ad sms w h
  rw [hM] at hmd
  have HMD := hide hmd
  clear hbw hmd hM
  have hlt := fun w => latest_any ps p1 p2 (keep (ps != 2) ts) (keep (ps != 2) t1) (keep (ps != 2) t2) 0 0 0 0 0 0 0 0 ⟨#[]⟩ ⟨#[]⟩ w
  rw [hS] at hlt
  have HLT := hide hlt
  clear hlt hS
  have q2 : (M == 2) = false := beq_eq_false_iff_ne.2 h2
  clear h2
  have q3 : (S == 1) = false := beq_eq_false_iff_ne.2 h
  have q4 : (S == 2) = false := beq_eq_false_iff_ne.2 h'
  clear h h'
  have q5 : (M == 1) = false := beq_eq_false_iff_ne.2 h1
  clear h1
  subst hh
  have e50 := eq50 ich iad (ns inb) (sc inb)
  rw [hI] at e50
  clear hI
  have HEN : Hid (∀ w, PtrIs w (some ⟨b, off, none⟩) (some v) → Calls Try.prog 22 #[.agg #[.string nm, .string lb, .int .i64 ty, .int .i64 md, .pointer smsP, .slice ta tl tc, .pointer (some ⟨b, off, none⟩)], .agg #[.int .u64 (ns inb), .int .i64 (sc inb), .pointer none]] w fun e w' =>
      e = .returned (.agg #[.int .u64 (ns (inb + IntKind.i64.wrap (v * 3600000000000))), .int .i64 (sc (inb + IntKind.i64.wrap (v * 3600000000000))), .pointer none]) ∧ Below w.heap.size w w') := by
    intro w h
    rcases h with ⟨h, _⟩ | ⟨b', off', v', h1, h2, h3, h4⟩
    · exact absurd h (by simp)
    · simp only [Option.some.injEq, Addr.mk.injEq, and_true] at h1 h2
      obtain ⟨rfl, rfl⟩ := h1
      subst h2
      exact ends_any nm lb ty md smsP ta tl tc b off v inb w h3 h4 hi1 hi2
  have hbf := fun w => before_any mo (inb + IntKind.i64.wrap (v * 3600000000000)) w
  rw [hL] at hbf
  have HBF := hide hbf
  clear hbf hL
  subst hl
  go_enter Try.func10, Try.ntmps10
  go_wp2_with fail
  refine (HBL.out _).mono ?_
  rintro e w1 ⟨rfl, hb1⟩
  have E1 := hide ((DEnv.start w _ _ _ _ _).step hb1)
  have hz1 := E1.out.hz
  clear hb1
  go_wp2_with (first
    | (refine wpList_store_last rfl 48 _ _ rfl rfl rfl ?_ (by exact Try.size48) (by rfl) (by rfl) ?_; (simp))
    | (refine wpList_load_blk rfl 36 _ rfl rfl #[.string nm, .string lb, .int .i64 ty, .int .i64 md, .pointer smsP, .slice ta tl tc, .pointer (some ⟨b, off, none⟩)] 36 _ ?_ Try.underlying36 rfl (by exact Try.size36) ?_; exact (E1.out.alloc _).pur)
    | (refine wpList_load_blk rfl 39 _ rfl rfl #[.string ch, .string ad] 39 _ ?_ Try.underlying39 rfl (by exact Try.size39) ?_; exact (E1.out.alloc _).poi))
  refine (HMD.out _ (hp.mono (E1.out.alloc _).below)).mono ?_
  rintro e w2 ⟨rfl, hb2⟩
  have E2 := hide ((E1.out.alloc _).step hb2)
  have hz2 := E2.out.hz
  clear hb2 hz1
  go_wp2_with (refine wpList_load_blk rfl 52 (.tmp 6) rfl rfl #[.int .i64 ps, .int .u64 p1, .int .i64 p2, .pointer none, .int .i64 ts, .int .u64 t1, .int .i64 t2, .pointer none, .int .u64 n0, .int .i64 s0, .pointer none, .int .u64 n1, .int .i64 s1, .pointer none, .int .u64 n2, .int .i64 s2, .pointer none, .string ich, .string iad, .int .u64 (ns inb), .int .i64 (sc inb), .pointer none] 52 _ ?_ Try.underlying52 rfl (by exact Try.size52) ?_; exact E2.out.rcd)
  refine (weighed_any _ _ _ _ _ _ _ _ _ _ _ _ _ _ _ _ _).mono ?_
  rintro e w3 ⟨rfl, hb3⟩
  have E3 := hide (E2.out.step hb3)
  have hz3 := E3.out.hz
  clear hb3 hz2
  go_wp2_with (first
    | (refine wpList_store_last rfl 52 (.tmp 12) _ rfl rfl rfl ?_ (by exact Try.size52) (by rfl) (by rfl) ?_; (simp))
    | (refine wpList_load_blk rfl 52 (.tmp 12) rfl rfl #[.int .i64 ps, .int .u64 p1, .int .i64 p2, .pointer none, .int .i64 (keep (ps != 2) ts), .int .u64 (keep (ps != 2) t1), .int .i64 (keep (ps != 2) t2), .pointer none, .int .u64 0, .int .i64 0, .pointer none, .int .u64 0, .int .i64 0, .pointer none, .int .u64 0, .int .i64 0, .pointer none, .string ⟨#[]⟩, .string ⟨#[]⟩, .int .u64 0, .int .i64 0, .pointer none] 52 _ ?_ Try.underlying52 rfl (by exact Try.size52) ?_; exact heap_at _ _ _ rfl))
  refine (HLT.out _).mono ?_
  rintro e w4 ⟨rfl, hb4⟩
  have E4 := hide ((E3.out.alloc _).step hb4)
  have hz4 := E4.out.hz
  have K4 := hide (below_blk hb4 (by simp) (heap_at _ _ _ rfl))
  clear hb4 hz3
  have c6 : w4.cell? ⟨w.heap.size, 6, none⟩ = some (.pointer (some ⟨b, off, none⟩)) := (cell_of_row w4 _ 6 _ _ _ E4.out.pur).trans rfl
  have c17 : w4.cell? ⟨w.heap.size + 1 + 1, 17, none⟩ = some (.string ich) := (cell_of_row w4 _ 17 _ _ _ E4.out.rcd).trans rfl
  have c18 : w4.cell? ⟨w.heap.size + 1 + 1, 18, none⟩ = some (.string iad) := (cell_of_row w4 _ 18 _ _ _ E4.out.rcd).trans rfl
  have c19 : w4.cell? ⟨w.heap.size + 1 + 1, 19, none⟩ = some (.int .u64 (ns inb)) := (cell_of_row w4 _ 19 _ _ _ E4.out.rcd).trans rfl
  have c20 : w4.cell? ⟨w.heap.size + 1 + 1, 20, none⟩ = some (.int .i64 (sc inb)) := (cell_of_row w4 _ 20 _ _ _ E4.out.rcd).trans rfl
  have c21 : w4.cell? ⟨w.heap.size + 1 + 1, 21, none⟩ = some (.pointer none) := (cell_of_row w4 _ 21 _ _ _ E4.out.rcd).trans rfl
  go_wp2_with (first
    | (refine wpList_store_last rfl 52 (.tmp 13) _ rfl rfl rfl ?_ (by exact Try.size52) (by rfl) (by rfl) ?_; (simp)))
  have E5 := hide ((E4.out.alloc (.cells #[.int .i64 0, .int .u64 0, .int .i64 0, .pointer none, .int .i64 0, .int .u64 0, .int .i64 0, .pointer none, .int .u64 0, .int .i64 0, .pointer none, .int .u64 0, .int .i64 0, .pointer none, .int .u64 0, .int .i64 0, .pointer none, .string ich, .string iad, .int .u64 (ns inb), .int .i64 (sc inb), .pointer none] 52)).drew)
  have K5 := hide (heap_at w4 (.cells #[.int .i64 0, .int .u64 0, .int .i64 0, .pointer none, .int .i64 0, .int .u64 0, .int .i64 0, .pointer none, .int .u64 0, .int .i64 0, .pointer none, .int .u64 0, .int .i64 0, .pointer none, .int .u64 0, .int .i64 0, .pointer none, .string ich, .string iad, .int .u64 (ns inb), .int .i64 (sc inb), .pointer none] 52) w4.heap.size rfl)
  have hpv := hide (hpv0.mono E5.out.below)
  go_region_held3 (fun w' => w'.cell? ⟨w.heap.size, 0, none⟩ = some (.string nm) ∧ w'.cell? ⟨w.heap.size, 1, none⟩ = some (.string lb) ∧ w'.cell? ⟨w.heap.size, 2, none⟩ = some (.int .i64 ty) ∧ w'.cell? ⟨w.heap.size, 3, none⟩ = some (.int .i64 md) ∧ w'.cell? ⟨w.heap.size, 4, none⟩ = some (.pointer smsP) ∧ w'.cell? ⟨w.heap.size, 5, none⟩ = some (.slice ta tl tc) ∧ w'.cell? ⟨w.heap.size, 6, none⟩ = some (.pointer (some ⟨b, off, none⟩)) ∧ w'.cell? ⟨w.heap.size + 1 + 1, 19, none⟩ = some (.int .u64 (ns inb)) ∧ w'.cell? ⟨w.heap.size + 1 + 1, 20, none⟩ = some (.int .i64 (sc inb)) ∧ w'.cell? ⟨w.heap.size + 1 + 1, 21, none⟩ = some (.pointer none) ∧ w'.cell? ⟨w.heap.size + 1 + 1 + 1, 0, none⟩ = some (.int .u64 (ns mo)) ∧ w'.cell? ⟨w.heap.size + 1 + 1 + 1, 1, none⟩ = some (.int .i64 (sc mo)) ∧ w'.cell? ⟨w.heap.size + 1 + 1 + 1, 2, none⟩ = some (.pointer none)) (first | exact held_env E7.out | exact held_env E6.out | exact held_env E5.out)
    (first
      | (go_at_call 22; refine (HEN.out _ hpv.out).mono ?_; rintro e w6 ⟨rfl, hb6⟩; have E6 := hide (E5.out.step hb6); have K6 := hide (below_blk hb6 (by simp) K5.out))
      | (go_at_call 21; refine (HBF.out _).mono ?_; rintro e w7 ⟨rfl, hb7⟩; have E7 := hide (E6.out.step hb7); have K7 := hide (below_blk hb7 (by have := lt_of_blk K6.out; omega) K6.out)))
  go_wp2_with (first
    | (refine wpList_load_blk rfl 52 (.tmp 13) rfl rfl #[.int .i64 0, .int .u64 0, .int .i64 0, .pointer none, .int .i64 0, .int .u64 0, .int .i64 0, .pointer none, .int .u64 0, .int .i64 0, .pointer none, .int .u64 0, .int .i64 0, .pointer none, .int .u64 0, .int .i64 0, .pointer none, .string ich, .string iad, .int .u64 (ns inb), .int .i64 (sc inb), .pointer none] 52 _ ?_ Try.underlying52 rfl (by exact Try.size52) ?_; exact K7.out)
    | (refine wpList_store_blk rfl 57 _ _ rfl rfl rfl #[.bool false, .int .i64 0, .int .i64 0, .int .u64 0, .int .i64 0, .pointer none, .int .i64 0, .int .u64 0, .int .i64 0, .pointer none, .int .u64 0, .int .i64 0, .pointer none, .int .u64 0, .int .i64 0, .pointer none, .int .u64 0, .int .i64 0, .pointer none, .string ⟨#[]⟩, .string ⟨#[]⟩, .int .u64 0, .int .i64 0, .pointer none] 57 ?_ (by exact Try.size57) (by rfl) (by rfl) ?_; exact E7.out.res))
  refine bodyPost_ret (v := .agg #[.bool false, .int .i64 6, .int .i64 0, .int .u64 0, .int .i64 0, .pointer none, .int .i64 0, .int .u64 0, .int .i64 0, .pointer none, .int .u64 0, .int .i64 0, .pointer none, .int .u64 0, .int .i64 0, .pointer none, .int .u64 0, .int .i64 0, .pointer none, .string ich, .string iad, .int .u64 (ns inb), .int .i64 (sc inb), .pointer none]) ?_ rfl ⟨rfl, ?_⟩
  · exact results_cell_row Try.results10 _ _ _ 57 _ (0, 0) _ rfl (heap_setRow_same _ _ #[.bool false, .int .i64 0, .int .i64 0, .int .u64 0, .int .i64 0, .pointer none, .int .i64 0, .int .u64 0, .int .i64 0, .pointer none, .int .u64 0, .int .i64 0, .pointer none, .int .u64 0, .int .i64 0, .pointer none, .int .u64 0, .int .i64 0, .pointer none, .string ⟨#[]⟩, .string ⟨#[]⟩, .int .u64 0, .int .i64 0, .pointer none] _ _ E7.out.res) Try.underlying57 rfl Try.size57
  · exact Below.setRow E7.out.below (by omega) _

end Go.Proofs.Qxb6629324a
