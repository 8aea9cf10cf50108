/-
  FnDecideSuppressionFirst: the walk.
-/
import Derived.Test.Qxb6629324aLawEnv
import Derived.Deep.DeepCutAuto
namespace Go.Proofs.Qxb6629324a
open Go.ChangeShapes Go.WideShapes Go.ChangeAt Go.RowKit

theorem bw_cases (z0 z1 z2 : Bool) (t : Int) : bw z0 z1 z2 t = 0 ∨ bw z0 z1 z2 t = 1 ∨ bw z0 z1 z2 t = 2 ∨ bw z0 z1 z2 t = -1 := by
  unfold bw
  split
  · exact .inl rfl
  · split
    · exact .inr (.inl rfl)
    · split
      · exact .inr (.inr (.inl rfl))
      · exact .inr (.inr (.inr rfl))
theorem bw_none (t : Int) : bw true true true t = -1 := by simp [bw]

/-- where a list blocks, that one is weighed alone -/
theorem dec_blocked (ty md : Int) (sms hrs : Option Int) (em : Bool) (ps p1 p2 ts t1 t2 x0 x1 x2 inb mo : Int) (ich iad : ByteArray) (B : Int) (hB : bw (x0 == 0) (x1 == 0) (x2 == 0) ty = B) (h : 0 ≤ B) :
    decF ty md sms hrs em ps p1 p2 ts t1 t2 (ns x0) (sc x0) (ns x1) (sc x1) (ns x2) (sc x2) inb mo ich iad = { al := false, re := 4, n0 := at_ B 0 (ns x0), s0 := at_ B 0 (sc x0), n1 := at_ B 1 (ns x1), s1 := at_ B 1 (sc x1), n2 := at_ B 2 (ns x2), s2 := at_ B 2 (sc x2) } := by
  unfold decF
  rw [zeq, zeq, zeq, hB, if_pos h]
/-- where none blocks, the suppressions count for nothing -/
theorem dec_free (ty md : Int) (sms hrs : Option Int) (em : Bool) (ps p1 p2 ts t1 t2 x0 x1 x2 inb mo : Int) (ich iad : ByteArray) (hB : bw (x0 == 0) (x1 == 0) (x2 == 0) ty = -1) :
    decF ty md sms hrs em ps p1 p2 ts t1 t2 (ns x0) (sc x0) (ns x1) (sc x1) (ns x2) (sc x2) inb mo ich iad = decF ty md sms hrs em ps p1 p2 ts t1 t2 0 0 0 0 0 0 inb mo ich iad := by
  unfold decF
  rw [zeq, zeq, zeq, hB, show ((0 : Int) == 0 && (0 : Int) == 0) = true from rfl, bw_none]
  rfl
theorem dec_reason (ty md : Int) (sms hrs : Option Int) (em : Bool) (ps p1 p2 ts t1 t2 inb mo : Int) (ich iad : ByteArray) :
    ((decF ty md sms hrs em ps p1 p2 ts t1 t2 0 0 0 0 0 0 inb mo ich iad).re == 4) = false := by
  unfold decF
  rw [show ((0 : Int) == 0 && (0 : Int) == 0) = true from rfl, bw_none]
  rw [if_neg (by decide)]
  repeat' split
  all_goals rfl

set_option maxRecDepth 20000 in
set_option maxHeartbeats 4000000 in
theorem law1_walk (nm lb ch ad ich iad : ByteArray) (ty md ps pa ts tA x0 x1 x2 inb mo : Int) (ta : Option Addr) (tl tc : Nat) (smsP hrsP : Option Addr) (sms hrs : Option Int) (w : World) (ht : Tops w ta tl) (htl : tl ≤ maxLen) (hp : PtrIs w smsP sms) (hq : PtrIs w hrsP hrs)
    (z1 : nm.size ≤ maxLen) (z2 : lb.size ≤ maxLen) (z3 : ch.size ≤ maxLen) (z4 : ad.size ≤ maxLen) (z5 : ich.size ≤ maxLen) (z6 : iad.size ≤ maxLen)
    (hpa1 : -9223372036854775808 ≤ pa) (hpa2 : pa ≤ 9223372036854775807) (htA1 : -9223372036854775808 ≤ tA) (htA2 : tA ≤ 9223372036854775807) (hx01 : -9223372036854775808 ≤ x0) (hx02 : x0 ≤ 9223372036854775807) (hx11 : -9223372036854775808 ≤ x1) (hx12 : x1 ≤ 9223372036854775807) (hx21 : -9223372036854775808 ≤ x2) (hx22 : x2 ≤ 9223372036854775807) (hinb1 : -9223372036854775808 ≤ inb) (hinb2 : inb ≤ 9223372036854775807) (hmo1 : -9223372036854775808 ≤ mo) (hmo2 : mo ≤ 9223372036854775807) :
    Calls Try.prog 3 #[.agg #[.string nm, .string lb, .int .i64 ty, .int .i64 md, .pointer smsP, .slice ta tl tc, .pointer hrsP], .string ch, .string ad, .agg #[.int .i64 ps, .int .i64 pa, .int .i64 ts, .int .i64 tA, .int .i64 x0, .int .i64 x1, .int .i64 x2, .string ich, .string iad, .int .i64 inb], .int .i64 mo] w fun e w' => e = .returned (.bool true) ∧ Below w.heap.size w w' := by
  have E0 := hide (LE.start w #[.string nm, .string lb, .int .i64 ty, .int .i64 md, .pointer smsP, .slice ta tl tc, .pointer hrsP] #[.int .i64 ps, .int .i64 pa, .int .i64 ts, .int .i64 tA, .int .i64 x0, .int .i64 x1, .int .i64 x2, .string ich, .string iad, .int .i64 inb] [(smsP, sms), (hrsP, hrs)] (by intro e he; simp only [List.mem_cons, List.not_mem_nil, or_false] at he; rcases he with rfl | rfl; exact hp; exact hq))
  go_enter Try.func3, Try.ntmps3
  go_wp2_with (first
    | (guard_target =~ wpList _ _ _ (Oper.mk _ (Op.load 25 (Operand.tmp 5)) _ _ _ _ :: _) _ _; refine wpList_load_blk rfl 25 (.tmp 5) rfl rfl #[.string nm, .string lb, .int .i64 ty, .int .i64 md, .pointer smsP, .slice ta tl tc, .pointer hrsP] 25 _ ?_ Try.underlying25 rfl (by exact Try.size25) ?_; exact E0.out.get 1 rfl)
    | (guard_target =~ wpList _ _ _ (Oper.mk _ (Op.load 28 (Operand.tmp 8)) _ _ _ _ :: _) _ _; refine wpList_load_blk rfl 28 (.tmp 8) rfl rfl #[.int .i64 ps, .int .i64 pa, .int .i64 ts, .int .i64 tA, .int .i64 x0, .int .i64 x1, .int .i64 x2, .string ich, .string iad, .int .i64 inb] 28 _ ?_ Try.underlying28 rfl (by exact Try.size28) ?_; exact E0.out.get 0 rfl))
  refine (zzBytes5 nm lb ch ad ich iad ty md ps pa ts tA x0 x1 x2 inb mo ta tl tc smsP hrsP _ (ht.below E0.out.below) htl z1 z2 z3 z4 z5 z6).mono ?_
  rintro e w1 ⟨b1, rfl, hb1⟩
  have E1 := hide (E0.out.step hb1)
  clear hb1 E0
  cases b1
  · go_wp2
    go_ret
    exact ⟨rfl, E1.out.below⟩
  go_wp2_with (first
    | (guard_target =~ wpList _ _ _ (Oper.mk _ (Op.load 25 (Operand.tmp 5)) _ _ _ _ :: _) _ _; refine wpList_load_blk rfl 25 (.tmp 5) rfl rfl #[.string nm, .string lb, .int .i64 ty, .int .i64 md, .pointer smsP, .slice ta tl tc, .pointer hrsP] 25 _ ?_ Try.underlying25 rfl (by exact Try.size25) ?_; exact E1.out.get 1 rfl)
    | (guard_target =~ wpList _ _ _ (Oper.mk _ (Op.load 28 (Operand.tmp 8)) _ _ _ _ :: _) _ _; refine wpList_load_blk rfl 28 (.tmp 8) rfl rfl #[.int .i64 ps, .int .i64 pa, .int .i64 ts, .int .i64 tA, .int .i64 x0, .int .i64 x1, .int .i64 x2, .string ich, .string iad, .int .i64 inb] 28 _ ?_ Try.underlying28 rfl (by exact Try.size28) ?_; exact E1.out.get 0 rfl))
  refine (tooBig_any nm lb ch ad ich iad ty md ps pa ts tA x0 x1 x2 inb ta tl tc smsP hrsP _ (ht.below E1.out.below) htl z1 z2 z3 z4 z5 z6).mono ?_
  rintro e w2 ⟨b2, rfl, hT, hb2⟩
  have E2 := hide (E1.out.step hb2)
  clear hb2 E1
  cases b2
  case true =>
    go_wp2
    go_ret
    exact ⟨rfl, E2.out.below⟩
  have htl2 := hT rfl
  clear hT
  go_wp2_with (first
    | (guard_target =~ wpList _ _ _ (Oper.mk _ (Op.load 25 (Operand.tmp 5)) _ _ _ _ :: _) _ _; refine wpList_load_blk rfl 25 (.tmp 5) rfl rfl #[.string nm, .string lb, .int .i64 ty, .int .i64 md, .pointer smsP, .slice ta tl tc, .pointer hrsP] 25 _ ?_ Try.underlying25 rfl (by exact Try.size25) ?_; exact E2.out.get 1 rfl))
  refine (purp_any nm lb ty md ta tl tc smsP hrsP sms hrs _ (E2.out.pt 0 rfl) (E2.out.pt 1 rfl) htl2 (ht.below E2.out.below)).mono ?_
  rintro e w3 ⟨sms', hrs', ta', tl', tc', rfl, hp3, hq3, hb3⟩
  have E3 := hide ((((E2.out.step hb3).ptrs (q' := [(sms', sms), (hrs', hrs)]) (by intro e he; simp only [List.mem_cons, List.not_mem_nil, or_false] at he; rcases he with rfl | rfl; exact hp3; exact hq3)).new #[.string nm, .string lb, .int .i64 ty, .int .i64 md, .pointer sms', .slice ta' tl' tc', .pointer hrs'] 36).newAt #[.string ch, .string ad] 39 (w3.heap.size + 1) (by simp))
  clear hb3 E2 hp3 hq3 ht
  go_wp2_with (first
    | (guard_target =~ wpList _ _ _ (Oper.mk _ (Op.store 36 (Operand.tmp 11) _) _ _ _ _ :: _) _ _; refine wpList_store_last rfl 36 (.tmp 11) _ rfl rfl rfl ?_ (by exact Try.size36) (by rfl) (by rfl) ?_; (first | rfl | simp))
    | (guard_target =~ wpList _ _ _ (Oper.mk _ (Op.load 28 (Operand.tmp 8)) _ _ _ _ :: _) _ _; refine wpList_load_blk rfl 28 (.tmp 8) rfl rfl #[.int .i64 ps, .int .i64 pa, .int .i64 ts, .int .i64 tA, .int .i64 x0, .int .i64 x1, .int .i64 x2, .string ich, .string iad, .int .i64 inb] 28 _ ?_ Try.underlying28 rfl (by exact Try.size28) ?_; exact E3.out.get 2 rfl))
  refine (recorded_any ps pa ts tA x0 x1 x2 inb ich iad _ hpa1 hpa2 htA1 htA2 hx01 hx02 hx11 hx12 hx21 hx22 hinb1 hinb2).mono ?_
  rintro e w5 ⟨rfl, hb5⟩
  have E5 := hide ((E3.out.step hb5).new #[.int .i64 ps, .int .u64 (ns pa), .int .i64 (sc pa), .pointer none, .int .i64 ts, .int .u64 (ns tA), .int .i64 (sc tA), .pointer none, .int .u64 (ns x0), .int .i64 (sc x0), .pointer none, .int .u64 (ns x1), .int .i64 (sc x1), .pointer none, .int .u64 (ns x2), .int .i64 (sc x2), .pointer none, .string ich, .string iad, .int .u64 (ns inb), .int .i64 (sc inb), .pointer none] 52)
  clear hb5 E3
  go_wp2_with (first
    | (guard_target =~ wpList _ _ _ (Oper.mk _ (Op.store 52 (Operand.tmp 13) _) _ _ _ _ :: _) _ _; refine wpList_store_last rfl 52 (.tmp 13) _ rfl rfl rfl ?_ (by exact Try.size52) (by rfl) (by rfl) ?_; (first | rfl | simp)))
  refine (time_any mo hmo1 hmo2 _).mono ?_
  rintro e w6 ⟨rfl, hb6⟩
  have E6 := hide ((E5.out.step hb6).new #[.int .u64 (ns mo), .int .i64 (sc mo), .pointer none] 44)
  clear hb6 E5
  go_wp2_with (first
    | (guard_target =~ wpList _ _ _ (Oper.mk _ (Op.store 44 (Operand.tmp 14) _) _ _ _ _ :: _) _ _; refine wpList_store_last rfl 44 (.tmp 14) _ rfl rfl rfl ?_ (by exact Try.size44) (by rfl) (by rfl) ?_; (first | rfl | simp))
    | (guard_target =~ wpList _ _ _ (Oper.mk _ (Op.load 36 (Operand.tmp 11)) _ _ _ _ :: _) _ _; refine wpList_load_blk rfl 36 (.tmp 11) rfl rfl #[.string nm, .string lb, .int .i64 ty, .int .i64 md, .pointer sms', .slice ta' tl' tc', .pointer hrs'] 36 _ ?_ Try.underlying36 rfl (by exact Try.size36) ?_; exact E6.out.get 3 rfl)
    | (guard_target =~ wpList _ _ _ (Oper.mk _ (Op.load 39 (Operand.tmp 12)) _ _ _ _ :: _) _ _; refine wpList_load_blk rfl 39 (.tmp 12) rfl rfl #[.string ch, .string ad] 39 _ ?_ Try.underlying39 rfl (by exact Try.size39) ?_; exact E6.out.get 2 rfl)
    | (guard_target =~ wpList _ _ _ (Oper.mk _ (Op.load 52 (Operand.tmp 13)) _ _ _ _ :: _) _ _; refine wpList_load_blk rfl 52 (.tmp 13) rfl rfl #[.int .i64 ps, .int .u64 (ns pa), .int .i64 (sc pa), .pointer none, .int .i64 ts, .int .u64 (ns tA), .int .i64 (sc tA), .pointer none, .int .u64 (ns x0), .int .i64 (sc x0), .pointer none, .int .u64 (ns x1), .int .i64 (sc x1), .pointer none, .int .u64 (ns x2), .int .i64 (sc x2), .pointer none, .string ich, .string iad, .int .u64 (ns inb), .int .i64 (sc inb), .pointer none] 52 _ ?_ Try.underlying52 rfl (by exact Try.size52) ?_; exact E6.out.get 1 rfl)
    | (guard_target =~ wpList _ _ _ (Oper.mk _ (Op.load 44 (Operand.tmp 14)) _ _ _ _ :: _) _ _; refine wpList_load_blk rfl 44 (.tmp 14) rfl rfl #[.int .u64 (ns mo), .int .i64 (sc mo), .pointer none] 44 _ ?_ Try.underlying44 rfl (by exact Try.size44) ?_; exact E6.out.get 0 rfl))
  obtain ⟨D1, HD1⟩ : ∃ D, Hid (decF ty md sms hrs (emailB ch) ps (ns pa) (sc pa) ts (ns tA) (sc tA) (ns x0) (sc x0) (ns x1) (sc x1) (ns x2) (sc x2) inb mo ich iad = D) := ⟨_, rfl⟩
  obtain ⟨D0, HD0⟩ : ∃ D, Hid (decF ty md sms hrs (emailB ch) ps (ns pa) (sc pa) ts (ns tA) (sc tA) 0 0 0 0 0 0 inb mo ich iad = D) := ⟨_, rfl⟩
  refine (decide_any nm lb ty md sms' ta' tl' tc' hrs' ch ad ps (ns pa) (sc pa) ts (ns tA) (sc tA) (ns x0) (sc x0) (ns x1) (sc x1) (ns x2) (sc x2) inb mo ich iad _ sms hrs (E6.out.pt 0 rfl) (E6.out.pt 1 rfl) (by omega) (by omega)).mono ?_
  rw [HD1.out]
  rintro e w7 ⟨rfl, hb7⟩
  have E7 := hide (((E6.out.step hb7).new D1.cells 57).newAt #[.int .i64 ps, .int .u64 (ns pa), .int .i64 (sc pa), .pointer none, .int .i64 ts, .int .u64 (ns tA), .int .i64 (sc tA), .pointer none, .int .u64 0, .int .i64 0, .pointer none, .int .u64 0, .int .i64 0, .pointer none, .int .u64 0, .int .i64 0, .pointer none, .string ich, .string iad, .int .u64 (ns inb), .int .i64 (sc inb), .pointer none] 52 (w7.heap.size + 1) (by simp))
  have E7a := hide ((E6.out.step hb7).new D1.cells 57)
  clear hb7 E6
  go_wp2_with (first
    | (guard_target =~ wpList _ _ _ (Oper.mk _ (Op.store 57 (Operand.tmp 15) _) _ _ _ _ :: _) _ _; refine wpList_store_last rfl 57 (.tmp 15) _ rfl rfl rfl ?_ (by exact Try.size57) (by rfl) (by rfl) ?_; (first | rfl | simp))
    | (guard_target =~ wpList _ _ _ (Oper.mk _ (Op.load 52 (Operand.tmp 13)) _ _ _ _ :: _) _ _; refine wpList_load_blk rfl 52 (.tmp 13) rfl rfl #[.int .i64 ps, .int .u64 (ns pa), .int .i64 (sc pa), .pointer none, .int .i64 ts, .int .u64 (ns tA), .int .i64 (sc tA), .pointer none, .int .u64 (ns x0), .int .i64 (sc x0), .pointer none, .int .u64 (ns x1), .int .i64 (sc x1), .pointer none, .int .u64 (ns x2), .int .i64 (sc x2), .pointer none, .string ich, .string iad, .int .u64 (ns inb), .int .i64 (sc inb), .pointer none] 52 _ ?_ Try.underlying52 rfl (by exact Try.size52) ?_; exact E7a.out.get 2 rfl)
    | (guard_target =~ wpList _ _ _ (Oper.mk _ (Op.store 52 (Operand.tmp 16) _) _ _ _ _ :: _) _ _; refine wpList_store_last rfl 52 (.tmp 16) _ rfl rfl rfl ?_ (by exact Try.size52) (by rfl) (by rfl) ?_; (first | rfl | simp))
    | (guard_target =~ wpList _ _ _ (Oper.mk _ (Op.load 36 (Operand.tmp 11)) _ _ _ _ :: _) _ _; refine wpList_load_blk rfl 36 (.tmp 11) rfl rfl #[.string nm, .string lb, .int .i64 ty, .int .i64 md, .pointer sms', .slice ta' tl' tc', .pointer hrs'] 36 _ ?_ Try.underlying36 rfl (by exact Try.size36) ?_; exact E7.out.get 5 rfl)
    | (guard_target =~ wpList _ _ _ (Oper.mk _ (Op.load 39 (Operand.tmp 12)) _ _ _ _ :: _) _ _; refine wpList_load_blk rfl 39 (.tmp 12) rfl rfl #[.string ch, .string ad] 39 _ ?_ Try.underlying39 rfl (by exact Try.size39) ?_; exact E7.out.get 4 rfl)
    | (guard_target =~ wpList _ _ _ (Oper.mk _ (Op.load 52 (Operand.tmp 16)) _ _ _ _ :: _) _ _; refine wpList_load_blk rfl 52 (.tmp 16) rfl rfl #[.int .i64 ps, .int .u64 (ns pa), .int .i64 (sc pa), .pointer none, .int .i64 ts, .int .u64 (ns tA), .int .i64 (sc tA), .pointer none, .int .u64 0, .int .i64 0, .pointer none, .int .u64 0, .int .i64 0, .pointer none, .int .u64 0, .int .i64 0, .pointer none, .string ich, .string iad, .int .u64 (ns inb), .int .i64 (sc inb), .pointer none] 52 _ ?_ Try.underlying52 rfl (by exact Try.size52) ?_; exact E7.out.get 0 rfl)
    | (guard_target =~ wpList _ _ _ (Oper.mk _ (Op.load 44 (Operand.tmp 14)) _ _ _ _ :: _) _ _; refine wpList_load_blk rfl 44 (.tmp 14) rfl rfl #[.int .u64 (ns mo), .int .i64 (sc mo), .pointer none] 44 _ ?_ Try.underlying44 rfl (by exact Try.size44) ?_; exact E7.out.get 2 rfl))
  clear E7a
  refine (decide_any nm lb ty md sms' ta' tl' tc' hrs' ch ad ps (ns pa) (sc pa) ts (ns tA) (sc tA) 0 0 0 0 0 0 inb mo ich iad _ sms hrs (E7.out.pt 0 rfl) (E7.out.pt 1 rfl) (by omega) (by omega)).mono ?_
  rw [HD0.out]
  rintro e w8 ⟨rfl, hb8⟩
  have E8 := hide ((E7.out.step hb8).new D0.cells 57)
  clear hb8 E7
  have c4 := (E8.out.cell 7 4 rfl rfl : _ = some (.int .i64 x0))
  have c5 := (E8.out.cell 7 5 rfl rfl : _ = some (.int .i64 x1))
  have c6 := (E8.out.cell 7 6 rfl rfl : _ = some (.int .i64 x2))
  have c2 := (E8.out.cell 8 2 rfl rfl : _ = some (.int .i64 ty))
  go_wp2_with (first
    | (guard_target =~ wpList _ _ _ (Oper.mk _ (Op.store 57 (Operand.tmp 17) _) _ _ _ _ :: _) _ _; refine wpList_store_last rfl 57 (.tmp 17) _ rfl rfl rfl ?_ (by exact Try.size57) (by rfl) (by rfl) ?_; (first | rfl | simp)))
  clear c4 c5 c6 c2
  refine (blockingB_any x0 x1 x2 ty _).mono ?_
  obtain ⟨B, hB⟩ : ∃ B, bw (x0 == 0) (x1 == 0) (x2 == 0) ty = B := ⟨_, rfl⟩
  have HB := hide hB
  rw [hB]
  clear hB
  rintro e w9 ⟨rfl, hb9⟩
  have E9 := hide (E8.out.step hb9)
  clear hb9 E8
  rcases bw_cases (x0 == 0) (x1 == 0) (x2 == 0) ty with h | h | h | h
  · have hBi : B = 0 := HB.out.symm.trans h
    subst hBi
    have HD := hide ((HD1.out.symm.trans (dec_blocked ty md sms hrs (emailB ch) ps (ns pa) (sc pa) ts (ns tA) (sc tA) x0 x1 x2 inb mo ich iad 0 HB.out (by decide))).trans (show _ = ({ al := false, re := 4, n0 := ns x0, s0 := sc x0 } : Dc) from rfl))
    clear h HD1 HD0 HB
    go_upto_region 16 with fail
    have c := (E9.out.cell 7 4 rfl rfl : _ = some (.int .i64 x0))
    have Ea := hide (E9.out.new #[.int .u64 0, .int .i64 0, .pointer none, .int .u64 0, .int .i64 0, .pointer none, .int .u64 0, .int .i64 0, .pointer none] 48)
    have hlt := lt_of_blk (E9.out.get 7 rfl)
    go_cut [] (fun wx => Hid (wx.heap[w9.heap.size]? = some (.cells #[.int .u64 (ns x0), .int .i64 (sc x0), .pointer none, .int .u64 0, .int .i64 0, .pointer none, .int .u64 0, .int .i64 0, .pointer none] 48 (0, 0)) ∧ wx.heap[w7.heap.size]? = some (.cells D1.cells 57 (0, 0)) ∧ Below w.heap.size w wx))
    case first =>
      go_wp2_with (go_at_call 9; refine (time_any x0 hx01 hx02 _).mono ?_; rintro e w10 ⟨rfl, hb10⟩; have Eb := hide (Ea.out.step hb10); have cs := fun i => cell_of_row w10 _ i _ _ _ (Eb.out.get 0 rfl); have fs := fun i => frozen_of_row w10 _ i _ _ (Eb.out.get 0 rfl))
      go_meet
      case rel =>
        have hne : w7.heap.size ≠ w9.heap.size := by have := lt_of_blk (E9.out.get 2 rfl); omega
        have hle := E9.out.below.size
        refine ⟨heap_setCell_same _ _ _ _ _ _ (heap_setCell_same _ _ _ _ _ _ (heap_setCell_same _ _ _ _ _ _ (Eb.out.get 0 rfl))), ?_, ((Eb.out.below.setCell (by exact hle) _).setCell (by exact hle) _).setCell (by exact hle) _⟩
        rw [heap_setCell_other _ _ _ _ (by exact hne), heap_setCell_other _ _ _ _ (by exact hne), heap_setCell_other _ _ _ _ (by exact hne)]
        exact Eb.out.get 3 rfl
    case rest =>
      have eD : ∀ w, (binOp .eql 57 (.agg D1.cells) (.agg (Dc.cells ({ al := false, re := 4, n0 := ns x0, s0 := sc x0 } : Dc)))).run Try.prog w = .ok (.bool true) w := by
        intro w
        rw [HD.out]
        exact eqD _ w
      have eD' : ∀ w, (binOp .eql 57 (.agg D1.cells) (.agg #[.bool false, .int .i64 4, .int .i64 0, .int .u64 0, .int .i64 0, .pointer none, .int .i64 0, .int .u64 0, .int .i64 0, .pointer none, .int .u64 (ns x0), .int .i64 (sc x0), .pointer none, .int .u64 0, .int .i64 0, .pointer none, .int .u64 0, .int .i64 0, .pointer none, .string ⟨#[]⟩, .string ⟨#[]⟩, .int .u64 0, .int .i64 0, .pointer none])).run Try.prog w = .ok (.bool true) w := eD
      clear eD
      obtain ⟨K1, K2, K3⟩ := hcut.out
      have K1 := hide K1
      have K2 := hide K2
      have K3 := hide K3
      clear hcut
      go_wp2_with (first
        | (guard_target =~ wpList _ _ _ (Oper.mk _ (Op.load 48 (Operand.tmp 19)) _ _ _ _ :: _) _ _; refine wpList_load_blk rfl 48 (.tmp 19) rfl rfl #[.int .u64 (ns x0), .int .i64 (sc x0), .pointer none, .int .u64 0, .int .i64 0, .pointer none, .int .u64 0, .int .i64 0, .pointer none] 48 _ ?_ Try.underlying48 rfl (by exact Try.size48) ?_; exact K1.out)
        | (guard_target =~ wpList _ _ _ (Oper.mk _ (Op.store 57 (Operand.tmp 20) _) _ _ _ _ :: _) _ _; refine wpList_store_last rfl 57 (.tmp 20) _ rfl rfl rfl ?_ (by exact Try.size57) (by rfl) (by rfl) ?_; (first | rfl | simp))
        | (guard_target =~ wpList _ _ _ (Oper.mk _ (Op.load 57 (Operand.tmp 15)) _ _ _ _ :: _) _ _; refine wpList_load_blk rfl 57 (.tmp 15) rfl rfl D1.cells 57 _ ?_ Try.underlying57 rfl (by exact Try.size57) ?_; exact (heap_alloc_old _ _ (lt_of_blk K2.out)).trans K2.out)
        | (guard_target =~ wpList _ _ _ (Oper.mk _ (Op.load 57 (Operand.tmp 20)) _ _ _ _ :: _) _ _; refine wpList_load_blk rfl 57 (.tmp 20) rfl rfl #[.bool false, .int .i64 4, .int .i64 0, .int .u64 0, .int .i64 0, .pointer none, .int .i64 0, .int .u64 0, .int .i64 0, .pointer none, .int .u64 (ns x0), .int .i64 (sc x0), .pointer none, .int .u64 0, .int .i64 0, .pointer none, .int .u64 0, .int .i64 0, .pointer none, .string ⟨#[]⟩, .string ⟨#[]⟩, .int .u64 0, .int .i64 0, .pointer none] 57 _ ?_ Try.underlying57 rfl (by exact Try.size57) ?_; exact heap_at _ _ _ rfl))
      go_ret
      exact ⟨rfl, K3.out.alloc (K3.out.size) _⟩
  · have hBi : B = 1 := HB.out.symm.trans h
    subst hBi
    have HD := hide ((HD1.out.symm.trans (dec_blocked ty md sms hrs (emailB ch) ps (ns pa) (sc pa) ts (ns tA) (sc tA) x0 x1 x2 inb mo ich iad 1 HB.out (by decide))).trans (show _ = ({ al := false, re := 4, n1 := ns x1, s1 := sc x1 } : Dc) from rfl))
    clear h HD1 HD0 HB
    go_upto_region 16 with fail
    have c := (E9.out.cell 7 5 rfl rfl : _ = some (.int .i64 x1))
    have Ea := hide (E9.out.new #[.int .u64 0, .int .i64 0, .pointer none, .int .u64 0, .int .i64 0, .pointer none, .int .u64 0, .int .i64 0, .pointer none] 48)
    have hlt := lt_of_blk (E9.out.get 7 rfl)
    go_cut [] (fun wx => Hid (wx.heap[w9.heap.size]? = some (.cells #[.int .u64 0, .int .i64 0, .pointer none, .int .u64 (ns x1), .int .i64 (sc x1), .pointer none, .int .u64 0, .int .i64 0, .pointer none] 48 (0, 0)) ∧ wx.heap[w7.heap.size]? = some (.cells D1.cells 57 (0, 0)) ∧ Below w.heap.size w wx))
    case first =>
      go_wp2_with (go_at_call 9; refine (time_any x1 hx11 hx12 _).mono ?_; rintro e w10 ⟨rfl, hb10⟩; have Eb := hide (Ea.out.step hb10); have cs := fun i => cell_of_row w10 _ i _ _ _ (Eb.out.get 0 rfl); have fs := fun i => frozen_of_row w10 _ i _ _ (Eb.out.get 0 rfl))
      go_meet
      case rel =>
        have hne : w7.heap.size ≠ w9.heap.size := by have := lt_of_blk (E9.out.get 2 rfl); omega
        have hle := E9.out.below.size
        refine ⟨heap_setCell_same _ _ _ _ _ _ (heap_setCell_same _ _ _ _ _ _ (heap_setCell_same _ _ _ _ _ _ (Eb.out.get 0 rfl))), ?_, ((Eb.out.below.setCell (by exact hle) _).setCell (by exact hle) _).setCell (by exact hle) _⟩
        rw [heap_setCell_other _ _ _ _ (by exact hne), heap_setCell_other _ _ _ _ (by exact hne), heap_setCell_other _ _ _ _ (by exact hne)]
        exact Eb.out.get 3 rfl
    case rest =>
      have eD : ∀ w, (binOp .eql 57 (.agg D1.cells) (.agg (Dc.cells ({ al := false, re := 4, n1 := ns x1, s1 := sc x1 } : Dc)))).run Try.prog w = .ok (.bool true) w := by
        intro w
        rw [HD.out]
        exact eqD _ w
      have eD' : ∀ w, (binOp .eql 57 (.agg D1.cells) (.agg #[.bool false, .int .i64 4, .int .i64 0, .int .u64 0, .int .i64 0, .pointer none, .int .i64 0, .int .u64 0, .int .i64 0, .pointer none, .int .u64 0, .int .i64 0, .pointer none, .int .u64 (ns x1), .int .i64 (sc x1), .pointer none, .int .u64 0, .int .i64 0, .pointer none, .string ⟨#[]⟩, .string ⟨#[]⟩, .int .u64 0, .int .i64 0, .pointer none])).run Try.prog w = .ok (.bool true) w := eD
      clear eD
      obtain ⟨K1, K2, K3⟩ := hcut.out
      have K1 := hide K1
      have K2 := hide K2
      have K3 := hide K3
      clear hcut
      go_wp2_with (first
        | (guard_target =~ wpList _ _ _ (Oper.mk _ (Op.load 48 (Operand.tmp 19)) _ _ _ _ :: _) _ _; refine wpList_load_blk rfl 48 (.tmp 19) rfl rfl #[.int .u64 0, .int .i64 0, .pointer none, .int .u64 (ns x1), .int .i64 (sc x1), .pointer none, .int .u64 0, .int .i64 0, .pointer none] 48 _ ?_ Try.underlying48 rfl (by exact Try.size48) ?_; exact K1.out)
        | (guard_target =~ wpList _ _ _ (Oper.mk _ (Op.store 57 (Operand.tmp 20) _) _ _ _ _ :: _) _ _; refine wpList_store_last rfl 57 (.tmp 20) _ rfl rfl rfl ?_ (by exact Try.size57) (by rfl) (by rfl) ?_; (first | rfl | simp))
        | (guard_target =~ wpList _ _ _ (Oper.mk _ (Op.load 57 (Operand.tmp 15)) _ _ _ _ :: _) _ _; refine wpList_load_blk rfl 57 (.tmp 15) rfl rfl D1.cells 57 _ ?_ Try.underlying57 rfl (by exact Try.size57) ?_; exact (heap_alloc_old _ _ (lt_of_blk K2.out)).trans K2.out)
        | (guard_target =~ wpList _ _ _ (Oper.mk _ (Op.load 57 (Operand.tmp 20)) _ _ _ _ :: _) _ _; refine wpList_load_blk rfl 57 (.tmp 20) rfl rfl #[.bool false, .int .i64 4, .int .i64 0, .int .u64 0, .int .i64 0, .pointer none, .int .i64 0, .int .u64 0, .int .i64 0, .pointer none, .int .u64 0, .int .i64 0, .pointer none, .int .u64 (ns x1), .int .i64 (sc x1), .pointer none, .int .u64 0, .int .i64 0, .pointer none, .string ⟨#[]⟩, .string ⟨#[]⟩, .int .u64 0, .int .i64 0, .pointer none] 57 _ ?_ Try.underlying57 rfl (by exact Try.size57) ?_; exact heap_at _ _ _ rfl))
      go_ret
      exact ⟨rfl, K3.out.alloc (K3.out.size) _⟩
  · have hBi : B = 2 := HB.out.symm.trans h
    subst hBi
    have HD := hide ((HD1.out.symm.trans (dec_blocked ty md sms hrs (emailB ch) ps (ns pa) (sc pa) ts (ns tA) (sc tA) x0 x1 x2 inb mo ich iad 2 HB.out (by decide))).trans (show _ = ({ al := false, re := 4, n2 := ns x2, s2 := sc x2 } : Dc) from rfl))
    clear h HD1 HD0 HB
    go_upto_region 16 with fail
    have c := (E9.out.cell 7 6 rfl rfl : _ = some (.int .i64 x2))
    have Ea := hide (E9.out.new #[.int .u64 0, .int .i64 0, .pointer none, .int .u64 0, .int .i64 0, .pointer none, .int .u64 0, .int .i64 0, .pointer none] 48)
    have hlt := lt_of_blk (E9.out.get 7 rfl)
    go_cut [] (fun wx => Hid (wx.heap[w9.heap.size]? = some (.cells #[.int .u64 0, .int .i64 0, .pointer none, .int .u64 0, .int .i64 0, .pointer none, .int .u64 (ns x2), .int .i64 (sc x2), .pointer none] 48 (0, 0)) ∧ wx.heap[w7.heap.size]? = some (.cells D1.cells 57 (0, 0)) ∧ Below w.heap.size w wx))
    case first =>
      go_wp2_with (go_at_call 9; refine (time_any x2 hx21 hx22 _).mono ?_; rintro e w10 ⟨rfl, hb10⟩; have Eb := hide (Ea.out.step hb10); have cs := fun i => cell_of_row w10 _ i _ _ _ (Eb.out.get 0 rfl); have fs := fun i => frozen_of_row w10 _ i _ _ (Eb.out.get 0 rfl))
      go_meet
      case rel =>
        have hne : w7.heap.size ≠ w9.heap.size := by have := lt_of_blk (E9.out.get 2 rfl); omega
        have hle := E9.out.below.size
        refine ⟨heap_setCell_same _ _ _ _ _ _ (heap_setCell_same _ _ _ _ _ _ (heap_setCell_same _ _ _ _ _ _ (Eb.out.get 0 rfl))), ?_, ((Eb.out.below.setCell (by exact hle) _).setCell (by exact hle) _).setCell (by exact hle) _⟩
        rw [heap_setCell_other _ _ _ _ (by exact hne), heap_setCell_other _ _ _ _ (by exact hne), heap_setCell_other _ _ _ _ (by exact hne)]
        exact Eb.out.get 3 rfl
    case rest =>
      have eD : ∀ w, (binOp .eql 57 (.agg D1.cells) (.agg (Dc.cells ({ al := false, re := 4, n2 := ns x2, s2 := sc x2 } : Dc)))).run Try.prog w = .ok (.bool true) w := by
        intro w
        rw [HD.out]
        exact eqD _ w
      have eD' : ∀ w, (binOp .eql 57 (.agg D1.cells) (.agg #[.bool false, .int .i64 4, .int .i64 0, .int .u64 0, .int .i64 0, .pointer none, .int .i64 0, .int .u64 0, .int .i64 0, .pointer none, .int .u64 0, .int .i64 0, .pointer none, .int .u64 0, .int .i64 0, .pointer none, .int .u64 (ns x2), .int .i64 (sc x2), .pointer none, .string ⟨#[]⟩, .string ⟨#[]⟩, .int .u64 0, .int .i64 0, .pointer none])).run Try.prog w = .ok (.bool true) w := eD
      clear eD
      obtain ⟨K1, K2, K3⟩ := hcut.out
      have K1 := hide K1
      have K2 := hide K2
      have K3 := hide K3
      clear hcut
      go_wp2_with (first
        | (guard_target =~ wpList _ _ _ (Oper.mk _ (Op.load 48 (Operand.tmp 19)) _ _ _ _ :: _) _ _; refine wpList_load_blk rfl 48 (.tmp 19) rfl rfl #[.int .u64 0, .int .i64 0, .pointer none, .int .u64 0, .int .i64 0, .pointer none, .int .u64 (ns x2), .int .i64 (sc x2), .pointer none] 48 _ ?_ Try.underlying48 rfl (by exact Try.size48) ?_; exact K1.out)
        | (guard_target =~ wpList _ _ _ (Oper.mk _ (Op.store 57 (Operand.tmp 20) _) _ _ _ _ :: _) _ _; refine wpList_store_last rfl 57 (.tmp 20) _ rfl rfl rfl ?_ (by exact Try.size57) (by rfl) (by rfl) ?_; (first | rfl | simp))
        | (guard_target =~ wpList _ _ _ (Oper.mk _ (Op.load 57 (Operand.tmp 15)) _ _ _ _ :: _) _ _; refine wpList_load_blk rfl 57 (.tmp 15) rfl rfl D1.cells 57 _ ?_ Try.underlying57 rfl (by exact Try.size57) ?_; exact (heap_alloc_old _ _ (lt_of_blk K2.out)).trans K2.out)
        | (guard_target =~ wpList _ _ _ (Oper.mk _ (Op.load 57 (Operand.tmp 20)) _ _ _ _ :: _) _ _; refine wpList_load_blk rfl 57 (.tmp 20) rfl rfl #[.bool false, .int .i64 4, .int .i64 0, .int .u64 0, .int .i64 0, .pointer none, .int .i64 0, .int .u64 0, .int .i64 0, .pointer none, .int .u64 0, .int .i64 0, .pointer none, .int .u64 0, .int .i64 0, .pointer none, .int .u64 (ns x2), .int .i64 (sc x2), .pointer none, .string ⟨#[]⟩, .string ⟨#[]⟩, .int .u64 0, .int .i64 0, .pointer none] 57 _ ?_ Try.underlying57 rfl (by exact Try.size57) ?_; exact heap_at _ _ _ rfl))
      go_ret
      exact ⟨rfl, K3.out.alloc (K3.out.size) _⟩
  · have hBi : B = -1 := HB.out.symm.trans h
    subst hBi
    have he : D1 = D0 := (HD1.out.symm.trans (dec_free ty md sms hrs (emailB ch) ps (ns pa) (sc pa) ts (ns tA) (sc tA) x0 x1 x2 inb mo ich iad HB.out)).trans HD0.out
    have q : (D0.re == 4) = false := by rw [← HD0.out]; exact dec_reason ty md sms hrs (emailB ch) ps (ns pa) (sc pa) ts (ns tA) (sc tA) inb mo ich iad
    clear h HD1 HD0 HB
    subst he
    have eD := eqD D1
    have c := (E9.out.cell 0 1 rfl rfl : _ = some (.int .i64 D1.re))
    go_wp2_with (first
      | (guard_target =~ wpList _ _ _ (Oper.mk _ (Op.load 57 (Operand.tmp 15)) _ _ _ _ :: _) _ _; refine wpList_load_blk rfl 57 (.tmp 15) rfl rfl D1.cells 57 _ ?_ Try.underlying57 rfl (by exact Try.size57) ?_; exact E9.out.get 2 rfl)
      | (guard_target =~ wpList _ _ _ (Oper.mk _ (Op.load 57 (Operand.tmp 17)) _ _ _ _ :: _) _ _; refine wpList_load_blk rfl 57 (.tmp 17) rfl rfl D1.cells 57 _ ?_ Try.underlying57 rfl (by exact Try.size57) ?_; exact E9.out.get 0 rfl))
    go_ret
    exact ⟨ret_bool (by show (!(D1.re == 4)) = true; rw [q]; rfl), E9.out.below⟩
end Go.Proofs.Qxb6629324a
