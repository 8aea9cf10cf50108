/-
  FnDecideClockOnlyThroughImpliedWindow: the walk.
-/
import Derived.Test.Qxb6629324aModelB
import Derived.Deep.DeepCutAuto
import Derived.Deep.RegionHeld3
namespace Go.Proofs.Qxb6629324a
open Go.ChangeShapes Go.WideShapes Go.ChangeAt Go.RowKit

/-- the hours of implied consent, in nanoseconds, as Go reckons them -/
def wvOf (hrs : Option Int) : Int := match hrs with | none => 0 | some v => IntKind.i64.wrap (v * 3600000000000)
theorem wvOf_lo (hrs : Option Int) : -9223372036854775808 ≤ wvOf hrs := by
  cases hrs with
  | none => decide
  | some v => exact wrap_lo _
theorem wvOf_hi (hrs : Option Int) : wvOf hrs ≤ 9223372036854775807 := by
  cases hrs with
  | none => decide
  | some v => exact wrap_hi _
theorem w64 (x : Int) : wrap64 x = IntKind.i64.wrap x := by rw [IntKind.wrap_i64]; unfold wrap64; omega
theorem ret_slot {a b : Int} (h : a = b) : Value.int .i64 a = .int .i64 b := by rw [h]

theorem store_dc (w : World) (g : Nat) (d : Dc) (hg : w.heap[g]? = some (.cells #[.bool false, .int .i64 0, .int .i64 0, .int .u64 0, .int .i64 0, .pointer none, .int .i64 0, .int .u64 0, .int .i64 0, .pointer none, .int .u64 0, .int .i64 0, .pointer none, .int .u64 0, .int .i64 0, .pointer none, .int .u64 0, .int .i64 0, .pointer none, .string ⟨#[]⟩, .string ⟨#[]⟩, .int .u64 0, .int .i64 0, .pointer none] 57 (0, 0))) : (storeCells ⟨g, 0, none⟩ d.cells.toList).run Try.prog w = .ok () (w.setRow g d.cells) :=
  store_row w g 57 #[.bool false, .int .i64 0, .int .i64 0, .int .u64 0, .int .i64 0, .pointer none, .int .i64 0, .int .u64 0, .int .i64 0, .pointer none, .int .u64 0, .int .i64 0, .pointer none, .int .u64 0, .int .i64 0, .pointer none, .int .u64 0, .int .i64 0, .pointer none, .string ⟨#[]⟩, .string ⟨#[]⟩, .int .u64 0, .int .i64 0, .pointer none] d.cells hg rfl rfl
theorem dc_size (d : Dc) : d.cells.size = 24 := rfl
/-- the head block is the youngest of all that are listed -/
structure LF (w wk : World) (b : Nat) (C : Array Value) (t : TypeId) (l : List (Nat × Array Value × TypeId)) (q : List (Option Addr × Option Int)) : Prop where
  le : LE w wk ((b, C, t) :: l) q
  lt : ∀ e ∈ l, e.1 < b
  pl : ∀ e ∈ q, ∀ b' o', e.1 = some ⟨b', o', none⟩ → b' < b
  hb : w.heap.size ≤ b
theorem LE.fresh {w wk : World} {l : List (Nat × Array Value × TypeId)} {q : List (Option Addr × Option Int)} (h : LE w wk l q) (C : Array Value) (t : TypeId) (n : Nat) (hn : n = wk.heap.size) : LF w (wk.alloc (.cells C t)) n C t l q where
  le := h.newAt C t n hn
  lt := fun e he => by rw [hn]; exact lt_of_blk (h.has e he)
  pl := fun e he b' o' hp => by
    rcases h.ptr e he with ⟨h1, _⟩ | ⟨b, off, v, h1, _, h3, _⟩
    · rw [h1] at hp; cases hp
    · rw [h1] at hp
      simp only [Option.some.injEq, Addr.mk.injEq] at hp
      omega
  hb := by rw [hn]; exact h.below.size
theorem LF.step {w wk w' : World} {b : Nat} {C : Array Value} {t : TypeId} {l : List (Nat × Array Value × TypeId)} {q : List (Option Addr × Option Int)} (h : LF w wk b C t l q) (hb : Below wk.heap.size wk w') : LF w w' b C t l q := ⟨h.le.step hb, h.lt, h.pl, h.hb⟩
theorem LF.set {w wk : World} {b : Nat} {C : Array Value} {t : TypeId} {l : List (Nat × Array Value × TypeId)} {q : List (Option Addr × Option Int)} (h : LF w wk b C t l q) (C' : Array Value) : LE w (wk.setRow b C') ((b, C', t) :: l) q where
  has := fun e he => by
    rcases List.mem_cons.1 he with rfl | he
    · exact heap_setRow_same wk b C C' t (h.le.get 0 rfl)
    · rw [heap_setRow_other _ _ _ _ (Nat.ne_of_lt (h.lt e he))]
      exact h.le.has e (List.mem_cons_of_mem _ he)
  ptr := fun e he => (h.le.ptr e he).setRow b C' (fun b' o' hp => Nat.ne_of_lt (h.pl e he b' o' hp))
  below := Below.setRow h.le.below h.hb _

/-- a load of a whole struct, under a condition that gives its block -/
theorem yieldsIf_load_row {P : Program} {ops : Array Oper} {S : World → Prop} {op : Oper} {a : Act} (hw : Region.wanted op (yielded ops a.tmps) = true) (ty : TypeId) (x : Operand) (ho : op.op = .load ty x)
    {g : Nat} (hx : a.eval x = .pointer (some ⟨g, 0, none⟩)) (cs : Array Value) (t : TypeId) (d : TypeDesc) (hS : ∀ w, S w → w.heap[g]? = some (.cells cs t (0, 0)))
    (hu : P.underlying ty = some d) (hd : (match d with | .struct _ | .array _ _ => true | _ => false) = true) (hi : (P.info? ty).map (·.size) = some cs.size) : YieldsIf P ops S op (.agg cs) a :=
  .inl ⟨hw, fun w hw' => by
    unfold execOp
    simp only [ho, hx, Instr.loadAt, Instr.sureAddr, Sem.run_bind, Sem.run_pure, Result.andThen_ok, run_loadVar_row w g t ty cs (0, 0) d (hS w hw') hu hd hi]⟩
theorem LE.tail {w wk : World} {e : Nat × Array Value × TypeId} {l : List (Nat × Array Value × TypeId)} {q : List (Option Addr × Option Int)} (h : LE w wk (e :: l) q) : LE w wk l q := ⟨fun x hx => h.has x (List.mem_cons_of_mem _ hx), h.ptr, h.below⟩

/-- a whole struct out of a block, by an operation that may be guarded -/
theorem wpList_load_w {P : Program} {ops : Array Oper} {rest : List Oper} {o : Oper} {a : Act} {w : World} {Q : Exit → Act → World → Prop} (hw : Region.wanted o (yielded ops a.tmps) = true) (ty : TypeId) (x : Operand) (ho : o.op = .load ty x)
    {g : Nat} (hx : a.eval x = .pointer (some ⟨g, 0, none⟩)) (cs : Array Value) (t : TypeId) (d : TypeDesc) (hg : w.heap[g]? = some (.cells cs t (0, 0)))
    (hu : P.underlying ty = some d) (hd : (match d with | .struct _ | .array _ _ => true | _ => false) = true) (hi : (P.info? ty).map (·.size) = some cs.size)
    (h : wpList P ops Q rest (a.put o.dst (.agg cs)) w) : wpList P ops Q (o :: rest) a w :=
  wpList_step fun K hK => by
    rw [if_pos hw]
    exact wp_load_row ty x ho g hx t cs (0, 0) d hg hu hd hi (hK _ _ h)

/-- was there a message -/
def hmB (ich iad : ByteArray) (inb : Int) : Bool := !(ich.toList.isEmpty && iad.toList.isEmpty && inb == 0)
theorem hm_inb (ich iad : ByteArray) (inb : Int) : inbZ ich iad (ns inb) (sc inb) = !hmB ich iad inb := by
  unfold inbZ hmB
  rw [Bool.not_not, Bool.and_assoc, zeq, show (ich.toList == []) = ich.toList.isEmpty from by cases ich.toList <;> rfl, show (iad.toList == []) = iad.toList.isEmpty from by cases iad.toList <;> rfl]
theorem rd_stat (ps ts : Int) : rdB ps ts = (stat ps ts == 1 || stat ps ts == 2) := by
  unfold rdB stat keep
  by_cases h : ps = 2
  · subst h; rfl
  · have e1 : (ps != 2) = true := by simp [h]
    have e2 : (ps == 2) = false := beq_eq_false_iff_ne.2 h
    rw [e1, e2, Bool.false_or]
    rfl
/-- can implied consent alone decide -/
def imB (B M : Int) (rd : Bool) (hrs : Option Int) (hm : Bool) : Bool := decide (B < 0) && !(M == 2) && !(M == 1) && !rd && hrs.isSome && hm
section
variable (ty md : Int) (sms hrs : Option Int) (em : Bool) (ps p1 p2 ts t1 t2 x0 x1 x2 inb : Int) (ich iad : ByteArray)
/-- everywhere else the moment changes nothing -/
theorem dec_const (h : imB (bw (x0 == 0) (x1 == 0) (x2 == 0) ty) (mdl ty md sms em) (rdB ps ts) hrs (hmB ich iad inb) = false) (mo mo' : Int) :
    decF ty md sms hrs em ps p1 p2 ts t1 t2 (ns x0) (sc x0) (ns x1) (sc x1) (ns x2) (sc x2) inb mo ich iad = decF ty md sms hrs em ps p1 p2 ts t1 t2 (ns x0) (sc x0) (ns x1) (sc x1) (ns x2) (sc x2) inb mo' ich iad := by
  unfold decF
  rw [zeq, zeq, zeq]
  by_cases hB : 0 ≤ bw (x0 == 0) (x1 == 0) (x2 == 0) ty
  · rw [if_pos hB, if_pos hB]
  · rw [if_neg hB, if_neg hB]
    by_cases h2 : mdl ty md sms em = 2
    · rw [if_pos h2, if_pos h2]
    · rw [if_neg h2, if_neg h2]
      by_cases s1 : stat ps ts = 1
      · rw [if_pos s1, if_pos s1]
      · rw [if_neg s1, if_neg s1]
        by_cases s2 : stat ps ts = 2
        · rw [if_pos s2, if_pos s2]
        · rw [if_neg s2, if_neg s2]
          by_cases h1 : mdl ty md sms em = 1
          · rw [if_pos h1, if_pos h1]
          · rw [if_neg h1, if_neg h1]
            cases hrs with
            | none => rfl
            | some v =>
              have e1 : decide (bw (x0 == 0) (x1 == 0) (x2 == 0) ty < 0) = true := decide_eq_true (by omega)
              have e2 : (mdl ty md sms em == 2) = false := beq_eq_false_iff_ne.2 h2
              have e3 : (mdl ty md sms em == 1) = false := beq_eq_false_iff_ne.2 h1
              have e4 : rdB ps ts = false := by rw [rd_stat]; simp [s1, s2]
              have e5 : hmB ich iad inb = false := by
                unfold imB at h
                rw [e1, e2, e3, e4] at h
                simpa using h
              have e6 : inbZ ich iad (ns inb) (sc inb) = true := by rw [hm_inb, e5]; rfl
              show (if inbZ ich iad (ns inb) (sc inb) = true then _ else _) = (if inbZ ich iad (ns inb) (sc inb) = true then _ else _)
              rw [if_pos e6, if_pos e6]
/-- where implied consent alone can decide, the moment decides -/
theorem dec_impl (h : imB (bw (x0 == 0) (x1 == 0) (x2 == 0) ty) (mdl ty md sms em) (rdB ps ts) hrs (hmB ich iad inb) = true) (mo : Int) :
    decF ty md sms hrs em ps p1 p2 ts t1 t2 (ns x0) (sc x0) (ns x1) (sc x1) (ns x2) (sc x2) inb mo ich iad = if mo < inb + wvOf hrs then ({ al := true, re := 5, c := ich, a := iad, i1 := ns inb, i2 := sc inb } : Dc) else ({ al := false, re := 6, c := ich, a := iad, i1 := ns inb, i2 := sc inb } : Dc) := by
  unfold imB at h
  simp only [Bool.and_eq_true, decide_eq_true_eq, Bool.not_eq_true'] at h
  obtain ⟨⟨⟨⟨⟨hB, h2⟩, h1⟩, hr⟩, hh⟩, hm⟩ := h
  rw [rd_stat, Bool.or_eq_false_iff] at hr
  unfold decF
  rw [zeq, zeq, zeq, if_neg (by omega), if_neg (beq_eq_false_iff_ne.1 h2), if_neg (beq_eq_false_iff_ne.1 hr.1), if_neg (beq_eq_false_iff_ne.1 hr.2), if_neg (beq_eq_false_iff_ne.1 h1)]
  cases hrs with
  | none => cases hh
  | some v =>
    have e6 : ¬ inbZ ich iad (ns inb) (sc inb) = true := by rw [hm_inb, hm]; decide
    show (if inbZ ich iad (ns inb) (sc inb) = true then _ else _) = _
    rw [if_neg e6]
    rfl
end

set_option linter.unusedSimpArgs false in
set_option linter.unusedVariables false in
set_option maxRecDepth 20000 in
set_option maxHeartbeats 4000000 in
theorem law2_walk (nm lb ch ad ich iad : ByteArray) (ty md ps pa ts tA x0 x1 x2 inb mo : Int) (ta : Option Addr) (tl tc : Nat) (smsP hrsP : Option Addr) (sms hrs : Option Int) (w : World) (ht : Tops w ta tl) (htl : tl ≤ maxLen) (hp : PtrIs w smsP sms) (hq : PtrIs w hrsP hrs)
    (z1 : nm.size ≤ maxLen) (z2 : lb.size ≤ maxLen) (z3 : ch.size ≤ maxLen) (z4 : ad.size ≤ maxLen) (z5 : ich.size ≤ maxLen) (z6 : iad.size ≤ maxLen)
    (hpa1 : -9223372036854775808 ≤ pa) (hpa2 : pa ≤ 9223372036854775807) (htA1 : -9223372036854775808 ≤ tA) (htA2 : tA ≤ 9223372036854775807) (hx01 : -9223372036854775808 ≤ x0) (hx02 : x0 ≤ 9223372036854775807) (hx11 : -9223372036854775808 ≤ x1) (hx12 : x1 ≤ 9223372036854775807) (hx21 : -9223372036854775808 ≤ x2) (hx22 : x2 ≤ 9223372036854775807) (hinb1 : -9223372036854775808 ≤ inb) (hinb2 : inb ≤ 9223372036854775807) (hmo1 : -9223372036854775808 ≤ mo) (hmo2 : mo ≤ 9223372036854775807) :
    Calls Try.prog 4 #[.agg #[.string nm, .string lb, .int .i64 ty, .int .i64 md, .pointer smsP, .slice ta tl tc, .pointer hrsP], .string ch, .string ad, .agg #[.int .i64 ps, .int .i64 pa, .int .i64 ts, .int .i64 tA, .int .i64 x0, .int .i64 x1, .int .i64 x2, .string ich, .string iad, .int .i64 inb], .int .i64 mo] w fun e w' => e = .returned (.bool true) ∧ Below w.heap.size w w' := by
  have E0 := hide (LE.start w #[.string nm, .string lb, .int .i64 ty, .int .i64 md, .pointer smsP, .slice ta tl tc, .pointer hrsP] #[.int .i64 ps, .int .i64 pa, .int .i64 ts, .int .i64 tA, .int .i64 x0, .int .i64 x1, .int .i64 x2, .string ich, .string iad, .int .i64 inb] [(smsP, sms), (hrsP, hrs)] (by intro e he; simp only [List.mem_cons, List.not_mem_nil, or_false] at he; rcases he with rfl | rfl; exact hp; exact hq))
  go_enter Try.func4, Try.ntmps4
  go_wp2_with (first
    | (guard_target =~ wpList _ _ _ (Oper.mk _ (Op.load 25 (Operand.tmp 5)) _ _ _ _ :: _) _ _; refine wpList_load_blk rfl 25 (.tmp 5) rfl rfl #[.string nm, .string lb, .int .i64 ty, .int .i64 md, .pointer smsP, .slice ta tl tc, .pointer hrsP] 25 _ ?_ Try.underlying25 rfl (by exact Try.size25) ?_; exact E0.out.get 1 rfl)
    | (guard_target =~ wpList _ _ _ (Oper.mk _ (Op.load 28 (Operand.tmp 8)) _ _ _ _ :: _) _ _; refine wpList_load_blk rfl 28 (.tmp 8) rfl rfl #[.int .i64 ps, .int .i64 pa, .int .i64 ts, .int .i64 tA, .int .i64 x0, .int .i64 x1, .int .i64 x2, .string ich, .string iad, .int .i64 inb] 28 _ ?_ Try.underlying28 rfl (by exact Try.size28) ?_; exact E0.out.get 0 rfl))
  refine (zzBytes12 nm lb ch ad ich iad ty md ps pa ts tA x0 x1 x2 inb mo ta tl tc smsP hrsP _ (ht.below E0.out.below) htl z1 z2 z3 z4 z5 z6).mono ?_
  rintro e w1 ⟨b1, rfl, hb1⟩
  have E1 := hide (E0.out.step hb1)
  clear hb1 E0
  cases b1
  · go_wp2
    go_ret
    exact ⟨rfl, E1.out.below⟩
  go_wp2_with (first
    | (guard_target =~ wpList _ _ _ (Oper.mk _ (Op.load 25 (Operand.tmp 5)) _ _ _ _ :: _) _ _; refine wpList_load_blk rfl 25 (.tmp 5) rfl rfl #[.string nm, .string lb, .int .i64 ty, .int .i64 md, .pointer smsP, .slice ta tl tc, .pointer hrsP] 25 _ ?_ Try.underlying25 rfl (by exact Try.size25) ?_; exact E1.out.get 1 rfl)
    | (guard_target =~ wpList _ _ _ (Oper.mk _ (Op.load 28 (Operand.tmp 8)) _ _ _ _ :: _) _ _; refine wpList_load_blk rfl 28 (.tmp 8) rfl rfl #[.int .i64 ps, .int .i64 pa, .int .i64 ts, .int .i64 tA, .int .i64 x0, .int .i64 x1, .int .i64 x2, .string ich, .string iad, .int .i64 inb] 28 _ ?_ Try.underlying28 rfl (by exact Try.size28) ?_; exact E1.out.get 0 rfl))
  refine (tooBig_any nm lb ch ad ich iad ty md ps pa ts tA x0 x1 x2 inb ta tl tc smsP hrsP _ (ht.below E1.out.below) htl z1 z2 z3 z4 z5 z6).mono ?_
  rintro e w2 ⟨b2, rfl, hT, hb2⟩
  have E2 := hide (E1.out.step hb2)
  clear hb2 E1
  cases b2
  case true =>
    go_wp2
    go_ret
    exact ⟨rfl, E2.out.below⟩
  have htl2 := hT rfl
  clear hT
  go_wp2_with (first
    | (guard_target =~ wpList _ _ _ (Oper.mk _ (Op.load 25 (Operand.tmp 5)) _ _ _ _ :: _) _ _; refine wpList_load_blk rfl 25 (.tmp 5) rfl rfl #[.string nm, .string lb, .int .i64 ty, .int .i64 md, .pointer smsP, .slice ta tl tc, .pointer hrsP] 25 _ ?_ Try.underlying25 rfl (by exact Try.size25) ?_; exact E2.out.get 1 rfl))
  refine (purp_any nm lb ty md ta tl tc smsP hrsP sms hrs _ (E2.out.pt 0 rfl) (E2.out.pt 1 rfl) htl2 (ht.below E2.out.below)).mono ?_
  rintro e w3 ⟨sms', hrs', ta', tl', tc', rfl, hp3, hq3, hb3⟩
  have E3 := hide ((((E2.out.step hb3).ptrs (q' := [(sms', sms), (hrs', hrs), (smsP, sms), (hrsP, hrs)]) (by intro e he; simp only [List.mem_cons, List.not_mem_nil, or_false] at he; rcases he with rfl | rfl | rfl | rfl; exact hp3; exact hq3; exact (E2.out.step hb3).pt 0 rfl; exact (E2.out.step hb3).pt 1 rfl)).new #[.string nm, .string lb, .int .i64 ty, .int .i64 md, .pointer sms', .slice ta' tl' tc', .pointer hrs'] 36).newAt #[.string ch, .string ad] 39 (w3.heap.size + 1) (by simp))
  clear hb3 E2 hp3 hq3 ht
  go_wp2_with (first
    | (guard_target =~ wpList _ _ _ (Oper.mk _ (Op.store 36 (Operand.tmp 11) _) _ _ _ _ :: _) _ _; refine wpList_store_last rfl 36 (.tmp 11) _ rfl rfl rfl ?_ (by exact Try.size36) (by rfl) (by rfl) ?_; (first | rfl | simp))
    | (guard_target =~ wpList _ _ _ (Oper.mk _ (Op.load 28 (Operand.tmp 8)) _ _ _ _ :: _) _ _; refine wpList_load_blk rfl 28 (.tmp 8) rfl rfl #[.int .i64 ps, .int .i64 pa, .int .i64 ts, .int .i64 tA, .int .i64 x0, .int .i64 x1, .int .i64 x2, .string ich, .string iad, .int .i64 inb] 28 _ ?_ Try.underlying28 rfl (by exact Try.size28) ?_; exact E3.out.get 2 rfl))
  refine (recorded_any ps pa ts tA x0 x1 x2 inb ich iad _ hpa1 hpa2 htA1 htA2 hx01 hx02 hx11 hx12 hx21 hx22 hinb1 hinb2).mono ?_
  rintro e w5 ⟨rfl, hb5⟩
  have E5 := hide ((E3.out.step hb5).new #[.int .i64 ps, .int .u64 (ns pa), .int .i64 (sc pa), .pointer none, .int .i64 ts, .int .u64 (ns tA), .int .i64 (sc tA), .pointer none, .int .u64 (ns x0), .int .i64 (sc x0), .pointer none, .int .u64 (ns x1), .int .i64 (sc x1), .pointer none, .int .u64 (ns x2), .int .i64 (sc x2), .pointer none, .string ich, .string iad, .int .u64 (ns inb), .int .i64 (sc inb), .pointer none] 52)
  clear hb5 E3
  obtain ⟨wv, HWV⟩ : ∃ x, Hid (wvOf hrs = x) := ⟨_, rfl⟩
  have wv1 : -9223372036854775808 ≤ wv := by rw [← HWV.out]; exact wvOf_lo hrs
  have wv2 : wv ≤ 9223372036854775807 := by rw [← HWV.out]; exact wvOf_hi hrs
  have c6 := (E5.out.cell 4 6 rfl rfl : _ = some (.pointer hrsP))
  go_upto_if 46 with (guard_target =~ wpList _ _ _ (Oper.mk _ (Op.store 52 (Operand.tmp 13) _) _ _ _ _ :: _) _ _; refine wpList_store_last rfl 52 (.tmp 13) _ rfl rfl rfl ?_ (by exact Try.size52) (by rfl) (by rfl) ?_; (first | rfl | simp))
  go_cut [14] (fun s14 wx => s14 = .int .i64 wv ∧ Hid (LE w wx [(w5.heap.size, #[.int .i64 ps, .int .u64 (ns pa), .int .i64 (sc pa), .pointer none, .int .i64 ts, .int .u64 (ns tA), .int .i64 (sc tA), .pointer none, .int .u64 (ns x0), .int .i64 (sc x0), .pointer none, .int .u64 (ns x1), .int .i64 (sc x1), .pointer none, .int .u64 (ns x2), .int .i64 (sc x2), .pointer none, .string ich, .string iad, .int .u64 (ns inb), .int .i64 (sc inb), .pointer none], 52), (w3.heap.size + 1, #[.string ch, .string ad], 39), (w3.heap.size, #[.string nm, .string lb, .int .i64 ty, .int .i64 md, .pointer sms', .slice ta' tl' tc', .pointer hrs'], 36), (w.heap.size + 1, #[.int .i64 ps, .int .i64 pa, .int .i64 ts, .int .i64 tA, .int .i64 x0, .int .i64 x1, .int .i64 x2, .string ich, .string iad, .int .i64 inb], 28), (w.heap.size, #[.string nm, .string lb, .int .i64 ty, .int .i64 md, .pointer smsP, .slice ta tl tc, .pointer hrsP], 25)] [(sms', sms), (hrs', hrs), (smsP, sms), (hrsP, hrs)]))
  case first =>
    rcases E5.out.pt 3 rfl with ⟨rfl, hn⟩ | ⟨b, off, v, rfl, hn, hlt, hcell⟩
    · have e : Hid (wv = 0) := by show wv = 0; rw [← HWV.out, hn]; rfl
      go_wp2
      go_meet
      case rel => exact ⟨ret_slot e.out.symm, E5⟩
    · have e : Hid (wv = IntKind.i64.wrap (v * 3600000000000)) := by show wv = _; rw [← HWV.out, hn]; rfl
      go_wp2
      go_meet
      case rel => exact ⟨ret_slot ((w64 _).trans e.out.symm), E5⟩
  case rest =>
  obtain ⟨hs14, E6⟩ := hcut
  subst hs14
  clear E5 c6
  have c9 := (E6.out.cell 3 9 rfl rfl : _ = some (.int .i64 inb))
  go_wp2_with fail
  refine (time_any inb hinb1 hinb2 _).mono ?_
  rintro e wa ⟨rfl, hba⟩
  have E7 := hide (E6.out.step hba)
  clear hba E6 c9
  go_wp2_with fail
  refine (add_any inb wv (by omega) (by omega) wv1 wv2 _).mono ?_
  rintro e wb ⟨rfl, hbb⟩
  have E8 := hide ((E7.out.step hbb).new #[.int .u64 (ns (inb + wv)), .int .i64 (sc (inb + wv)), .pointer none] 44)
  clear hbb E7
  go_upto_region 12 with (guard_target =~ wpList _ _ _ (Oper.mk _ (Op.store 44 (Operand.tmp 15) _) _ _ _ _ :: _) _ _; refine wpList_store_last rfl 44 (.tmp 15) _ rfl rfl rfl ?_ (by exact Try.size44) (by rfl) (by rfl) ?_; (first | rfl | simp))
  simp only [Act.put]
  obtain ⟨Dm, HDm⟩ : ∃ D, Hid (decF ty md sms hrs (emailB ch) ps (ns pa) (sc pa) ts (ns tA) (sc tA) (ns x0) (sc x0) (ns x1) (sc x1) (ns x2) (sc x2) inb mo ich iad = D) := ⟨_, rfl⟩
  have HCDm : Hid (∀ W, PtrIs W sms' sms → PtrIs W hrs' hrs → Calls Try.prog 10 #[.agg #[.string nm, .string lb, .int .i64 ty, .int .i64 md, .pointer sms', .slice ta' tl' tc', .pointer hrs'], .agg #[.string ch, .string ad], .agg #[.int .i64 ps, .int .u64 (ns pa), .int .i64 (sc pa), .pointer none, .int .i64 ts, .int .u64 (ns tA), .int .i64 (sc tA), .pointer none, .int .u64 (ns x0), .int .i64 (sc x0), .pointer none, .int .u64 (ns x1), .int .i64 (sc x1), .pointer none, .int .u64 (ns x2), .int .i64 (sc x2), .pointer none, .string ich, .string iad, .int .u64 (ns inb), .int .i64 (sc inb), .pointer none], .agg #[.int .u64 (ns mo), .int .i64 (sc mo), .pointer none]] W fun e w' => e = .returned (.agg Dm.cells) ∧ Below W.heap.size W w') := by
    intro W a1 a2
    rw [← HDm.out]
    exact decide_any nm lb ty md sms' ta' tl' tc' hrs' ch ad ps (ns pa) (sc pa) ts (ns tA) (sc tA) (ns x0) (sc x0) (ns x1) (sc x1) (ns x2) (sc x2) inb mo ich iad W sms hrs a1 a2 (by omega) (by omega)
  go_cut [16] (fun s wx => ∃ b16, s = .pointer (some ⟨b16, 0, none⟩) ∧ Hid (LE w wx ((b16, Dm.cells, 57) :: ((wb.heap.size, #[.int .u64 (ns (inb + wv)), .int .i64 (sc (inb + wv)), .pointer none], 44) :: [(w5.heap.size, #[.int .i64 ps, .int .u64 (ns pa), .int .i64 (sc pa), .pointer none, .int .i64 ts, .int .u64 (ns tA), .int .i64 (sc tA), .pointer none, .int .u64 (ns x0), .int .i64 (sc x0), .pointer none, .int .u64 (ns x1), .int .i64 (sc x1), .pointer none, .int .u64 (ns x2), .int .i64 (sc x2), .pointer none, .string ich, .string iad, .int .u64 (ns inb), .int .i64 (sc inb), .pointer none], 52), (w3.heap.size + 1, #[.string ch, .string ad], 39), (w3.heap.size, #[.string nm, .string lb, .int .i64 ty, .int .i64 md, .pointer sms', .slice ta' tl' tc', .pointer hrs'], 36), (w.heap.size + 1, #[.int .i64 ps, .int .i64 pa, .int .i64 ts, .int .i64 tA, .int .i64 x0, .int .i64 x1, .int .i64 x2, .string ich, .string iad, .int .i64 inb], 28), (w.heap.size, #[.string nm, .string lb, .int .i64 ty, .int .i64 md, .pointer smsP, .slice ta tl tc, .pointer hrsP], 25)])) [(sms', sms), (hrs', hrs), (smsP, sms), (hrsP, hrs)]))
  case first =>
    refine wp_region_noPanic ?_
    refine wp_region_held_drew (S := fun w' => LE w w' ((wb.heap.size, #[.int .u64 (ns (inb + wv)), .int .i64 (sc (inb + wv)), .pointer none], 44) :: [(w5.heap.size, #[.int .i64 ps, .int .u64 (ns pa), .int .i64 (sc pa), .pointer none, .int .i64 ts, .int .u64 (ns tA), .int .i64 (sc tA), .pointer none, .int .u64 (ns x0), .int .i64 (sc x0), .pointer none, .int .u64 (ns x1), .int .i64 (sc x1), .pointer none, .int .u64 (ns x2), .int .i64 (sc x2), .pointer none, .string ich, .string iad, .int .u64 (ns inb), .int .i64 (sc inb), .pointer none], 52), (w3.heap.size + 1, #[.string ch, .string ad], 39), (w3.heap.size, #[.string nm, .string lb, .int .i64 ty, .int .i64 md, .pointer sms', .slice ta' tl' tc', .pointer hrs'], 36), (w.heap.size + 1, #[.int .i64 ps, .int .i64 pa, .int .i64 ts, .int .i64 tA, .int .i64 x0, .int .i64 x1, .int .i64 x2, .string ich, .string iad, .int .i64 inb], 28), (w.heap.size, #[.string nm, .string lb, .int .i64 ty, .int .i64 md, .pointer smsP, .slice ta tl tc, .pointer hrsP], 25)]) [(sms', sms), (hrs', hrs), (smsP, sms), (hrsP, hrs)]) (by kernel_rfl) (E8.out.drew) (fun hHeld => ?_)
    refine wpAnyH_take (i := 0) (v := .agg #[.string nm, .string lb, .int .i64 ty, .int .i64 md, .pointer sms', .slice ta' tl' tc', .pointer hrs']) rfl (by kernel_rfl) (by kernel_rfl) (by kernel_rfl) (fun _ _ _ h => h) (yieldsIf_load_row (by rfl) 36 _ rfl rfl #[.string nm, .string lb, .int .i64 ty, .int .i64 md, .pointer sms', .slice ta' tl' tc', .pointer hrs'] 36 _ (fun w h => LE.get h 3 rfl) Try.underlying36 rfl Try.size36) hHeld ?_
    try simp only [Act.put, List.setIfInBounds_toArray, List.set_cons_zero, List.set_cons_succ]
    refine wpAnyH_take (i := 1) (v := .agg #[.string ch, .string ad]) rfl (by kernel_rfl) (by kernel_rfl) (by kernel_rfl) (fun _ _ _ h => h) (yieldsIf_load_row (by rfl) 39 _ rfl rfl #[.string ch, .string ad] 39 _ (fun w h => LE.get h 2 rfl) Try.underlying39 rfl Try.size39) hHeld ?_
    try simp only [Act.put, List.setIfInBounds_toArray, List.set_cons_zero, List.set_cons_succ]
    refine wpAnyH_take (i := 2) (v := .agg #[.int .i64 ps, .int .u64 (ns pa), .int .i64 (sc pa), .pointer none, .int .i64 ts, .int .u64 (ns tA), .int .i64 (sc tA), .pointer none, .int .u64 (ns x0), .int .i64 (sc x0), .pointer none, .int .u64 (ns x1), .int .i64 (sc x1), .pointer none, .int .u64 (ns x2), .int .i64 (sc x2), .pointer none, .string ich, .string iad, .int .u64 (ns inb), .int .i64 (sc inb), .pointer none]) rfl (by kernel_rfl) (by kernel_rfl) (by kernel_rfl) (fun _ _ _ h => h) (yieldsIf_load_row (by rfl) 52 _ rfl rfl #[.int .i64 ps, .int .u64 (ns pa), .int .i64 (sc pa), .pointer none, .int .i64 ts, .int .u64 (ns tA), .int .i64 (sc tA), .pointer none, .int .u64 (ns x0), .int .i64 (sc x0), .pointer none, .int .u64 (ns x1), .int .i64 (sc x1), .pointer none, .int .u64 (ns x2), .int .i64 (sc x2), .pointer none, .string ich, .string iad, .int .u64 (ns inb), .int .i64 (sc inb), .pointer none] 52 _ (fun w h => LE.get h 1 rfl) Try.underlying52 rfl Try.size52) hHeld ?_
    try simp only [Act.put, List.setIfInBounds_toArray, List.set_cons_zero, List.set_cons_succ]
    refine wpAnyH_take (i := 3) (v := .int .i64 mo) rfl (by kernel_rfl) (by kernel_rfl) (by kernel_rfl) (fun _ _ _ h => h) (Or.inl ⟨by rfl, fun w _ => by go_simp⟩) hHeld ?_
    try simp only [Act.put, List.setIfInBounds_toArray, List.set_cons_zero, List.set_cons_succ]
    refine wpAnyH_ready (rs := [4, 6]) (by kernel_rfl) (by simp) ?_
    refine AllReadyH.cons rfl (fun K hK => ?_) (AllReadyH.cons rfl (fun K hK => ?_) AllReadyH.nil)
    · go_simp
      refine (time_any mo hmo1 hmo2 _).mono ?_
      rintro e w9 ⟨rfl, hb9⟩
      refine hK.out _ _ (LE.step hHeld hb9) (fun hHeld => ?_)
      clear hK K hb9
      try simp only [Act.put, List.setIfInBounds_toArray, List.set_cons_zero, List.set_cons_succ]
      refine wpAnyH_ready (rs := [5, 6]) (by kernel_rfl) (by simp) ?_
      refine AllReadyH.cons rfl (fun K hK => ?_) (AllReadyH.cons rfl (fun K hK => ?_) AllReadyH.nil)
      · go_simp
        refine (HCDm.out _ (LE.pt hHeld 0 rfl) (LE.pt hHeld 1 rfl)).mono ?_
        rintro e w10 ⟨rfl, hb10⟩
        refine hK.out _ _ (LE.step hHeld hb10) (fun hHeld => ?_)
        clear hK K hb10
        try simp only [Act.put, List.setIfInBounds_toArray, List.set_cons_zero, List.set_cons_succ]
        refine wpAnyH_ready (rs := [6]) (by kernel_rfl) (by simp) ?_
        refine AllReadyH.cons rfl (fun K hK => ?_) AllReadyH.nil
        go_simp
        have F := LE.fresh hHeld #[.bool false, .int .i64 0, .int .i64 0, .int .u64 0, .int .i64 0, .pointer none, .int .i64 0, .int .u64 0, .int .i64 0, .pointer none, .int .u64 0, .int .i64 0, .pointer none, .int .u64 0, .int .i64 0, .pointer none, .int .u64 0, .int .i64 0, .pointer none, .string ⟨#[]⟩, .string ⟨#[]⟩, .int .u64 0, .int .i64 0, .pointer none] 57 w10.heap.size rfl
        refine hK.out _ _ (LE.alloc hHeld _) (fun hHeld => ?_)
        clear hK K
        try simp only [Act.put, List.setIfInBounds_toArray, List.set_cons_zero, List.set_cons_succ]
        refine wpAnyH_ready (rs := [7]) (by kernel_rfl) (by simp) ?_
        refine AllReadyH.cons rfl (fun K hK => ?_) AllReadyH.nil
        rw [if_pos (by rfl)]
        refine wp_store_row 57 _ _ rfl _ _ rfl rfl 57 #[.bool false, .int .i64 0, .int .i64 0, .int .u64 0, .int .i64 0, .pointer none, .int .i64 0, .int .u64 0, .int .i64 0, .pointer none, .int .u64 0, .int .i64 0, .pointer none, .int .u64 0, .int .i64 0, .pointer none, .int .u64 0, .int .i64 0, .pointer none, .string ⟨#[]⟩, .string ⟨#[]⟩, .int .u64 0, .int .i64 0, .pointer none] (LE.get (LF.le F) 0 rfl) (by exact Try.size57) (by rfl) (by kernel_rfl) ?_
        refine hK.out _ _ (LE.tail (LF.set F Dm.cells)) (fun hHeld => ?_)
        clear hK K
        refine wpAnyH_done (by kernel_rfl) ?_ _
        refine NoPanic.normal ?_
        simp only [List.getElem_toArray, List.getElem_cons_zero, List.getElem_cons_succ, Act.put]
        go_step
        go_step
        go_meet
        case rel => exact ⟨_, rfl, LF.set F Dm.cells⟩
      · go_simp
        have F0 := LE.fresh hHeld #[.bool false, .int .i64 0, .int .i64 0, .int .u64 0, .int .i64 0, .pointer none, .int .i64 0, .int .u64 0, .int .i64 0, .pointer none, .int .u64 0, .int .i64 0, .pointer none, .int .u64 0, .int .i64 0, .pointer none, .int .u64 0, .int .i64 0, .pointer none, .string ⟨#[]⟩, .string ⟨#[]⟩, .int .u64 0, .int .i64 0, .pointer none] 57 w9.heap.size rfl
        refine hK.out _ _ (LE.alloc hHeld _) (fun hHeld => ?_)
        clear hK K
        try simp only [Act.put, List.setIfInBounds_toArray, List.set_cons_zero, List.set_cons_succ]
        refine wpAnyH_ready (rs := [5]) (by kernel_rfl) (by simp) ?_
        refine AllReadyH.cons rfl (fun K hK => ?_) AllReadyH.nil
        go_simp
        refine (HCDm.out _ (LE.pt hHeld 0 rfl) (LE.pt hHeld 1 rfl)).mono ?_
        rintro e w10 ⟨rfl, hb10⟩
        have F := LF.step F0 hb10
        refine hK.out _ _ (LE.step hHeld hb10) (fun hHeld => ?_)
        clear hK K hb10 F0
        try simp only [Act.put, List.setIfInBounds_toArray, List.set_cons_zero, List.set_cons_succ]
        refine wpAnyH_ready (rs := [7]) (by kernel_rfl) (by simp) ?_
        refine AllReadyH.cons rfl (fun K hK => ?_) AllReadyH.nil
        rw [if_pos (by rfl)]
        refine wp_store_row 57 _ _ rfl _ _ rfl rfl 57 #[.bool false, .int .i64 0, .int .i64 0, .int .u64 0, .int .i64 0, .pointer none, .int .i64 0, .int .u64 0, .int .i64 0, .pointer none, .int .u64 0, .int .i64 0, .pointer none, .int .u64 0, .int .i64 0, .pointer none, .int .u64 0, .int .i64 0, .pointer none, .string ⟨#[]⟩, .string ⟨#[]⟩, .int .u64 0, .int .i64 0, .pointer none] (LE.get (LF.le F) 0 rfl) (by exact Try.size57) (by rfl) (by kernel_rfl) ?_
        refine hK.out _ _ (LE.tail (LF.set F Dm.cells)) (fun hHeld => ?_)
        clear hK K
        refine wpAnyH_done (by kernel_rfl) ?_ _
        refine NoPanic.normal ?_
        simp only [List.getElem_toArray, List.getElem_cons_zero, List.getElem_cons_succ, Act.put]
        go_step
        go_step
        go_meet
        case rel => exact ⟨_, rfl, LF.set F Dm.cells⟩
    · go_simp
      have F0 := LE.fresh hHeld #[.bool false, .int .i64 0, .int .i64 0, .int .u64 0, .int .i64 0, .pointer none, .int .i64 0, .int .u64 0, .int .i64 0, .pointer none, .int .u64 0, .int .i64 0, .pointer none, .int .u64 0, .int .i64 0, .pointer none, .int .u64 0, .int .i64 0, .pointer none, .string ⟨#[]⟩, .string ⟨#[]⟩, .int .u64 0, .int .i64 0, .pointer none] 57 (wb.heap.size + 1) (by first | rfl | simp)
      refine hK.out _ _ (LE.alloc hHeld _) (fun hHeld => ?_)
      clear hK K
      try simp only [Act.put, List.setIfInBounds_toArray, List.set_cons_zero, List.set_cons_succ]
      refine wpAnyH_ready (rs := [4]) (by kernel_rfl) (by simp) ?_
      refine AllReadyH.cons rfl (fun K hK => ?_) AllReadyH.nil
      go_simp
      refine (time_any mo hmo1 hmo2 _).mono ?_
      rintro e w9 ⟨rfl, hb9⟩
      have F1 := LF.step F0 hb9
      refine hK.out _ _ (LE.step hHeld hb9) (fun hHeld => ?_)
      clear hK K hb9 F0
      try simp only [Act.put, List.setIfInBounds_toArray, List.set_cons_zero, List.set_cons_succ]
      refine wpAnyH_ready (rs := [5]) (by kernel_rfl) (by simp) ?_
      refine AllReadyH.cons rfl (fun K hK => ?_) AllReadyH.nil
      go_simp
      refine (HCDm.out _ (LE.pt hHeld 0 rfl) (LE.pt hHeld 1 rfl)).mono ?_
      rintro e w10 ⟨rfl, hb10⟩
      have F := LF.step F1 hb10
      refine hK.out _ _ (LE.step hHeld hb10) (fun hHeld => ?_)
      clear hK K hb10 F1
      try simp only [Act.put, List.setIfInBounds_toArray, List.set_cons_zero, List.set_cons_succ]
      refine wpAnyH_ready (rs := [7]) (by kernel_rfl) (by simp) ?_
      refine AllReadyH.cons rfl (fun K hK => ?_) AllReadyH.nil
      rw [if_pos (by rfl)]
      refine wp_store_row 57 _ _ rfl _ _ rfl rfl 57 #[.bool false, .int .i64 0, .int .i64 0, .int .u64 0, .int .i64 0, .pointer none, .int .i64 0, .int .u64 0, .int .i64 0, .pointer none, .int .u64 0, .int .i64 0, .pointer none, .int .u64 0, .int .i64 0, .pointer none, .int .u64 0, .int .i64 0, .pointer none, .string ⟨#[]⟩, .string ⟨#[]⟩, .int .u64 0, .int .i64 0, .pointer none] (LE.get (LF.le F) 0 rfl) (by exact Try.size57) (by rfl) (by kernel_rfl) ?_
      refine hK.out _ _ (LE.tail (LF.set F Dm.cells)) (fun hHeld => ?_)
      clear hK K
      refine wpAnyH_done (by kernel_rfl) ?_ _
      refine NoPanic.normal ?_
      simp only [List.getElem_toArray, List.getElem_cons_zero, List.getElem_cons_succ, Act.put]
      go_step
      go_step
      go_meet
      case rel => exact ⟨_, rfl, LF.set F Dm.cells⟩
  case rest =>
  obtain ⟨b16, hs16, E9⟩ := hcut
  subst hs16
  clear E8
  go_upto_region 13 with fail
  obtain ⟨Dl, HDl⟩ : ∃ D, Hid (decF ty md sms hrs (emailB ch) ps (ns pa) (sc pa) ts (ns tA) (sc tA) (ns x0) (sc x0) (ns x1) (sc x1) (ns x2) (sc x2) inb (inb + wv + -1) ich iad = D) := ⟨_, rfl⟩
  have HCDl : Hid (∀ W, PtrIs W sms' sms → PtrIs W hrs' hrs → Calls Try.prog 10 #[.agg #[.string nm, .string lb, .int .i64 ty, .int .i64 md, .pointer sms', .slice ta' tl' tc', .pointer hrs'], .agg #[.string ch, .string ad], .agg #[.int .i64 ps, .int .u64 (ns pa), .int .i64 (sc pa), .pointer none, .int .i64 ts, .int .u64 (ns tA), .int .i64 (sc tA), .pointer none, .int .u64 (ns x0), .int .i64 (sc x0), .pointer none, .int .u64 (ns x1), .int .i64 (sc x1), .pointer none, .int .u64 (ns x2), .int .i64 (sc x2), .pointer none, .string ich, .string iad, .int .u64 (ns inb), .int .i64 (sc inb), .pointer none], .agg #[.int .u64 (ns (inb + wv + -1)), .int .i64 (sc (inb + wv + -1)), .pointer none]] W fun e w' => e = .returned (.agg Dl.cells) ∧ Below W.heap.size W w') := by
    intro W a1 a2
    rw [← HDl.out]
    exact decide_any nm lb ty md sms' ta' tl' tc' hrs' ch ad ps (ns pa) (sc pa) ts (ns tA) (sc tA) (ns x0) (sc x0) (ns x1) (sc x1) (ns x2) (sc x2) inb (inb + wv + -1) ich iad W sms hrs a1 a2 (by omega) (by omega)
  go_cut [17] (fun s wx => ∃ b17, s = .pointer (some ⟨b17, 0, none⟩) ∧ Hid (LE w wx ((b17, Dl.cells, 57) :: ((b16, Dm.cells, 57) :: ((wb.heap.size, #[.int .u64 (ns (inb + wv)), .int .i64 (sc (inb + wv)), .pointer none], 44) :: [(w5.heap.size, #[.int .i64 ps, .int .u64 (ns pa), .int .i64 (sc pa), .pointer none, .int .i64 ts, .int .u64 (ns tA), .int .i64 (sc tA), .pointer none, .int .u64 (ns x0), .int .i64 (sc x0), .pointer none, .int .u64 (ns x1), .int .i64 (sc x1), .pointer none, .int .u64 (ns x2), .int .i64 (sc x2), .pointer none, .string ich, .string iad, .int .u64 (ns inb), .int .i64 (sc inb), .pointer none], 52), (w3.heap.size + 1, #[.string ch, .string ad], 39), (w3.heap.size, #[.string nm, .string lb, .int .i64 ty, .int .i64 md, .pointer sms', .slice ta' tl' tc', .pointer hrs'], 36), (w.heap.size + 1, #[.int .i64 ps, .int .i64 pa, .int .i64 ts, .int .i64 tA, .int .i64 x0, .int .i64 x1, .int .i64 x2, .string ich, .string iad, .int .i64 inb], 28), (w.heap.size, #[.string nm, .string lb, .int .i64 ty, .int .i64 md, .pointer smsP, .slice ta tl tc, .pointer hrsP], 25)]))) [(sms', sms), (hrs', hrs), (smsP, sms), (hrsP, hrs)]))
  case first =>
    refine wp_region_noPanic ?_
    refine wp_region_held_drew (S := fun w' => LE w w' ((b16, Dm.cells, 57) :: ((wb.heap.size, #[.int .u64 (ns (inb + wv)), .int .i64 (sc (inb + wv)), .pointer none], 44) :: [(w5.heap.size, #[.int .i64 ps, .int .u64 (ns pa), .int .i64 (sc pa), .pointer none, .int .i64 ts, .int .u64 (ns tA), .int .i64 (sc tA), .pointer none, .int .u64 (ns x0), .int .i64 (sc x0), .pointer none, .int .u64 (ns x1), .int .i64 (sc x1), .pointer none, .int .u64 (ns x2), .int .i64 (sc x2), .pointer none, .string ich, .string iad, .int .u64 (ns inb), .int .i64 (sc inb), .pointer none], 52), (w3.heap.size + 1, #[.string ch, .string ad], 39), (w3.heap.size, #[.string nm, .string lb, .int .i64 ty, .int .i64 md, .pointer sms', .slice ta' tl' tc', .pointer hrs'], 36), (w.heap.size + 1, #[.int .i64 ps, .int .i64 pa, .int .i64 ts, .int .i64 tA, .int .i64 x0, .int .i64 x1, .int .i64 x2, .string ich, .string iad, .int .i64 inb], 28), (w.heap.size, #[.string nm, .string lb, .int .i64 ty, .int .i64 md, .pointer smsP, .slice ta tl tc, .pointer hrsP], 25)])) [(sms', sms), (hrs', hrs), (smsP, sms), (hrsP, hrs)]) (by kernel_rfl) (E9.out.drew) (fun hHeld => ?_)
    refine wpAnyH_take (i := 0) (v := .agg #[.string nm, .string lb, .int .i64 ty, .int .i64 md, .pointer sms', .slice ta' tl' tc', .pointer hrs']) rfl (by kernel_rfl) (by kernel_rfl) (by kernel_rfl) (fun _ _ _ h => h) (yieldsIf_load_row (by rfl) 36 _ rfl rfl #[.string nm, .string lb, .int .i64 ty, .int .i64 md, .pointer sms', .slice ta' tl' tc', .pointer hrs'] 36 _ (fun w h => LE.get h 4 rfl) Try.underlying36 rfl Try.size36) hHeld ?_
    try simp only [Act.put, List.setIfInBounds_toArray, List.set_cons_zero, List.set_cons_succ]
    refine wpAnyH_take (i := 1) (v := .agg #[.string ch, .string ad]) rfl (by kernel_rfl) (by kernel_rfl) (by kernel_rfl) (fun _ _ _ h => h) (yieldsIf_load_row (by rfl) 39 _ rfl rfl #[.string ch, .string ad] 39 _ (fun w h => LE.get h 3 rfl) Try.underlying39 rfl Try.size39) hHeld ?_
    try simp only [Act.put, List.setIfInBounds_toArray, List.set_cons_zero, List.set_cons_succ]
    refine wpAnyH_take (i := 2) (v := .agg #[.int .i64 ps, .int .u64 (ns pa), .int .i64 (sc pa), .pointer none, .int .i64 ts, .int .u64 (ns tA), .int .i64 (sc tA), .pointer none, .int .u64 (ns x0), .int .i64 (sc x0), .pointer none, .int .u64 (ns x1), .int .i64 (sc x1), .pointer none, .int .u64 (ns x2), .int .i64 (sc x2), .pointer none, .string ich, .string iad, .int .u64 (ns inb), .int .i64 (sc inb), .pointer none]) rfl (by kernel_rfl) (by kernel_rfl) (by kernel_rfl) (fun _ _ _ h => h) (yieldsIf_load_row (by rfl) 52 _ rfl rfl #[.int .i64 ps, .int .u64 (ns pa), .int .i64 (sc pa), .pointer none, .int .i64 ts, .int .u64 (ns tA), .int .i64 (sc tA), .pointer none, .int .u64 (ns x0), .int .i64 (sc x0), .pointer none, .int .u64 (ns x1), .int .i64 (sc x1), .pointer none, .int .u64 (ns x2), .int .i64 (sc x2), .pointer none, .string ich, .string iad, .int .u64 (ns inb), .int .i64 (sc inb), .pointer none] 52 _ (fun w h => LE.get h 2 rfl) Try.underlying52 rfl Try.size52) hHeld ?_
    try simp only [Act.put, List.setIfInBounds_toArray, List.set_cons_zero, List.set_cons_succ]
    refine wpAnyH_take (i := 3) (v := .agg #[.int .u64 (ns (inb + wv)), .int .i64 (sc (inb + wv)), .pointer none]) rfl (by kernel_rfl) (by kernel_rfl) (by kernel_rfl) (fun _ _ _ h => h) (yieldsIf_load_row (by rfl) 44 _ rfl rfl #[.int .u64 (ns (inb + wv)), .int .i64 (sc (inb + wv)), .pointer none] 44 _ (fun w h => LE.get h 1 rfl) Try.underlying44 rfl Try.size44) hHeld ?_
    try simp only [Act.put, List.setIfInBounds_toArray, List.set_cons_zero, List.set_cons_succ]
    refine wpAnyH_ready (rs := [4, 6]) (by kernel_rfl) (by simp) ?_
    refine AllReadyH.cons rfl (fun K hK => ?_) (AllReadyH.cons rfl (fun K hK => ?_) AllReadyH.nil)
    · go_simp
      refine (add_any (inb + wv) (-1) (by omega) (by omega) (by omega) (by omega) _).mono ?_
      rintro e w9 ⟨rfl, hb9⟩
      refine hK.out _ _ (LE.step hHeld hb9) (fun hHeld => ?_)
      clear hK K hb9
      try simp only [Act.put, List.setIfInBounds_toArray, List.set_cons_zero, List.set_cons_succ]
      refine wpAnyH_ready (rs := [5, 6]) (by kernel_rfl) (by simp) ?_
      refine AllReadyH.cons rfl (fun K hK => ?_) (AllReadyH.cons rfl (fun K hK => ?_) AllReadyH.nil)
      · go_simp
        refine (HCDl.out _ (LE.pt hHeld 0 rfl) (LE.pt hHeld 1 rfl)).mono ?_
        rintro e w10 ⟨rfl, hb10⟩
        refine hK.out _ _ (LE.step hHeld hb10) (fun hHeld => ?_)
        clear hK K hb10
        try simp only [Act.put, List.setIfInBounds_toArray, List.set_cons_zero, List.set_cons_succ]
        refine wpAnyH_ready (rs := [6]) (by kernel_rfl) (by simp) ?_
        refine AllReadyH.cons rfl (fun K hK => ?_) AllReadyH.nil
        go_simp
        have F := LE.fresh hHeld #[.bool false, .int .i64 0, .int .i64 0, .int .u64 0, .int .i64 0, .pointer none, .int .i64 0, .int .u64 0, .int .i64 0, .pointer none, .int .u64 0, .int .i64 0, .pointer none, .int .u64 0, .int .i64 0, .pointer none, .int .u64 0, .int .i64 0, .pointer none, .string ⟨#[]⟩, .string ⟨#[]⟩, .int .u64 0, .int .i64 0, .pointer none] 57 w10.heap.size rfl
        refine hK.out _ _ (LE.alloc hHeld _) (fun hHeld => ?_)
        clear hK K
        try simp only [Act.put, List.setIfInBounds_toArray, List.set_cons_zero, List.set_cons_succ]
        refine wpAnyH_ready (rs := [7]) (by kernel_rfl) (by simp) ?_
        refine AllReadyH.cons rfl (fun K hK => ?_) AllReadyH.nil
        rw [if_pos (by rfl)]
        refine wp_store_row 57 _ _ rfl _ _ rfl rfl 57 #[.bool false, .int .i64 0, .int .i64 0, .int .u64 0, .int .i64 0, .pointer none, .int .i64 0, .int .u64 0, .int .i64 0, .pointer none, .int .u64 0, .int .i64 0, .pointer none, .int .u64 0, .int .i64 0, .pointer none, .int .u64 0, .int .i64 0, .pointer none, .string ⟨#[]⟩, .string ⟨#[]⟩, .int .u64 0, .int .i64 0, .pointer none] (LE.get (LF.le F) 0 rfl) (by exact Try.size57) (by rfl) (by kernel_rfl) ?_
        refine hK.out _ _ (LE.tail (LF.set F Dl.cells)) (fun hHeld => ?_)
        clear hK K
        refine wpAnyH_done (by kernel_rfl) ?_ _
        refine NoPanic.normal ?_
        simp only [List.getElem_toArray, List.getElem_cons_zero, List.getElem_cons_succ, Act.put]
        go_step
        go_step
        go_meet
        case rel => exact ⟨_, rfl, LF.set F Dl.cells⟩
      · go_simp
        have F0 := LE.fresh hHeld #[.bool false, .int .i64 0, .int .i64 0, .int .u64 0, .int .i64 0, .pointer none, .int .i64 0, .int .u64 0, .int .i64 0, .pointer none, .int .u64 0, .int .i64 0, .pointer none, .int .u64 0, .int .i64 0, .pointer none, .int .u64 0, .int .i64 0, .pointer none, .string ⟨#[]⟩, .string ⟨#[]⟩, .int .u64 0, .int .i64 0, .pointer none] 57 w9.heap.size rfl
        refine hK.out _ _ (LE.alloc hHeld _) (fun hHeld => ?_)
        clear hK K
        try simp only [Act.put, List.setIfInBounds_toArray, List.set_cons_zero, List.set_cons_succ]
        refine wpAnyH_ready (rs := [5]) (by kernel_rfl) (by simp) ?_
        refine AllReadyH.cons rfl (fun K hK => ?_) AllReadyH.nil
        go_simp
        refine (HCDl.out _ (LE.pt hHeld 0 rfl) (LE.pt hHeld 1 rfl)).mono ?_
        rintro e w10 ⟨rfl, hb10⟩
        have F := LF.step F0 hb10
        refine hK.out _ _ (LE.step hHeld hb10) (fun hHeld => ?_)
        clear hK K hb10 F0
        try simp only [Act.put, List.setIfInBounds_toArray, List.set_cons_zero, List.set_cons_succ]
        refine wpAnyH_ready (rs := [7]) (by kernel_rfl) (by simp) ?_
        refine AllReadyH.cons rfl (fun K hK => ?_) AllReadyH.nil
        rw [if_pos (by rfl)]
        refine wp_store_row 57 _ _ rfl _ _ rfl rfl 57 #[.bool false, .int .i64 0, .int .i64 0, .int .u64 0, .int .i64 0, .pointer none, .int .i64 0, .int .u64 0, .int .i64 0, .pointer none, .int .u64 0, .int .i64 0, .pointer none, .int .u64 0, .int .i64 0, .pointer none, .int .u64 0, .int .i64 0, .pointer none, .string ⟨#[]⟩, .string ⟨#[]⟩, .int .u64 0, .int .i64 0, .pointer none] (LE.get (LF.le F) 0 rfl) (by exact Try.size57) (by rfl) (by kernel_rfl) ?_
        refine hK.out _ _ (LE.tail (LF.set F Dl.cells)) (fun hHeld => ?_)
        clear hK K
        refine wpAnyH_done (by kernel_rfl) ?_ _
        refine NoPanic.normal ?_
        simp only [List.getElem_toArray, List.getElem_cons_zero, List.getElem_cons_succ, Act.put]
        go_step
        go_step
        go_meet
        case rel => exact ⟨_, rfl, LF.set F Dl.cells⟩
    · go_simp
      have F0 := LE.fresh hHeld #[.bool false, .int .i64 0, .int .i64 0, .int .u64 0, .int .i64 0, .pointer none, .int .i64 0, .int .u64 0, .int .i64 0, .pointer none, .int .u64 0, .int .i64 0, .pointer none, .int .u64 0, .int .i64 0, .pointer none, .int .u64 0, .int .i64 0, .pointer none, .string ⟨#[]⟩, .string ⟨#[]⟩, .int .u64 0, .int .i64 0, .pointer none] 57 (wc.heap.size) (by first | rfl | simp)
      refine hK.out _ _ (LE.alloc hHeld _) (fun hHeld => ?_)
      clear hK K
      try simp only [Act.put, List.setIfInBounds_toArray, List.set_cons_zero, List.set_cons_succ]
      refine wpAnyH_ready (rs := [4]) (by kernel_rfl) (by simp) ?_
      refine AllReadyH.cons rfl (fun K hK => ?_) AllReadyH.nil
      go_simp
      refine (add_any (inb + wv) (-1) (by omega) (by omega) (by omega) (by omega) _).mono ?_
      rintro e w9 ⟨rfl, hb9⟩
      have F1 := LF.step F0 hb9
      refine hK.out _ _ (LE.step hHeld hb9) (fun hHeld => ?_)
      clear hK K hb9 F0
      try simp only [Act.put, List.setIfInBounds_toArray, List.set_cons_zero, List.set_cons_succ]
      refine wpAnyH_ready (rs := [5]) (by kernel_rfl) (by simp) ?_
      refine AllReadyH.cons rfl (fun K hK => ?_) AllReadyH.nil
      go_simp
      refine (HCDl.out _ (LE.pt hHeld 0 rfl) (LE.pt hHeld 1 rfl)).mono ?_
      rintro e w10 ⟨rfl, hb10⟩
      have F := LF.step F1 hb10
      refine hK.out _ _ (LE.step hHeld hb10) (fun hHeld => ?_)
      clear hK K hb10 F1
      try simp only [Act.put, List.setIfInBounds_toArray, List.set_cons_zero, List.set_cons_succ]
      refine wpAnyH_ready (rs := [7]) (by kernel_rfl) (by simp) ?_
      refine AllReadyH.cons rfl (fun K hK => ?_) AllReadyH.nil
      rw [if_pos (by rfl)]
      refine wp_store_row 57 _ _ rfl _ _ rfl rfl 57 #[.bool false, .int .i64 0, .int .i64 0, .int .u64 0, .int .i64 0, .pointer none, .int .i64 0, .int .u64 0, .int .i64 0, .pointer none, .int .u64 0, .int .i64 0, .pointer none, .int .u64 0, .int .i64 0, .pointer none, .int .u64 0, .int .i64 0, .pointer none, .string ⟨#[]⟩, .string ⟨#[]⟩, .int .u64 0, .int .i64 0, .pointer none] (LE.get (LF.le F) 0 rfl) (by exact Try.size57) (by rfl) (by kernel_rfl) ?_
      refine hK.out _ _ (LE.tail (LF.set F Dl.cells)) (fun hHeld => ?_)
      clear hK K
      refine wpAnyH_done (by kernel_rfl) ?_ _
      refine NoPanic.normal ?_
      simp only [List.getElem_toArray, List.getElem_cons_zero, List.getElem_cons_succ, Act.put]
      go_step
      go_step
      go_meet
      case rel => exact ⟨_, rfl, LF.set F Dl.cells⟩
  case rest =>
  obtain ⟨b17, hs17, E10⟩ := hcut
  subst hs17
  clear E9
  go_wp2_with (first
    | (guard_target =~ wpList _ _ _ (Oper.mk _ (Op.load 36 (Operand.tmp 11)) _ _ _ _ :: _) _ _; refine wpList_load_blk rfl 36 (.tmp 11) rfl rfl #[.string nm, .string lb, .int .i64 ty, .int .i64 md, .pointer sms', .slice ta' tl' tc', .pointer hrs'] 36 _ ?_ Try.underlying36 rfl (by exact Try.size36) ?_; exact E10.out.get 5 rfl)
    | (guard_target =~ wpList _ _ _ (Oper.mk _ (Op.load 39 (Operand.tmp 12)) _ _ _ _ :: _) _ _; refine wpList_load_blk rfl 39 (.tmp 12) rfl rfl #[.string ch, .string ad] 39 _ ?_ Try.underlying39 rfl (by exact Try.size39) ?_; exact E10.out.get 4 rfl)
    | (guard_target =~ wpList _ _ _ (Oper.mk _ (Op.load 52 (Operand.tmp 13)) _ _ _ _ :: _) _ _; refine wpList_load_blk rfl 52 (.tmp 13) rfl rfl #[.int .i64 ps, .int .u64 (ns pa), .int .i64 (sc pa), .pointer none, .int .i64 ts, .int .u64 (ns tA), .int .i64 (sc tA), .pointer none, .int .u64 (ns x0), .int .i64 (sc x0), .pointer none, .int .u64 (ns x1), .int .i64 (sc x1), .pointer none, .int .u64 (ns x2), .int .i64 (sc x2), .pointer none, .string ich, .string iad, .int .u64 (ns inb), .int .i64 (sc inb), .pointer none] 52 _ ?_ Try.underlying52 rfl (by exact Try.size52) ?_; exact E10.out.get 3 rfl)
    | (guard_target =~ wpList _ _ _ (Oper.mk _ (Op.load 44 (Operand.tmp 15)) _ _ _ _ :: _) _ _; refine wpList_load_blk rfl 44 (.tmp 15) rfl rfl #[.int .u64 (ns (inb + wv)), .int .i64 (sc (inb + wv)), .pointer none] 44 _ ?_ Try.underlying44 rfl (by exact Try.size44) ?_; exact E10.out.get 2 rfl))
  obtain ⟨De, HDe⟩ : ∃ D, Hid (decF ty md sms hrs (emailB ch) ps (ns pa) (sc pa) ts (ns tA) (sc tA) (ns x0) (sc x0) (ns x1) (sc x1) (ns x2) (sc x2) inb (inb + wv) ich iad = D) := ⟨_, rfl⟩
  refine (decide_any nm lb ty md sms' ta' tl' tc' hrs' ch ad ps (ns pa) (sc pa) ts (ns tA) (sc tA) (ns x0) (sc x0) (ns x1) (sc x1) (ns x2) (sc x2) inb (inb + wv) ich iad _ sms hrs (E10.out.pt 0 rfl) (E10.out.pt 1 rfl) (by omega) (by omega)).mono ?_
  rw [HDe.out]
  rintro e w11 ⟨rfl, hb11⟩
  have E11 := hide ((E10.out.step hb11).new De.cells 57)
  clear hb11 E10
  go_wp2_with (first
    | (guard_target =~ wpList _ _ _ (Oper.mk _ (Op.store 57 (Operand.tmp 18) _) _ _ _ _ :: _) _ _; refine wpList_store_last rfl 57 (.tmp 18) _ rfl rfl rfl ?_ (by exact Try.size57) (by rfl) (by rfl) ?_; (first | rfl | simp))
    | (guard_target =~ wpList _ _ _ (Oper.mk _ (Op.load 25 (Operand.tmp 5)) _ _ _ _ :: _) _ _; refine wpList_load_blk rfl 25 (.tmp 5) rfl rfl #[.string nm, .string lb, .int .i64 ty, .int .i64 md, .pointer smsP, .slice ta tl tc, .pointer hrsP] 25 _ ?_ Try.underlying25 rfl (by exact Try.size25) ?_; exact E11.out.get 8 rfl))
  refine (modelB_any nm lb ch ty md smsP ta tl tc hrsP sms _ (E11.out.pt 2 rfl)).mono ?_
  obtain ⟨M, HM⟩ : ∃ M, Hid (mdl ty md sms (emailB ch) = M) := ⟨_, rfl⟩
  rw [HM.out]
  rintro e w12 ⟨rfl, hb12⟩
  have E12 := hide (E11.out.step hb12)
  clear hb12 E11
  go_upto_region 16 with fail
  obtain ⟨hm, HHM⟩ : ∃ x, Hid (hmB ich iad inb = x) := ⟨_, rfl⟩
  go_cut [20] (fun s wx => s = .bool hm ∧ Hid (LE w wx ((w11.heap.size, De.cells, 57) :: ((b17, Dl.cells, 57) :: ((b16, Dm.cells, 57) :: ((wb.heap.size, #[.int .u64 (ns (inb + wv)), .int .i64 (sc (inb + wv)), .pointer none], 44) :: [(w5.heap.size, #[.int .i64 ps, .int .u64 (ns pa), .int .i64 (sc pa), .pointer none, .int .i64 ts, .int .u64 (ns tA), .int .i64 (sc tA), .pointer none, .int .u64 (ns x0), .int .i64 (sc x0), .pointer none, .int .u64 (ns x1), .int .i64 (sc x1), .pointer none, .int .u64 (ns x2), .int .i64 (sc x2), .pointer none, .string ich, .string iad, .int .u64 (ns inb), .int .i64 (sc inb), .pointer none], 52), (w3.heap.size + 1, #[.string ch, .string ad], 39), (w3.heap.size, #[.string nm, .string lb, .int .i64 ty, .int .i64 md, .pointer sms', .slice ta' tl' tc', .pointer hrs'], 36), (w.heap.size + 1, #[.int .i64 ps, .int .i64 pa, .int .i64 ts, .int .i64 tA, .int .i64 x0, .int .i64 x1, .int .i64 x2, .string ich, .string iad, .int .i64 inb], 28), (w.heap.size, #[.string nm, .string lb, .int .i64 ty, .int .i64 md, .pointer smsP, .slice ta tl tc, .pointer hrsP], 25)])))) [(sms', sms), (hrs', hrs), (smsP, sms), (hrsP, hrs)]))
  case first =>
    have c7 := (E12.out.cell 7 7 rfl rfl : _ = some (.string ich))
    have c8 := (E12.out.cell 7 8 rfl rfl : _ = some (.string iad))
    have c9 := (E12.out.cell 7 9 rfl rfl : _ = some (.int .i64 inb))
    cases i1 : ich.toList.isEmpty
    · have e : Hid (hm = true) := by show hm = true; rw [← HHM.out, hmB, i1]; rfl
      go_wp2
      go_meet
      case rel => exact ⟨by rw [e.out], E12⟩
    · cases i2 : iad.toList.isEmpty
      · have e : Hid (hm = true) := by show hm = true; rw [← HHM.out, hmB, i1, i2]; rfl
        go_wp2
        go_meet
        case rel => exact ⟨by rw [e.out], E12⟩
      · cases i3 : (inb == 0)
        · have e : Hid (hm = true) := by show hm = true; rw [← HHM.out, hmB, i1, i2, i3]; rfl
          go_wp2
          go_meet
          case rel => exact ⟨by rw [e.out]; show Value.bool (!(inb == 0)) = _; rw [i3]; rfl, E12⟩
        · have e : Hid (hm = false) := by show hm = false; rw [← HHM.out, hmB, i1, i2, i3]; rfl
          go_wp2
          go_meet
          case rel => exact ⟨by rw [e.out]; show Value.bool (!(inb == 0)) = _; rw [i3]; rfl, E12⟩
  case rest =>
  obtain ⟨hs20, E13⟩ := hcut
  subst hs20
  clear E12
  go_upto_region 17 with fail
  obtain ⟨B, HB⟩ : ∃ B, Hid (bw (x0 == 0) (x1 == 0) (x2 == 0) ty = B) := ⟨_, rfl⟩
  obtain ⟨rd, HR⟩ : ∃ B, Hid (rdB ps ts = B) := ⟨_, rfl⟩
  obtain ⟨I, HI⟩ : ∃ I, Hid (imB B M rd hrs hm = I) := ⟨_, rfl⟩
  go_cut [19, 21] (fun _ s wx => s = .bool I ∧ Hid (LE w wx ((w11.heap.size, De.cells, 57) :: ((b17, Dl.cells, 57) :: ((b16, Dm.cells, 57) :: ((wb.heap.size, #[.int .u64 (ns (inb + wv)), .int .i64 (sc (inb + wv)), .pointer none], 44) :: [(w5.heap.size, #[.int .i64 ps, .int .u64 (ns pa), .int .i64 (sc pa), .pointer none, .int .i64 ts, .int .u64 (ns tA), .int .i64 (sc tA), .pointer none, .int .u64 (ns x0), .int .i64 (sc x0), .pointer none, .int .u64 (ns x1), .int .i64 (sc x1), .pointer none, .int .u64 (ns x2), .int .i64 (sc x2), .pointer none, .string ich, .string iad, .int .u64 (ns inb), .int .i64 (sc inb), .pointer none], 52), (w3.heap.size + 1, #[.string ch, .string ad], 39), (w3.heap.size, #[.string nm, .string lb, .int .i64 ty, .int .i64 md, .pointer sms', .slice ta' tl' tc', .pointer hrs'], 36), (w.heap.size + 1, #[.int .i64 ps, .int .i64 pa, .int .i64 ts, .int .i64 tA, .int .i64 x0, .int .i64 x1, .int .i64 x2, .string ich, .string iad, .int .i64 inb], 28), (w.heap.size, #[.string nm, .string lb, .int .i64 ty, .int .i64 md, .pointer smsP, .slice ta tl tc, .pointer hrsP], 25)])))) [(sms', sms), (hrs', hrs), (smsP, sms), (hrsP, hrs)]))
  case first =>
    have c4 := (E13.out.cell 7 4 rfl rfl : _ = some (.int .i64 x0))
    have c5 := (E13.out.cell 7 5 rfl rfl : _ = some (.int .i64 x1))
    have c6 := (E13.out.cell 7 6 rfl rfl : _ = some (.int .i64 x2))
    have c2 := (E13.out.cell 8 2 rfl rfl : _ = some (.int .i64 ty))
    cases q1 : decide (B < 0)
    · have HX : Hid (I = false) := by show I = false; rw [← HI.out, imB, q1]; rfl
      go_wp2_with (first
        | (go_at_call 11; refine (blockingB_any x0 x1 x2 ty _).mono ?_; rw [HB.out]; rintro e w14 ⟨rfl, hb14⟩; have E14 := hide (E13.out.step hb14); have k0 := (E14.out.cell 7 0 rfl rfl : _ = some (.int .i64 ps)); have k2 := (E14.out.cell 7 2 rfl rfl : _ = some (.int .i64 ts)); have k6 := (E14.out.cell 8 6 rfl rfl : _ = some (.pointer _)))
        | (go_at_call 15; refine (recDecides_any ps ts _).mono ?_; rw [HR.out]; rintro e w' ⟨rfl, rfl⟩))
      go_meet
      case rel => exact ⟨by rw [HX.out], E14⟩
    · cases q2 : (M == 2)
      · cases q3 : (M == 1)
        · cases rd
          · rcases E13.out.pt 3 rfl with ⟨rfl, hn⟩ | ⟨b, off, v, rfl, hn, hlt, hcell⟩
            · subst hn
              have n2 : (M != 2) = true := by rw [bne, q2]; rfl
              have n3 : (M != 1) = true := by rw [bne, q3]; rfl
              have HX : Hid (I = false) := by show I = false; rw [← HI.out, imB, q1, q2, q3]; rfl
              go_wp2_with (first
                | (go_at_call 11; refine (blockingB_any x0 x1 x2 ty _).mono ?_; rw [HB.out]; rintro e w14 ⟨rfl, hb14⟩; have E14 := hide (E13.out.step hb14); have k0 := (E14.out.cell 7 0 rfl rfl : _ = some (.int .i64 ps)); have k2 := (E14.out.cell 7 2 rfl rfl : _ = some (.int .i64 ts)); have k6 := (E14.out.cell 8 6 rfl rfl : _ = some (.pointer _)))
                | (go_at_call 15; refine (recDecides_any ps ts _).mono ?_; rw [HR.out]; rintro e w' ⟨rfl, rfl⟩))
              go_meet
              case rel => exact ⟨by rw [HX.out], E14⟩
            · subst hn
              have n2 : (M != 2) = true := by rw [bne, q2]; rfl
              have n3 : (M != 1) = true := by rw [bne, q3]; rfl
              have HX : Hid (I = hm) := by show I = hm; rw [← HI.out, imB, q1, q2, q3]; rfl
              go_wp2_with (first
                | (go_at_call 11; refine (blockingB_any x0 x1 x2 ty _).mono ?_; rw [HB.out]; rintro e w14 ⟨rfl, hb14⟩; have E14 := hide (E13.out.step hb14); have k0 := (E14.out.cell 7 0 rfl rfl : _ = some (.int .i64 ps)); have k2 := (E14.out.cell 7 2 rfl rfl : _ = some (.int .i64 ts)); have k6 := (E14.out.cell 8 6 rfl rfl : _ = some (.pointer _)))
                | (go_at_call 15; refine (recDecides_any ps ts _).mono ?_; rw [HR.out]; rintro e w' ⟨rfl, rfl⟩))
              go_meet
              case rel => exact ⟨by rw [HX.out], E14⟩
          · have n2 : (M != 2) = true := by rw [bne, q2]; rfl
            have n3 : (M != 1) = true := by rw [bne, q3]; rfl
            have HX : Hid (I = false) := by show I = false; rw [← HI.out, imB, q1, q2, q3]; rfl
            go_wp2_with (first
              | (go_at_call 11; refine (blockingB_any x0 x1 x2 ty _).mono ?_; rw [HB.out]; rintro e w14 ⟨rfl, hb14⟩; have E14 := hide (E13.out.step hb14); have k0 := (E14.out.cell 7 0 rfl rfl : _ = some (.int .i64 ps)); have k2 := (E14.out.cell 7 2 rfl rfl : _ = some (.int .i64 ts)); have k6 := (E14.out.cell 8 6 rfl rfl : _ = some (.pointer _)))
              | (go_at_call 15; refine (recDecides_any ps ts _).mono ?_; rw [HR.out]; rintro e w' ⟨rfl, rfl⟩))
            go_meet
            case rel => exact ⟨by rw [HX.out], E14⟩
        · have n2 : (M != 2) = true := by rw [bne, q2]; rfl
          have n3 : (M != 1) = false := by rw [bne, q3]; rfl
          have HX : Hid (I = false) := by show I = false; rw [← HI.out, imB, q1, q2, q3]; rfl
          go_wp2_with (first
            | (go_at_call 11; refine (blockingB_any x0 x1 x2 ty _).mono ?_; rw [HB.out]; rintro e w14 ⟨rfl, hb14⟩; have E14 := hide (E13.out.step hb14); have k0 := (E14.out.cell 7 0 rfl rfl : _ = some (.int .i64 ps)); have k2 := (E14.out.cell 7 2 rfl rfl : _ = some (.int .i64 ts)); have k6 := (E14.out.cell 8 6 rfl rfl : _ = some (.pointer _)))
            | (go_at_call 15; refine (recDecides_any ps ts _).mono ?_; rw [HR.out]; rintro e w' ⟨rfl, rfl⟩))
          go_meet
          case rel => exact ⟨by rw [HX.out], E14⟩
      · have n2 : (M != 2) = false := by rw [bne, q2]; rfl
        have HX : Hid (I = false) := by show I = false; rw [← HI.out, imB, q1, q2]; rfl
        go_wp2_with (first
          | (go_at_call 11; refine (blockingB_any x0 x1 x2 ty _).mono ?_; rw [HB.out]; rintro e w14 ⟨rfl, hb14⟩; have E14 := hide (E13.out.step hb14); have k0 := (E14.out.cell 7 0 rfl rfl : _ = some (.int .i64 ps)); have k2 := (E14.out.cell 7 2 rfl rfl : _ = some (.int .i64 ts)); have k6 := (E14.out.cell 8 6 rfl rfl : _ = some (.pointer _)))
          | (go_at_call 15; refine (recDecides_any ps ts _).mono ?_; rw [HR.out]; rintro e w' ⟨rfl, rfl⟩))
        go_meet
        case rel => exact ⟨by rw [HX.out], E14⟩
  case rest =>
  obtain ⟨hs21, E15⟩ := hcut
  subst hs21
  clear E13
  have hI : imB (bw (x0 == 0) (x1 == 0) (x2 == 0) ty) (mdl ty md sms (emailB ch)) (rdB ps ts) hrs (hmB ich iad inb) = I := by rw [HB.out, HM.out, HR.out, HHM.out]; exact HI.out
  have HI' := hide hI
  clear hI HI
  cases I
  · have e1 : Dm = Dl := HDm.out.symm.trans ((dec_const ty md sms hrs (emailB ch) ps (ns pa) (sc pa) ts (ns tA) (sc tA) x0 x1 x2 inb ich iad HI'.out _ _).trans HDl.out)
    have e2 : Dm = De := HDm.out.symm.trans ((dec_const ty md sms hrs (emailB ch) ps (ns pa) (sc pa) ts (ns tA) (sc tA) x0 x1 x2 inb ich iad HI'.out _ _).trans HDe.out)
    clear HDm HDl HDe HI' HCDm HCDl
    subst e1
    subst e2
    have eD := eqD Dm
    go_wp2_with (first
      | (guard_target =~ wpList _ _ _ (Oper.mk _ (Op.load 57 (Operand.tmp 16)) _ _ _ _ :: _) _ _; refine wpList_load_w (by rfl) 57 (.tmp 16) rfl rfl Dm.cells 57 _ ?_ Try.underlying57 rfl (by exact Try.size57) ?_; exact E15.out.get 2 rfl)
      | (guard_target =~ wpList _ _ _ (Oper.mk _ (Op.load 57 (Operand.tmp 17)) _ _ _ _ :: _) _ _; refine wpList_load_w (by rfl) 57 (.tmp 17) rfl rfl Dm.cells 57 _ ?_ Try.underlying57 rfl (by exact Try.size57) ?_; exact E15.out.get 1 rfl)
      | (guard_target =~ wpList _ _ _ (Oper.mk _ (Op.load 57 (Operand.tmp 18)) _ _ _ _ :: _) _ _; refine wpList_load_w (by rfl) 57 (.tmp 18) rfl rfl Dm.cells 57 _ ?_ Try.underlying57 rfl (by exact Try.size57) ?_; exact E15.out.get 0 rfl))
    go_ret
    exact ⟨rfl, E15.out.below⟩
  · have f := dec_impl ty md sms hrs (emailB ch) ps (ns pa) (sc pa) ts (ns tA) (sc tA) x0 x1 x2 inb ich iad HI'.out
    rw [HWV.out] at f
    have el : Dl = ({ al := true, re := 5, c := ich, a := iad, i1 := ns inb, i2 := sc inb } : Dc) := HDl.out.symm.trans ((f _).trans (if_pos (by omega)))
    have ee : De = ({ al := false, re := 6, c := ich, a := iad, i1 := ns inb, i2 := sc inb } : Dc) := HDe.out.symm.trans ((f _).trans (if_neg (by omega)))
    have em : Dm = if mo < inb + wv then ({ al := true, re := 5, c := ich, a := iad, i1 := ns inb, i2 := sc inb } : Dc) else ({ al := false, re := 6, c := ich, a := iad, i1 := ns inb, i2 := sc inb } : Dc) := HDm.out.symm.trans (f _)
    have HM2 := hide em
    clear f em HDm HDl HDe HI' HCDm HCDl
    have nl : ∀ w, (binOp .neq 57 (.agg Dl.cells) (.agg #[.bool true, .int .i64 5, .int .i64 0, .int .u64 0, .int .i64 0, .pointer none, .int .i64 0, .int .u64 0, .int .i64 0, .pointer none, .int .u64 0, .int .i64 0, .pointer none, .int .u64 0, .int .i64 0, .pointer none, .int .u64 0, .int .i64 0, .pointer none, .string ich, .string iad, .int .u64 (ns inb), .int .i64 (sc inb), .pointer none])).run Try.prog w = .ok (.bool false) w := by
      intro w; rw [el]; exact neqD ({ al := true, re := 5, c := ich, a := iad, i1 := ns inb, i2 := sc inb } : Dc) w
    have ne : ∀ w, (binOp .neq 57 (.agg De.cells) (.agg #[.bool false, .int .i64 6, .int .i64 0, .int .u64 0, .int .i64 0, .pointer none, .int .i64 0, .int .u64 0, .int .i64 0, .pointer none, .int .u64 0, .int .i64 0, .pointer none, .int .u64 0, .int .i64 0, .pointer none, .int .u64 0, .int .i64 0, .pointer none, .string ich, .string iad, .int .u64 (ns inb), .int .i64 (sc inb), .pointer none])).run Try.prog w = .ok (.bool false) w := by
      intro w; rw [ee]; exact neqD ({ al := false, re := 6, c := ich, a := iad, i1 := ns inb, i2 := sc inb } : Dc) w
    clear el ee
    have k17 := (E15.out.cell 4 17 rfl rfl : _ = some (.string ich))
    have k18 := (E15.out.cell 4 18 rfl rfl : _ = some (.string iad))
    have k19 := (E15.out.cell 4 19 rfl rfl : _ = some (.int .u64 (ns inb)))
    have k20 := (E15.out.cell 4 20 rfl rfl : _ = some (.int .i64 (sc inb)))
    have k21 := (E15.out.cell 4 21 rfl rfl : _ = some (.pointer none))
    have Ea := hide (E15.out.new #[.int .i64 0, .int .u64 0, .int .i64 0, .pointer none, .int .i64 0, .int .u64 0, .int .i64 0, .pointer none, .int .u64 0, .int .i64 0, .pointer none, .int .u64 0, .int .i64 0, .pointer none, .int .u64 0, .int .i64 0, .pointer none, .string ich, .string iad, .int .u64 (ns inb), .int .i64 (sc inb), .pointer none] 52)
    have Eb := hide (Ea.out.newAt #[.bool true, .int .i64 5, .int .i64 0, .int .u64 0, .int .i64 0, .pointer none, .int .i64 0, .int .u64 0, .int .i64 0, .pointer none, .int .u64 0, .int .i64 0, .pointer none, .int .u64 0, .int .i64 0, .pointer none, .int .u64 0, .int .i64 0, .pointer none, .string ich, .string iad, .int .u64 (ns inb), .int .i64 (sc inb), .pointer none] 57 (wc.heap.size + 1) (by simp))
    have Ec := hide (Eb.out.newAt #[.bool false, .int .i64 6, .int .i64 0, .int .u64 0, .int .i64 0, .pointer none, .int .i64 0, .int .u64 0, .int .i64 0, .pointer none, .int .u64 0, .int .i64 0, .pointer none, .int .u64 0, .int .i64 0, .pointer none, .int .u64 0, .int .i64 0, .pointer none, .string ich, .string iad, .int .u64 (ns inb), .int .i64 (sc inb), .pointer none] 57 (wc.heap.size + 1 + 1) (by simp))
    have c9 := (Ec.out.cell 10 9 rfl rfl : _ = some (.int .i64 inb))
    go_wp2_with (first
      | (guard_target =~ wpList _ _ _ (Oper.mk _ (Op.store 52 (Operand.tmp 22) _) _ _ _ _ :: _) _ _; refine wpList_store_last rfl 52 (.tmp 22) _ rfl rfl rfl ?_ (by exact Try.size52) (by rfl) (by rfl) ?_; (first | rfl | simp))
      | (guard_target =~ wpList _ _ _ (Oper.mk _ (Op.load 52 (Operand.tmp 22)) _ _ _ _ :: _) _ _; refine wpList_load_blk rfl 52 (.tmp 22) rfl rfl #[.int .i64 0, .int .u64 0, .int .i64 0, .pointer none, .int .i64 0, .int .u64 0, .int .i64 0, .pointer none, .int .u64 0, .int .i64 0, .pointer none, .int .u64 0, .int .i64 0, .pointer none, .int .u64 0, .int .i64 0, .pointer none, .string ich, .string iad, .int .u64 (ns inb), .int .i64 (sc inb), .pointer none] 52 _ ?_ Try.underlying52 rfl (by exact Try.size52) ?_; (first | exact Ea.out.get 0 rfl | exact Eb.out.get 1 rfl))
      | (guard_target =~ wpList _ _ _ (Oper.mk _ (Op.store 57 (Operand.tmp 23) _) _ _ _ _ :: _) _ _; refine wpList_store_last rfl 57 (.tmp 23) _ rfl rfl rfl ?_ (by exact Try.size57) (by rfl) (by rfl) ?_; (first | rfl | simp))
      | (guard_target =~ wpList _ _ _ (Oper.mk _ (Op.store 57 (Operand.tmp 24) _) _ _ _ _ :: _) _ _; refine wpList_store_last rfl 57 (.tmp 24) _ rfl rfl rfl ?_ (by exact Try.size57) (by rfl) (by rfl) ?_; (first | rfl | simp))
      | (guard_target =~ wpList _ _ _ (Oper.mk _ (Op.load 57 (Operand.tmp 17)) _ _ _ _ :: _) _ _; refine wpList_load_w (by rfl) 57 (.tmp 17) rfl rfl Dl.cells 57 _ ?_ Try.underlying57 rfl (by exact Try.size57) ?_; exact Ec.out.get 4 rfl)
      | (guard_target =~ wpList _ _ _ (Oper.mk _ (Op.load 57 (Operand.tmp 23)) _ _ _ _ :: _) _ _; refine wpList_load_w (by rfl) 57 (.tmp 23) rfl rfl #[.bool true, .int .i64 5, .int .i64 0, .int .u64 0, .int .i64 0, .pointer none, .int .i64 0, .int .u64 0, .int .i64 0, .pointer none, .int .u64 0, .int .i64 0, .pointer none, .int .u64 0, .int .i64 0, .pointer none, .int .u64 0, .int .i64 0, .pointer none, .string ich, .string iad, .int .u64 (ns inb), .int .i64 (sc inb), .pointer none] 57 _ ?_ Try.underlying57 rfl (by exact Try.size57) ?_; exact Ec.out.get 1 rfl)
      | (guard_target =~ wpList _ _ _ (Oper.mk _ (Op.load 57 (Operand.tmp 18)) _ _ _ _ :: _) _ _; refine wpList_load_w (by rfl) 57 (.tmp 18) rfl rfl De.cells 57 _ ?_ Try.underlying57 rfl (by exact Try.size57) ?_; exact Ec.out.get 3 rfl)
      | (guard_target =~ wpList _ _ _ (Oper.mk _ (Op.load 57 (Operand.tmp 24)) _ _ _ _ :: _) _ _; refine wpList_load_w (by rfl) 57 (.tmp 24) rfl rfl #[.bool false, .int .i64 6, .int .i64 0, .int .u64 0, .int .i64 0, .pointer none, .int .i64 0, .int .u64 0, .int .i64 0, .pointer none, .int .u64 0, .int .i64 0, .pointer none, .int .u64 0, .int .i64 0, .pointer none, .int .u64 0, .int .i64 0, .pointer none, .string ich, .string iad, .int .u64 (ns inb), .int .i64 (sc inb), .pointer none] 57 _ ?_ Try.underlying57 rfl (by exact Try.size57) ?_; exact Ec.out.get 0 rfl))
    refine (lessSum_any mo inb wv _ hmo1 hmo2 hinb1 hinb2 wv1 wv2).mono ?_
    cases hL : decide (mo < inb + wv)
    · have em : Dm = ({ al := false, re := 6, c := ich, a := iad, i1 := ns inb, i2 := sc inb } : Dc) := HM2.out.trans (if_neg (of_decide_eq_false hL))
      have eD : ∀ w, (binOp .eql 57 (.agg Dm.cells) (.agg #[.bool false, .int .i64 6, .int .i64 0, .int .u64 0, .int .i64 0, .pointer none, .int .i64 0, .int .u64 0, .int .i64 0, .pointer none, .int .u64 0, .int .i64 0, .pointer none, .int .u64 0, .int .i64 0, .pointer none, .int .u64 0, .int .i64 0, .pointer none, .string ich, .string iad, .int .u64 (ns inb), .int .i64 (sc inb), .pointer none])).run Try.prog w = .ok (.bool true) w := by
        intro w; rw [em]; exact eqD ({ al := false, re := 6, c := ich, a := iad, i1 := ns inb, i2 := sc inb } : Dc) w
      clear em hL
      rintro e w' ⟨rfl, rfl⟩
      go_wp2_with (first
        | (guard_target =~ wpList _ _ _ (Oper.mk _ (Op.load 57 (Operand.tmp 16)) _ _ _ _ :: _) _ _; refine wpList_load_w (by rfl) 57 (.tmp 16) rfl rfl Dm.cells 57 _ ?_ Try.underlying57 rfl (by exact Try.size57) ?_; exact Ec.out.get 5 rfl)
        | (guard_target =~ wpList _ _ _ (Oper.mk _ (Op.load 57 (Operand.tmp 24)) _ _ _ _ :: _) _ _; refine wpList_load_w (by rfl) 57 (.tmp 24) rfl rfl #[.bool false, .int .i64 6, .int .i64 0, .int .u64 0, .int .i64 0, .pointer none, .int .i64 0, .int .u64 0, .int .i64 0, .pointer none, .int .u64 0, .int .i64 0, .pointer none, .int .u64 0, .int .i64 0, .pointer none, .int .u64 0, .int .i64 0, .pointer none, .string ich, .string iad, .int .u64 (ns inb), .int .i64 (sc inb), .pointer none] 57 _ ?_ Try.underlying57 rfl (by exact Try.size57) ?_; exact Ec.out.get 0 rfl))
      go_ret
      exact ⟨rfl, Ec.out.below⟩
    · have em : Dm = ({ al := true, re := 5, c := ich, a := iad, i1 := ns inb, i2 := sc inb } : Dc) := HM2.out.trans (if_pos (of_decide_eq_true hL))
      have eD : ∀ w, (binOp .eql 57 (.agg Dm.cells) (.agg #[.bool true, .int .i64 5, .int .i64 0, .int .u64 0, .int .i64 0, .pointer none, .int .i64 0, .int .u64 0, .int .i64 0, .pointer none, .int .u64 0, .int .i64 0, .pointer none, .int .u64 0, .int .i64 0, .pointer none, .int .u64 0, .int .i64 0, .pointer none, .string ich, .string iad, .int .u64 (ns inb), .int .i64 (sc inb), .pointer none])).run Try.prog w = .ok (.bool true) w := by
        intro w; rw [em]; exact eqD ({ al := true, re := 5, c := ich, a := iad, i1 := ns inb, i2 := sc inb } : Dc) w
      clear em hL
      rintro e w' ⟨rfl, rfl⟩
      go_wp2_with (first
        | (guard_target =~ wpList _ _ _ (Oper.mk _ (Op.load 57 (Operand.tmp 16)) _ _ _ _ :: _) _ _; refine wpList_load_w (by rfl) 57 (.tmp 16) rfl rfl Dm.cells 57 _ ?_ Try.underlying57 rfl (by exact Try.size57) ?_; exact Ec.out.get 5 rfl)
        | (guard_target =~ wpList _ _ _ (Oper.mk _ (Op.load 57 (Operand.tmp 23)) _ _ _ _ :: _) _ _; refine wpList_load_w (by rfl) 57 (.tmp 23) rfl rfl #[.bool true, .int .i64 5, .int .i64 0, .int .u64 0, .int .i64 0, .pointer none, .int .i64 0, .int .u64 0, .int .i64 0, .pointer none, .int .u64 0, .int .i64 0, .pointer none, .int .u64 0, .int .i64 0, .pointer none, .int .u64 0, .int .i64 0, .pointer none, .string ich, .string iad, .int .u64 (ns inb), .int .i64 (sc inb), .pointer none] 57 _ ?_ Try.underlying57 rfl (by exact Try.size57) ?_; exact Ec.out.get 1 rfl))
      go_ret
      exact ⟨rfl, Ec.out.below⟩
end Go.Proofs.Qxb6629324a
