/-
  THE SMALL FUNCTIONS of package consent that Decide goes through.
-/
import Derived.Test.Qxb6629324aTime
namespace Go.Proofs.Qxb6629324a
open Go.ChangeShapes Go.WideShapes Go.ChangeAt Go.RowKit

/-- (List).Blocks at the three lists -/
theorem blocks0 (t : Int) (w : World) : Calls Try.prog 28 #[.int .i64 0, .int .i64 t] w fun e w' => e = .returned (.bool true) ∧ w' = w := by
  go_enter Try.func28, Try.ntmps28
  go_wp2
  go_ret
  exact ⟨rfl, rfl⟩
theorem blocks1 (t : Int) (w : World) : Calls Try.prog 28 #[.int .i64 1, .int .i64 t] w fun e w' => e = .returned (.bool (t == 0)) ∧ w' = w := by
  go_enter Try.func28, Try.ntmps28
  go_wp2
  go_ret
  go_wp2
theorem blocks2 (t : Int) (w : World) : Calls Try.prog 28 #[.int .i64 2, .int .i64 t] w fun e w' => e = .returned (.bool (t == 1)) ∧ w' = w := by
  go_enter Try.func28, Try.ntmps28
  go_wp2
  go_ret
  go_wp2

/-- is the channel email -/
def emailB (ch : ByteArray) : Bool := ch.toList == [101, 109, 97, 105, 108]
theorem isEmail_any (ch ad : ByteArray) (w : World) : Calls Try.prog 29 #[.agg #[.string ch, .string ad]] w fun e w' => e = .returned (.bool (emailB ch)) ∧ Below w.heap.size w w' := by
  go_enter Try.func29, Try.ntmps29
  go_wp2
  go_ret
  exact ⟨rfl, (Below.refl _ _).alloc (Nat.le_refl _) _⟩

/-- (time.Time).IsZero, of whatever cells -/
theorem isZero_raw (n s : Int) (b : Bool) (hb : (n == 0 && s == 0) = b) (w : World) :
    Calls Try.prog 27 #[.agg #[.int .u64 n, .int .i64 s, .pointer none]] w fun e w' => e = .returned (.bool b) ∧ Below w.heap.size w w' := by
  subst hb
  cases hn : (n == 0)
  · go_enter Try.func27, Try.ntmps27
    go_wp2
    go_ret
    exact ⟨rfl, (Below.refl _ _).alloc (Nat.le_refl _) _⟩
  · go_enter Try.func27, Try.ntmps27
    go_wp2
    go_ret
    exact ⟨by simp, (Below.refl _ _).alloc (Nat.le_refl _) _⟩

/-- a pointer to an int that lies in memory, or nil -/
def PtrIs (w : World) (p : Option Addr) (o : Option Int) : Prop :=
  (p = none ∧ o = none) ∨ ∃ b off v, p = some ⟨b, off, none⟩ ∧ o = some v ∧ b < w.heap.size ∧ w.cell? ⟨b, off, none⟩ = some (.int .i64 v)
theorem PtrIs.below {w w' : World} {p : Option Addr} {o : Option Int} (h : PtrIs w p o) (hb : Below w.heap.size w w') : PtrIs w' p o := by
  rcases h with h | ⟨b, off, v, h1, h2, h3, h4⟩
  · exact .inl h
  · exact .inr ⟨b, off, v, h1, h2, Nat.lt_of_lt_of_le h3 hb.size, by rw [hb.cell (p := ⟨b, off, none⟩) h3]; exact h4⟩

/-- the model that a purpose applies to a point -/
def mdl (ty md : Int) (sms : Option Int) (em : Bool) : Int :=
  if ty = 2 ∨ em = true then md else match sms with | some v => v | none => if md = 1 then 0 else md

set_option maxHeartbeats 400000 in
/-- (Purpose).modelFor -/
theorem modelFor_any (nm lb : ByteArray) (ty md : Int) (smsP : Option Addr) (ta : Option Addr) (tl tc : Nat) (hrsP : Option Addr) (ch ad : ByteArray) (sms : Option Int) (w : World) (hp : PtrIs w smsP sms) :
    Calls Try.prog 18 #[.agg #[.string nm, .string lb, .int .i64 ty, .int .i64 md, .pointer smsP, .slice ta tl tc, .pointer hrsP], .agg #[.string ch, .string ad]] w fun e w' =>
      e = .returned (.int .i64 (mdl ty md sms (emailB ch))) ∧ Below w.heap.size w w' := by
  obtain ⟨em, HE⟩ : ∃ em, Hid (emailB ch = em) := ⟨_, rfl⟩
  have hem : ∀ w : World, Calls Try.prog 29 #[.agg #[.string ch, .string ad]] w fun e w' => e = .returned (.bool em) ∧ Below w.heap.size w w' := by
    intro w; rw [← HE.out]; exact isEmail_any ch ad w
  rw [HE.out]
  have HM := hem
  clear hem
  have HM : Hid (∀ w : World, Calls Try.prog 29 #[.agg #[.string ch, .string ad]] w fun e w' => e = .returned (.bool em) ∧ Below w.heap.size w w') := HM
  by_cases h2 : ty = 2
  · have q : (ty == 2) = true := beq_iff_eq.2 h2
    have HR : Hid (mdl ty md sms em = md) := by show _ = _; simp [mdl, h2]
    clear h2
    go_enter Try.func18, Try.ntmps18
    go_wp2
    go_ret
    exact ⟨ret_int HR.out.symm, ((Below.refl _ _).alloc (Nat.le_refl _) _).alloc (by simp) _⟩
  · have q : (ty == 2) = false := beq_eq_false_iff_ne.2 h2
    cases em
    · rcases hp with ⟨rfl, rfl⟩ | ⟨b, off, v, rfl, rfl, hlt, hcell⟩
      · by_cases h1 : md = 1
        · have HR : Hid (mdl ty md none false = 0) := by show _ = _; simp [mdl, h2, h1]
          have q1 : (md == 1) = true := beq_iff_eq.2 h1
          clear h2 h1
          go_enter Try.func18, Try.ntmps18
          go_wp2_with (go_at_call 29; refine (HM.out _).mono ?_; rintro e w' ⟨rfl, hb⟩; obtain ⟨hc, hf⟩ := bcell hb)
          go_ret
          exact ⟨ret_int HR.out.symm, (((Below.refl _ _).alloc (Nat.le_refl _) _).alloc (by simp) _).trans (hb.mono (by simp; omega))⟩
        · have HR : Hid (mdl ty md none false = md) := by show _ = _; simp [mdl, h2, h1]
          have q1 : (md == 1) = false := beq_eq_false_iff_ne.2 h1
          clear h2 h1
          go_enter Try.func18, Try.ntmps18
          go_wp2_with (go_at_call 29; refine (HM.out _).mono ?_; rintro e w' ⟨rfl, hb⟩; obtain ⟨hc, hf⟩ := bcell hb)
          go_ret
          exact ⟨ret_int HR.out.symm, (((Below.refl _ _).alloc (Nat.le_refl _) _).alloc (by simp) _).trans (hb.mono (by simp; omega))⟩
      · have HR : Hid (mdl ty md (some v) false = v) := by show _ = _; simp [mdl, h2]
        clear h2
        go_enter Try.func18, Try.ntmps18
        go_wp2_with (go_at_call 29; refine (HM.out _).mono ?_; rintro e w' ⟨rfl, hb⟩; obtain ⟨hc, hf⟩ := bcell hb; have hcc := hc b off (by simp; omega))
        go_ret
        exact ⟨ret_int HR.out.symm, (((Below.refl _ _).alloc (Nat.le_refl _) _).alloc (by simp) _).trans (hb.mono (by simp; omega))⟩
    · have HR : Hid (mdl ty md sms true = md) := by show _ = _; simp [mdl]
      clear h2
      go_enter Try.func18, Try.ntmps18
      go_wp2_with (go_at_call 29; refine (HM.out _).mono ?_; rintro e w' ⟨rfl, hb⟩; obtain ⟨hc, hf⟩ := bcell hb)
      go_ret
      exact ⟨ret_int HR.out.symm, (((Below.refl _ _).alloc (Nat.le_refl _) _).alloc (by simp) _).trans (hb.mono (by simp; omega))⟩


/-- (Recorded).latest -/
theorem latest_any (ps p1 p2 ts t1 t2 n0 s0 n1 s1 n2 s2 i1 i2 : Int) (ch ad : ByteArray) (w : World) :
    Calls Try.prog 20 #[.agg #[.int .i64 ps, .int .u64 p1, .int .i64 p2, .pointer none, .int .i64 ts, .int .u64 t1, .int .i64 t2, .pointer none, .int .u64 n0, .int .i64 s0, .pointer none, .int .u64 n1, .int .i64 s1, .pointer none, .int .u64 n2, .int .i64 s2, .pointer none, .string ch, .string ad, .int .u64 i1, .int .i64 i2, .pointer none]] w fun e w' =>
      e = .returned (.int .i64 (if ts = 0 then ps else ts)) ∧ Below w.heap.size w w' := by
  by_cases h : ts = 0
  · have q : (ts == 0) = true := beq_iff_eq.2 h
    rw [if_pos h]
    clear h
    go_enter Try.func20, Try.ntmps20
    go_wp2
    go_ret
    exact ⟨rfl, (Below.refl _ _).alloc (Nat.le_refl _) _⟩
  · have q : (ts == 0) = false := beq_eq_false_iff_ne.2 h
    rw [if_neg h]
    clear h
    go_enter Try.func20, Try.ntmps20
    go_wp2
    go_ret
    exact ⟨rfl, (Below.refl _ _).alloc (Nat.le_refl _) _⟩

/-- what stands of x where the test says no: nothing -/
def keep (b : Bool) (x : Int) : Int := if b then x else 0

theorem Try.size52 : (Try.prog.info? 52).map (·.size) = some 22 := by kernel_rfl
theorem Try.size48 : (Try.prog.info? 48).map (·.size) = some 9 := by kernel_rfl
theorem Try.size57 : (Try.prog.info? 57).map (·.size) = some 24 := by kernel_rfl

set_option maxHeartbeats 400000 in
/-- (Recorded).weighed -/
theorem weighed_any (ps p1 p2 ts t1 t2 n0 s0 n1 s1 n2 s2 i1 i2 : Int) (ch ad : ByteArray) (w : World) :
    Calls Try.prog 19 #[.agg #[.int .i64 ps, .int .u64 p1, .int .i64 p2, .pointer none, .int .i64 ts, .int .u64 t1, .int .i64 t2, .pointer none, .int .u64 n0, .int .i64 s0, .pointer none, .int .u64 n1, .int .i64 s1, .pointer none, .int .u64 n2, .int .i64 s2, .pointer none, .string ch, .string ad, .int .u64 i1, .int .i64 i2, .pointer none]] w fun e w' =>
      e = .returned (.agg #[.int .i64 ps, .int .u64 p1, .int .i64 p2, .pointer none, .int .i64 (keep (ps != 2) ts), .int .u64 (keep (ps != 2) t1), .int .i64 (keep (ps != 2) t2), .pointer none, .int .u64 0, .int .i64 0, .pointer none, .int .u64 0, .int .i64 0, .pointer none, .int .u64 0, .int .i64 0, .pointer none, .string ⟨#[]⟩, .string ⟨#[]⟩, .int .u64 0, .int .i64 0, .pointer none]) ∧ Below w.heap.size w w' := by
  by_cases h : ps = 2
  · have q : (ps == 2) = true := beq_iff_eq.2 h
    have K : Hid (∀ x, keep (ps != 2) x = 0) := by intro x; simp [keep, h]
    rw [K.out, K.out, K.out]
    clear h
    go_enter Try.func19, Try.ntmps19
    go_wp2_with (refine wpList_store_last rfl 52 _ _ rfl rfl rfl ?_ Try.size52 rfl rfl ?_; (simp))
    refine bodyPost_ret (v := .agg #[.int .i64 ps, .int .u64 p1, .int .i64 p2, .pointer none, .int .i64 0, .int .u64 0, .int .i64 0, .pointer none, .int .u64 0, .int .i64 0, .pointer none, .int .u64 0, .int .i64 0, .pointer none, .int .u64 0, .int .i64 0, .pointer none, .string ⟨#[]⟩, .string ⟨#[]⟩, .int .u64 0, .int .i64 0, .pointer none]) ?_ rfl ⟨rfl, ?_⟩
    · exact results_cell_row Try.results19 _ _ _ 52 _ (0, 0) _ rfl (heap_alloc2_new _ _ _) Try.underlying52 rfl Try.size52
    · exact ((Below.refl _ _).alloc (Nat.le_refl _) _).alloc (by simp) _
  · have q : (ps == 2) = false := beq_eq_false_iff_ne.2 h
    have K : Hid (∀ x, keep (ps != 2) x = x) := by intro x; simp [keep, h]
    rw [K.out, K.out, K.out]
    clear h
    go_enter Try.func19, Try.ntmps19
    go_wp2_with (refine wpList_store_last rfl 52 _ _ rfl rfl rfl ?_ Try.size52 rfl rfl ?_; (simp))
    refine bodyPost_ret (v := .agg #[.int .i64 ps, .int .u64 p1, .int .i64 p2, .pointer none, .int .i64 ts, .int .u64 t1, .int .i64 t2, .pointer none, .int .u64 0, .int .i64 0, .pointer none, .int .u64 0, .int .i64 0, .pointer none, .int .u64 0, .int .i64 0, .pointer none, .string ⟨#[]⟩, .string ⟨#[]⟩, .int .u64 0, .int .i64 0, .pointer none]) ?_ rfl ⟨rfl, ?_⟩
    · exact results_cell_row Try.results19 _ _ _ 52 _ (0, 0) _ rfl (heap_alloc2_new _ _ _) Try.underlying52 rfl Try.size52
    · exact ((Below.refl _ _).alloc (Nat.le_refl _) _).alloc (by simp) _

end Go.Proofs.Qxb6629324a
