/-
  THE TWO STRUCTS THAT COME IN, OPENED: a ConsentB1Purpose and a ConsentB1Recorded, by value.
-/
import Derived.Test.Qxb6629324aLawEnv
import Derived.OpenShut
import Derived.ShutString
import Derived.Deep.SlicePairs
namespace Go.Proofs.Qxb6629324a
open Go.ChangeShapes Go.WideShapes Go.ChangeAt Go.RowKit

theorem array7 {cs : Array Value} (h : cs.size = 7) : ∃ c0 c1 c2 c3 c4 c5 c6, cs = #[c0, c1, c2, c3, c4, c5, c6] := by
  obtain ⟨l⟩ := cs
  match l, h with
  | [c0, c1, c2, c3, c4, c5, c6], _ => exact ⟨c0, c1, c2, c3, c4, c5, c6, rfl⟩
theorem array10 {cs : Array Value} (h : cs.size = 10) : ∃ c0 c1 c2 c3 c4 c5 c6 c7 c8 c9, cs = #[c0, c1, c2, c3, c4, c5, c6, c7, c8, c9] := by
  obtain ⟨l⟩ := cs
  match l, h with
  | [c0, c1, c2, c3, c4, c5, c6, c7, c8, c9], _ => exact ⟨c0, c1, c2, c3, c4, c5, c6, c7, c8, c9, rfl⟩
theorem cells25 : Try.prog.cellsOf 25 = 7 := by kernel_rfl
theorem cells28 : Try.prog.cellsOf 28 = 10 := by kernel_rfl
theorem cells3 : Try.prog.cellsOf 3 = 1 := by kernel_rfl
theorem cells2 : Try.prog.cellsOf 2 = 1 := by kernel_rfl
theorem cells9 : Try.prog.cellsOf 9 = 1 := by kernel_rfl
theorem cells22 : Try.prog.cellsOf 22 = 1 := by kernel_rfl
theorem cells23 : Try.prog.cellsOf 23 = 1 := by kernel_rfl
theorem cells26 : Try.prog.cellsOf 26 = 3 := by kernel_rfl
theorem cells66 : Try.prog.cellsOf 66 = 2 := by kernel_rfl

section
variable {H : Type} {enc : TypeId × Value → H} {W : World} {spare : Nat → Bool}

theorem open_ptr3 {n : Nat} {c : Value} {y : Option (DataW H × List MemPlace)} (hy : y.isSome = true) (h : DataW.trod enc Try.prog W 0 spare true n 22 [c] = y) : ∃ p o, c = .pointer p ∧ PtrIs W p o := by
  obtain ⟨z, rfl⟩ := Option.isSome_iff_exists.1 hy
  rcases DataW.trod_pointer Try.underlying22 h with ⟨h1, _⟩ | ⟨a, cs', y, m, _, h1, _, h2, h3⟩
  · simp only [List.cons.injEq, and_true] at h1
    exact ⟨none, none, h1, .inl ⟨rfl, rfl⟩⟩
  · simp only [List.cons.injEq, and_true] at h1
    obtain ⟨v, rfl, _, _⟩ := DataW.trod_int Try.underlying3 h3
    rw [cells3] at h2
    obtain ⟨_, hlen, hcell⟩ := World.cells?_some h2
    have hc := hcell 0 (by omega)
    simp at hc
    obtain ⟨b, off, sp⟩ := a
    have hsp : sp = none := World.cell?_spot hc
    subst hsp
    exact ⟨_, some v, h1, .inr ⟨b, off, v, rfl, rfl, block_lt_of_cell hc, hc⟩⟩

theorem open_topics {n : Nat} {c : Value} {y : Option (DataW H × List MemPlace)} (hy : y.isSome = true) (h : DataW.trod enc Try.prog W 0 spare true n 23 [c] = y) : ∃ ta tl tc, c = .slice ta tl tc ∧ Tops W ta tl ∧ tl ≤ maxLen := by
  obtain ⟨z, rfl⟩ := Option.isSome_iff_exists.1 hy
  rcases Deep.open_slice_pairs Try.underlying23 Try.underlying66 cells66 rfl rfl cells9 cells9 h with ⟨h1, _⟩ | ⟨a, len, cap, m, k, V0, V1, D0, D1, P0, P1, h1, _, hl, hm, hmm, _, hx⟩
  · simp only [List.cons.injEq, and_true] at h1
    exact ⟨none, 0, 0, h1, .inl rfl, by unfold maxLen; omega⟩
  · simp only [List.cons.injEq, and_true] at h1
    refine ⟨some a, len, cap, h1, ?_, by omega⟩
    by_cases h0 : len = 0
    · exact .inl h0
    · right
      have hlm : len ≤ m := by rw [hmm]; split <;> omega
      have hsp : a.spot = none := by
        have := (hx 0 (by omega)).1
        rw [Nat.zero_mul, Addr.add_zero'] at this
        exact World.cell?_spot this
      obtain ⟨b, off, sp⟩ := a
      simp only at hsp
      subst hsp
      refine ⟨b, off, rfl, fun i hi => ?_⟩
      obtain ⟨e0, e1, e2, e3⟩ := hx i (by omega)
      obtain ⟨s, hs, _, hz⟩ := DataW.trod_string Try.underlying9 e2
      obtain ⟨s', hs', _, hz'⟩ := DataW.trod_string Try.underlying9 e3
      simp only [List.cons.injEq, and_true] at hs hs'
      rw [add_plain] at e0 e1
      exact ⟨s, s', by rw [e0, hs], by rw [← hs', ← e1]; rfl, hz, hz'⟩

theorem open25 {base : Nat} {v : Value} {d : DataW H} {p : List MemPlace} (hv : Value.okWide Try.prog W .any base 25 v) (h : DataW.Trod enc Try.prog W 0 spare true 25 v d p) :
    ∃ (nm lb : ByteArray) (ty md : Int) (smsP ta : Option Addr) (tl tc : Nat) (hrsP : Option Addr) (sms hrs : Option Int), v = .agg #[.string nm, .string lb, .int .i64 ty, .int .i64 md, .pointer smsP, .slice ta tl tc, .pointer hrsP] ∧
      nm.size ≤ maxLen ∧ lb.size ≤ maxLen ∧ PtrIs W smsP sms ∧ PtrIs W hrsP hrs ∧ Tops W ta tl ∧ tl ≤ maxLen := by
  obtain ⟨cs, rfl, hsz⟩ := okWide_struct Try.underlying25 hv
  obtain ⟨c0, c1, c2, c3, c4, c5, c6, rfl⟩ := array7 (hsz.trans cells25)
  obtain ⟨fuel, hf⟩ := h
  obtain ⟨xs, n, _, _, _, hxl, hx⟩ := DataW.trod_struct Try.underlying25 hf
  have fld : ∀ (i : Nat) (f : Field) (t : TypeId) (l : List Value), #[c0, c1, c2, c3, c4, c5, c6].size = 7 → _ → f.type = t → ((Value.agg #[c0, c1, c2, c3, c4, c5, c6]).cells.toList.drop f.offset).take (Try.prog.cellsOf t) = l → DataW.trod enc Try.prog W 0 spare true n t l = xs[i]? := fun i f t l _ hi ht hl => by
    subst ht
    rw [← hl]
    exact hx i f hi
  have g0 := fld 0 _ 9 [c0] rfl rfl rfl (by rw [cells9]; rfl)
  have g1 := fld 1 _ 9 [c1] rfl rfl rfl (by rw [cells9]; rfl)
  have g2 := fld 2 _ 3 [c2] rfl rfl rfl (by rw [cells3]; rfl)
  have g3 := fld 3 _ 3 [c3] rfl rfl rfl (by rw [cells3]; rfl)
  have g4 := fld 4 _ 22 [c4] rfl rfl rfl (by rw [cells22]; rfl)
  have g5 := fld 5 _ 23 [c5] rfl rfl rfl (by rw [cells23]; rfl)
  have g6 := fld 6 _ 22 [c6] rfl rfl rfl (by rw [cells22]; rfl)
  have hxl7 : xs.length = 7 := hxl
  have e : ∀ i, i < 7 → (xs[i]?).isSome = true := fun i hi => by simp; omega
  obtain ⟨y0, z0⟩ := Option.isSome_iff_exists.1 (e 0 (by omega))
  obtain ⟨y1, z1⟩ := Option.isSome_iff_exists.1 (e 1 (by omega))
  obtain ⟨y2, z2⟩ := Option.isSome_iff_exists.1 (e 2 (by omega))
  obtain ⟨y3, z3⟩ := Option.isSome_iff_exists.1 (e 3 (by omega))
  rw [z0] at g0
  rw [z1] at g1
  rw [z2] at g2
  rw [z3] at g3
  obtain ⟨nm, k0, _, s0⟩ := DataW.trod_string Try.underlying9 g0
  obtain ⟨lb, k1, _, s1⟩ := DataW.trod_string Try.underlying9 g1
  obtain ⟨ty, k2, _, _⟩ := DataW.trod_int Try.underlying3 g2
  obtain ⟨md, k3, _, _⟩ := DataW.trod_int Try.underlying3 g3
  obtain ⟨smsP, sms, rfl, hp⟩ := open_ptr3 (e 4 (by omega)) g4
  obtain ⟨ta, tl, tc, rfl, ht, htl⟩ := open_topics (e 5 (by omega)) g5
  obtain ⟨hrsP, hrs, rfl, hq⟩ := open_ptr3 (e 6 (by omega)) g6
  simp only [List.cons.injEq, and_true] at k0 k1 k2 k3
  subst k0 k1 k2 k3
  exact ⟨nm, lb, ty, md, smsP, ta, tl, tc, hrsP, sms, hrs, rfl, s0, s1, hp, hq, ht, htl⟩

theorem open_sup {n : Nat} {c0 c1 c2 : Value} {y : Option (DataW H × List MemPlace)} (hy : y.isSome = true) (h : DataW.trod enc Try.prog W 0 spare true n 26 [c0, c1, c2] = y) : ∃ x0 x1 x2 : Int, c0 = .int .i64 x0 ∧ c1 = .int .i64 x1 ∧ c2 = .int .i64 x2 ∧ (Lit.int .i64 x0).wf = true ∧ (Lit.int .i64 x1).wf = true ∧ (Lit.int .i64 x2).wf = true := by
  obtain ⟨z, rfl⟩ := Option.isSome_iff_exists.1 hy
  obtain ⟨xs, m, _, _, _, hl, hx⟩ := DataW.trod_array Try.underlying26 h
  have e : ∀ i, i < 3 → (xs[i]?).isSome = true := fun i hi => by simp; omega
  have g0 := hx 0 (by omega)
  have g1 := hx 1 (by omega)
  have g2 := hx 2 (by omega)
  rw [cells2] at g0 g1 g2
  obtain ⟨y0, k0⟩ := Option.isSome_iff_exists.1 (e 0 (by omega))
  obtain ⟨y1, k1⟩ := Option.isSome_iff_exists.1 (e 1 (by omega))
  obtain ⟨y2, k2⟩ := Option.isSome_iff_exists.1 (e 2 (by omega))
  rw [k0] at g0
  rw [k1] at g1
  rw [k2] at g2
  obtain ⟨x0, r0, _, w0⟩ := DataW.trod_int Try.underlying2 g0
  obtain ⟨x1, r1, _, w1⟩ := DataW.trod_int Try.underlying2 g1
  obtain ⟨x2, r2, _, w2⟩ := DataW.trod_int Try.underlying2 g2
  simp at r0 r1 r2
  exact ⟨x0, x1, x2, r0, r1, r2, w0, w1, w2⟩

theorem open28 {base : Nat} {v : Value} {d : DataW H} {p : List MemPlace} (hv : Value.okWide Try.prog W .any base 28 v) (h : DataW.Trod enc Try.prog W 0 spare true 28 v d p) :
    ∃ (ps pa ts tA x0 x1 x2 : Int) (ich iad : ByteArray) (inb : Int), v = .agg #[.int .i64 ps, .int .i64 pa, .int .i64 ts, .int .i64 tA, .int .i64 x0, .int .i64 x1, .int .i64 x2, .string ich, .string iad, .int .i64 inb] ∧
      ich.size ≤ maxLen ∧ iad.size ≤ maxLen ∧ (Lit.int .i64 pa).wf = true ∧ (Lit.int .i64 tA).wf = true ∧ (Lit.int .i64 x0).wf = true ∧ (Lit.int .i64 x1).wf = true ∧ (Lit.int .i64 x2).wf = true ∧ (Lit.int .i64 inb).wf = true := by
  obtain ⟨cs, rfl, hsz⟩ := okWide_struct Try.underlying28 hv
  obtain ⟨c0, c1, c2, c3, c4, c5, c6, c7, c8, c9, rfl⟩ := array10 (hsz.trans cells28)
  obtain ⟨fuel, hf⟩ := h
  obtain ⟨xs, n, _, _, _, hxl, hx⟩ := DataW.trod_struct Try.underlying28 hf
  have fld : ∀ (i : Nat) (f : Field) (t : TypeId) (l : List Value), #[c0, c1, c2, c3, c4, c5, c6, c7, c8, c9].size = 10 → _ → f.type = t → ((Value.agg #[c0, c1, c2, c3, c4, c5, c6, c7, c8, c9]).cells.toList.drop f.offset).take (Try.prog.cellsOf t) = l → DataW.trod enc Try.prog W 0 spare true n t l = xs[i]? := fun i f t l _ hi ht hl => by
    subst ht
    rw [← hl]
    exact hx i f hi
  have g0 := fld 0 _ 3 [c0] rfl rfl rfl (by rw [cells3]; rfl)
  have g1 := fld 1 _ 2 [c1] rfl rfl rfl (by rw [cells2]; rfl)
  have g2 := fld 2 _ 3 [c2] rfl rfl rfl (by rw [cells3]; rfl)
  have g3 := fld 3 _ 2 [c3] rfl rfl rfl (by rw [cells2]; rfl)
  have g4 := fld 4 _ 26 [c4, c5, c6] rfl rfl rfl (by rw [cells26]; rfl)
  have g5 := fld 5 _ 9 [c7] rfl rfl rfl (by rw [cells9]; rfl)
  have g6 := fld 6 _ 9 [c8] rfl rfl rfl (by rw [cells9]; rfl)
  have g7 := fld 7 _ 2 [c9] rfl rfl rfl (by rw [cells2]; rfl)
  have hxl8 : xs.length = 8 := hxl
  have e : ∀ i, i < 8 → (xs[i]?).isSome = true := fun i hi => by simp; omega
  obtain ⟨y0, z0⟩ := Option.isSome_iff_exists.1 (e 0 (by omega))
  obtain ⟨y1, z1⟩ := Option.isSome_iff_exists.1 (e 1 (by omega))
  obtain ⟨y2, z2⟩ := Option.isSome_iff_exists.1 (e 2 (by omega))
  obtain ⟨y3, z3⟩ := Option.isSome_iff_exists.1 (e 3 (by omega))
  obtain ⟨y5, z5⟩ := Option.isSome_iff_exists.1 (e 5 (by omega))
  obtain ⟨y6, z6⟩ := Option.isSome_iff_exists.1 (e 6 (by omega))
  obtain ⟨y7, z7⟩ := Option.isSome_iff_exists.1 (e 7 (by omega))
  rw [z0] at g0
  rw [z1] at g1
  rw [z2] at g2
  rw [z3] at g3
  rw [z5] at g5
  rw [z6] at g6
  rw [z7] at g7
  obtain ⟨ps, k0, _, _⟩ := DataW.trod_int Try.underlying3 g0
  obtain ⟨pa, k1, _, w1⟩ := DataW.trod_int Try.underlying2 g1
  obtain ⟨ts, k2, _, _⟩ := DataW.trod_int Try.underlying3 g2
  obtain ⟨tA, k3, _, w3⟩ := DataW.trod_int Try.underlying2 g3
  obtain ⟨x0, x1, x2, r0, r1, r2, v0, v1, v2⟩ := open_sup (e 4 (by omega)) g4
  obtain ⟨ich, k5, _, s5⟩ := DataW.trod_string Try.underlying9 g5
  obtain ⟨iad, k6, _, s6⟩ := DataW.trod_string Try.underlying9 g6
  obtain ⟨inb, k7, _, w7⟩ := DataW.trod_int Try.underlying2 g7
  simp only [List.cons.injEq, and_true] at k0 k1 k2 k3 k5 k6 k7
  subst k0 k1 k2 k3 k5 k6 k7 r0 r1 r2
  exact ⟨ps, pa, ts, tA, x0, x1, x2, ich, iad, inb, rfl, s5, s6, w1, w3, v0, v1, v2, w7⟩
theorem bd64 {x : Int} (h : (Lit.int .i64 x).wf = true) : -9223372036854775808 ≤ x ∧ x ≤ 9223372036854775807 := by
  simp [Lit.wf, IntKind.min, IntKind.max, IntKind.signed, IntKind.bits] at h
  omega
end
end Go.Proofs.Qxb6629324a
