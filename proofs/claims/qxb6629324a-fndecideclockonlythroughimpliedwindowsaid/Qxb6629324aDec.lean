/-
  Decide as one plain function of what it is handed.
-/
import Derived.Test.Qxb6629324aDecA
import Derived.Test.Qxb6629324aDecB
import Derived.Test.Qxb6629324aDecC
import Derived.Test.Qxb6629324aDecD
import Derived.Test.Qxb6629324aDecE
import Derived.Test.Qxb6629324aDecF
import Derived.Test.Qxb6629324aDecG
import Derived.Test.Qxb6629324aDecI
namespace Go.Proofs.Qxb6629324a
open Go.ChangeShapes Go.WideShapes Go.ChangeAt Go.RowKit

/-- a Decision, as plain data -/
structure Dc where
  al : Bool
  re : Int
  ps : Int := 0
  p1 : Int := 0
  p2 : Int := 0
  ts : Int := 0
  t1 : Int := 0
  t2 : Int := 0
  n0 : Int := 0
  s0 : Int := 0
  n1 : Int := 0
  s1 : Int := 0
  n2 : Int := 0
  s2 : Int := 0
  i1 : Int := 0
  i2 : Int := 0
  c : ByteArray := ⟨#[]⟩
  a : ByteArray := ⟨#[]⟩
def Dc.cells (d : Dc) : Array Value := #[.bool d.al, .int .i64 d.re, .int .i64 d.ps, .int .u64 d.p1, .int .i64 d.p2, .pointer none, .int .i64 d.ts, .int .u64 d.t1, .int .i64 d.t2, .pointer none, .int .u64 d.n0, .int .i64 d.s0, .pointer none, .int .u64 d.n1, .int .i64 d.s1, .pointer none, .int .u64 d.n2, .int .i64 d.s2, .pointer none, .string d.c, .string d.a, .int .u64 d.i1, .int .i64 d.i2, .pointer none]

/-- the status that decides -/
def stat (ps ts : Int) : Int := if keep (ps != 2) ts = 0 then ps else keep (ps != 2) ts
/-- Decide -/
def decF (ty md : Int) (sms hrs : Option Int) (em : Bool) (ps p1 p2 ts t1 t2 n0 s0 n1 s1 n2 s2 inb mo : Int) (ich iad : ByteArray) : Dc :=
  if 0 ≤ bw (n0 == 0 && s0 == 0) (n1 == 0 && s1 == 0) (n2 == 0 && s2 == 0) ty then
    { al := false, re := 4, n0 := at_ (bw (n0 == 0 && s0 == 0) (n1 == 0 && s1 == 0) (n2 == 0 && s2 == 0) ty) 0 n0, s0 := at_ (bw (n0 == 0 && s0 == 0) (n1 == 0 && s1 == 0) (n2 == 0 && s2 == 0) ty) 0 s0, n1 := at_ (bw (n0 == 0 && s0 == 0) (n1 == 0 && s1 == 0) (n2 == 0 && s2 == 0) ty) 1 n1, s1 := at_ (bw (n0 == 0 && s0 == 0) (n1 == 0 && s1 == 0) (n2 == 0 && s2 == 0) ty) 1 s1, n2 := at_ (bw (n0 == 0 && s0 == 0) (n1 == 0 && s1 == 0) (n2 == 0 && s2 == 0) ty) 2 n2, s2 := at_ (bw (n0 == 0 && s0 == 0) (n1 == 0 && s1 == 0) (n2 == 0 && s2 == 0) ty) 2 s2 }
  else if mdl ty md sms em = 2 then { al := true, re := 3 }
  else if stat ps ts = 1 then { al := true, re := 0, ps := ps, p1 := p1, p2 := p2, ts := keep (ps != 2) ts, t1 := keep (ps != 2) t1, t2 := keep (ps != 2) t2 }
  else if stat ps ts = 2 then { al := false, re := 1, ps := ps, p1 := p1, p2 := p2, ts := keep (ps != 2) ts, t1 := keep (ps != 2) t1, t2 := keep (ps != 2) t2 }
  else if mdl ty md sms em = 1 then { al := true, re := 2 }
  else match hrs with
    | none => { al := false, re := 2 }
    | some v =>
      if inbZ ich iad (ns inb) (sc inb) = true then { al := false, re := 2 }
      else if mo < inb + IntKind.i64.wrap (v * 3600000000000) then { al := true, re := 5, c := ich, a := iad, i1 := ns inb, i2 := sc inb }
      else { al := false, re := 6, c := ich, a := iad, i1 := ns inb, i2 := sc inb }

theorem bw_range (z0 z1 z2 : Bool) (t : Int) : ¬ 0 ≤ bw z0 z1 z2 t → bw z0 z1 z2 t = -1 := by
  unfold bw
  split
  · omega
  · split
    · omega
    · split <;> omega

set_option maxHeartbeats 1000000 in
theorem decide_any (nm lb : ByteArray) (ty md : Int) (smsP : Option Addr) (ta : Option Addr) (tl tc : Nat) (hrsP : Option Addr) (ch ad : ByteArray) (ps p1 p2 ts t1 t2 n0 s0 n1 s1 n2 s2 inb mo : Int) (ich iad : ByteArray) (w : World) (sms hrs : Option Int) (hp : PtrIs w smsP sms) (hq : PtrIs w hrsP hrs) (hi1 : -73786976294838206464 ≤ inb) (hi2 : inb ≤ 73786976294838206464) :
    Calls Try.prog 10 #[.agg #[.string nm, .string lb, .int .i64 ty, .int .i64 md, .pointer smsP, .slice ta tl tc, .pointer hrsP], .agg #[.string ch, .string ad], .agg #[.int .i64 ps, .int .u64 p1, .int .i64 p2, .pointer none, .int .i64 ts, .int .u64 t1, .int .i64 t2, .pointer none, .int .u64 n0, .int .i64 s0, .pointer none, .int .u64 n1, .int .i64 s1, .pointer none, .int .u64 n2, .int .i64 s2, .pointer none, .string ich, .string iad, .int .u64 (ns inb), .int .i64 (sc inb), .pointer none], .agg #[.int .u64 (ns mo), .int .i64 (sc mo), .pointer none]] w fun e w' => e = .returned (.agg (decF ty md sms hrs (emailB ch) ps p1 p2 ts t1 t2 n0 s0 n1 s1 n2 s2 inb mo ich iad).cells) ∧ Below w.heap.size w w' := by
  unfold decF
  by_cases hB : 0 ≤ bw (n0 == 0 && s0 == 0) (n1 == 0 && s1 == 0) (n2 == 0 && s2 == 0) ty
  · rw [if_pos hB]
    exact decide_blocked nm lb ty md smsP ta tl tc hrsP ch ad ps p1 p2 ts t1 t2 n0 s0 n1 s1 n2 s2 inb mo ich iad w _ hB rfl
  · rw [if_neg hB]
    have hbw := bw_range _ _ _ _ hB
    by_cases h2 : mdl ty md sms (emailB ch) = 2
    · rw [if_pos h2]
      exact decide_disabled nm lb ty md smsP ta tl tc hrsP ch ad ps p1 p2 ts t1 t2 n0 s0 n1 s1 n2 s2 inb mo ich iad w sms hp hbw _ rfl h2
    · rw [if_neg h2]
      by_cases hs1 : stat ps ts = 1
      · rw [if_pos hs1]
        exact decide_in nm lb ty md smsP ta tl tc hrsP ch ad ps p1 p2 ts t1 t2 n0 s0 n1 s1 n2 s2 inb mo ich iad w sms hp hbw _ rfl h2 _ rfl hs1
      · rw [if_neg hs1]
        by_cases hs2 : stat ps ts = 2
        · rw [if_pos hs2]
          exact decide_out nm lb ty md smsP ta tl tc hrsP ch ad ps p1 p2 ts t1 t2 n0 s0 n1 s1 n2 s2 inb mo ich iad w sms hp hbw _ rfl h2 _ rfl hs2
        · rw [if_neg hs2]
          by_cases h1 : mdl ty md sms (emailB ch) = 1
          · rw [if_pos h1]
            exact decide_nonres nm lb ty md smsP ta tl tc hrsP ch ad ps p1 p2 ts t1 t2 n0 s0 n1 s1 n2 s2 inb mo ich iad w sms hp hbw _ rfl h2 _ rfl hs1 hs2 h1
          · rw [if_neg h1]
            rcases hq with ⟨hh, rfl⟩ | ⟨b, off, v, hh, rfl, hlt, hcell⟩
            · exact decide_nohours nm lb ty md smsP ta tl tc hrsP ch ad ps p1 p2 ts t1 t2 n0 s0 n1 s1 n2 s2 inb mo ich iad w sms hp hbw _ rfl h2 _ rfl hs1 hs2 h1 hh
            · show Calls _ _ _ _ fun e w' => e = .returned (.agg (Dc.cells (if inbZ ich iad (ns inb) (sc inb) = true then _ else _))) ∧ _
              by_cases hI : inbZ ich iad (ns inb) (sc inb) = true
              · rw [if_pos hI]
                exact decide_nomsg nm lb ty md smsP ta tl tc hrsP ch ad ps p1 p2 ts t1 t2 n0 s0 n1 s1 n2 s2 inb mo ich iad w sms hp hbw _ rfl h2 _ rfl hs1 hs2 h1 b off hh hI
              · rw [if_neg hI]
                have hI' : inbZ ich iad (ns inb) (sc inb) = false := by simpa using hI
                have hpv : PtrIs w (some ⟨b, off, none⟩) (some v) := .inr ⟨b, off, v, rfl, rfl, hlt, hcell⟩
                by_cases hL : mo < inb + IntKind.i64.wrap (v * 3600000000000)
                · rw [if_pos hL]
                  exact decide_implied nm lb ty md smsP ta tl tc hrsP ch ad ps p1 p2 ts t1 t2 n0 s0 n1 s1 n2 s2 inb mo ich iad w sms hp hbw _ rfl h2 _ rfl hs1 hs2 h1 b off hh v hpv hi1 hi2 hI' _ (decide_eq_true hL) rfl
                · rw [if_neg hL]
                  exact decide_expired nm lb ty md smsP ta tl tc hrsP ch ad ps p1 p2 ts t1 t2 n0 s0 n1 s1 n2 s2 inb mo ich iad w sms hp hbw _ rfl h2 _ rfl hs1 hs2 h1 b off hh v hpv hi1 hi2 hI' _ (decide_eq_false hL) rfl
end Go.Proofs.Qxb6629324a
