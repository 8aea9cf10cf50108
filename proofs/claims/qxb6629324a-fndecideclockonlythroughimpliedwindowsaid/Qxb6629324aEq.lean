/-
  '==' on the structs of package consent: an Inbound against none; a Decision against itself.
-/
import Derived.Test.Qxb6629324aDecEnv
import Derived.ChangeKeysEq
namespace Go.Proofs.Qxb6629324a
open Go.ChangeShapes Go.WideShapes Go.ChangeAt Go.RowKit

theorem peq8 (w : World) : (Op.equalIn 9998 42 (.pointer none) (.pointer none)).run Try.prog w = .ok true w := by kernel_rfl
theorem peq7 (w : World) : (Op.equalIn 9997 42 (.pointer none) (.pointer none)).run Try.prog w = .ok true w := by kernel_rfl
theorem peq6 (w : World) : (Op.equalIn 9996 42 (.pointer none) (.pointer none)).run Try.prog w = .ok true w := by kernel_rfl

/-- is there no message -/
def inbZ (c a : ByteArray) (n s : Int) : Bool := c.toList == [] && a.toList == [] && n == 0 && s == 0
theorem eq50 (c a : ByteArray) (n s : Int) (w : World) : (binOp .eql 50 (.agg #[.string c, .string a, .int .u64 n, .int .i64 s, .pointer none]) (.agg #[.string ⟨#[]⟩, .string ⟨#[]⟩, .int .u64 0, .int .i64 0, .pointer none])).run Try.prog w = .ok (.bool (inbZ c a n s)) w := by
  have p := peq8 w
  cases h1 : (c.toList == [])
  · go_simp
    simp [inbZ, h1]
  · cases h2 : (a.toList == [])
    · go_simp
      simp [inbZ, h1, h2]
    · cases h3 : (n == 0)
      · go_simp
        simp [inbZ, h3]
      · cases h4 : (s == 0)
        · go_simp
          simp [inbZ, h4]
        · go_simp
          simp [inbZ, h1, h2, h3, h4]

theorem info44_some : ∃ i, Try.prog.info? 44 = some i := by
  have h : (Try.prog.info? 44).isSome = true := by kernel_rfl
  exact Option.isSome_iff_exists.1 h
theorem cells44 : Try.prog.cellsOf 44 = 3 := by kernel_rfl
theorem eq48 (n0 s0 n1 s1 n2 s2 : Int) (w : World) : (Op.equalIn 9998 48 (.agg #[.int .u64 n0, .int .i64 s0, .pointer none, .int .u64 n1, .int .i64 s1, .pointer none, .int .u64 n2, .int .i64 s2, .pointer none]) (.agg #[.int .u64 n0, .int .i64 s0, .pointer none, .int .u64 n1, .int .i64 s1, .pointer none, .int .u64 n2, .int .i64 s2, .pointer none])).run Try.prog w = .ok true w := by
  obtain ⟨i, hi⟩ := info44_some
  have p6 := peq6 w
  have r3 : List.range 3 = [0, 1, 2] := rfl
  rw [run_equalIn_array w 9997 _ _ Try.underlying48 hi, cells44, r3]
  clear hi
  unfold Op.eqItems
  go_simp
  unfold Op.eqItems
  go_simp
  unfold Op.eqItems
  go_simp
  unfold Op.eqItems
  go_simp

theorem eq57 (al : Bool) (re ps p1 p2 ts t1 t2 n0 s0 n1 s1 n2 s2 i1 i2 : Int) (c a : ByteArray) (w : World) :
    (binOp .eql 57 (.agg #[.bool al, .int .i64 re, .int .i64 ps, .int .u64 p1, .int .i64 p2, .pointer none, .int .i64 ts, .int .u64 t1, .int .i64 t2, .pointer none, .int .u64 n0, .int .i64 s0, .pointer none, .int .u64 n1, .int .i64 s1, .pointer none, .int .u64 n2, .int .i64 s2, .pointer none, .string c, .string a, .int .u64 i1, .int .i64 i2, .pointer none])
     (.agg #[.bool al, .int .i64 re, .int .i64 ps, .int .u64 p1, .int .i64 p2, .pointer none, .int .i64 ts, .int .u64 t1, .int .i64 t2, .pointer none, .int .u64 n0, .int .i64 s0, .pointer none, .int .u64 n1, .int .i64 s1, .pointer none, .int .u64 n2, .int .i64 s2, .pointer none, .string c, .string a, .int .u64 i1, .int .i64 i2, .pointer none])).run Try.prog w = .ok (.bool true) w := by
  have p8 := peq8 w
  have p7 := peq7 w
  have p6 := peq6 w
  have e48 := eq48 n0 s0 n1 s1 n2 s2 w
  go_simp
theorem neq57 (al : Bool) (re ps p1 p2 ts t1 t2 n0 s0 n1 s1 n2 s2 i1 i2 : Int) (c a : ByteArray) (w : World) :
    (binOp .neq 57 (.agg #[.bool al, .int .i64 re, .int .i64 ps, .int .u64 p1, .int .i64 p2, .pointer none, .int .i64 ts, .int .u64 t1, .int .i64 t2, .pointer none, .int .u64 n0, .int .i64 s0, .pointer none, .int .u64 n1, .int .i64 s1, .pointer none, .int .u64 n2, .int .i64 s2, .pointer none, .string c, .string a, .int .u64 i1, .int .i64 i2, .pointer none]) (.agg #[.bool al, .int .i64 re, .int .i64 ps, .int .u64 p1, .int .i64 p2, .pointer none, .int .i64 ts, .int .u64 t1, .int .i64 t2, .pointer none, .int .u64 n0, .int .i64 s0, .pointer none, .int .u64 n1, .int .i64 s1, .pointer none, .int .u64 n2, .int .i64 s2, .pointer none, .string c, .string a, .int .u64 i1, .int .i64 i2, .pointer none])).run Try.prog w = .ok (.bool false) w := by
  have p8 := peq8 w
  have p7 := peq7 w
  have p6 := peq6 w
  have e48 := eq48 n0 s0 n1 s1 n2 s2 w
  go_simp
end Go.Proofs.Qxb6629324a
