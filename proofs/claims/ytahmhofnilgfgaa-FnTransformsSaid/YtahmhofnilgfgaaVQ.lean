/-
  A part of a small machine over the model, or of a walk by it, proved right against the model. Proved outright, under no condition but what each theorem names.
-/
import Derived.Test.YtahmhofnilgfgaaVP
namespace Go.VM
open Go

/-! Whole numbers. -/
theorem wrap_i64_id {x : Int} (h1 : -9223372036854775808 ≤ x) (h2 : x ≤ 9223372036854775807) : IntKind.i64.wrap x = x := by
  simp [IntKind.wrap, IntKind.bits, IntKind.signed]
  split <;> omega
theorem wrap_i32_id {x : Int} (h1 : -2147483648 ≤ x) (h2 : x ≤ 2147483647) : IntKind.i32.wrap x = x := by
  simp [IntKind.wrap, IntKind.bits, IntKind.signed]
  split <;> omega
theorem wrap_u32_id {x : Int} (h1 : 0 ≤ x) (h2 : x ≤ 4294967295) : IntKind.u32.wrap x = x := by
  simp only [IntKind.wrap, IntKind.bits, IntKind.signed, Bool.false_and, Bool.false_eq_true, if_false]
  omega
theorem wrap_u8_id {x : Int} (h1 : 0 ≤ x) (h2 : x ≤ 255) : IntKind.u8.wrap x = x := by
  simp only [IntKind.wrap, IntKind.bits, IntKind.signed, Bool.false_and, Bool.false_eq_true, if_false]
  omega
theorem wrap_u32_range (x : Int) : 0 ≤ IntKind.u32.wrap x ∧ IntKind.u32.wrap x ≤ 4294967295 := by
  simp only [IntKind.wrap, IntKind.bits, IntKind.signed, Bool.false_and, Bool.false_eq_true, if_false]
  omega
theorem wrap_u8_range (x : Int) : 0 ≤ IntKind.u8.wrap x ∧ IntKind.u8.wrap x ≤ 255 := by
  simp only [IntKind.wrap, IntKind.bits, IntKind.signed, Bool.false_and, Bool.false_eq_true, if_false]
  omega
theorem wrap_i32_range (x : Int) : -2147483648 ≤ IntKind.i32.wrap x ∧ IntKind.i32.wrap x ≤ 2147483647 := by
  simp [IntKind.wrap, IntKind.bits, IntKind.signed]
  split <;> omega
theorem bits_u32_range (op : BinOp) (x y : Int) : 0 ≤ bits op .u32 x y ∧ bits op .u32 x y ≤ 4294967295 := wrap_u32_range _

end Go.VM
