/-
  A part of a small machine over the model, or of a walk by it, proved right against the model. Proved outright, under no condition but what each theorem names.
-/
import Derived.Test.YtahmhofnilgfgaaTA
namespace Go.VM
open Go Go.Proofs
def tbl : Nat → Option VFn
  | 6 => some F6
  | 8 => some F8
  | 12 => some F12
  | 13 => some F13
  | 14 => some F14
  | 15 => some F15
  | 16 => some F16
  | 17 => some F17
  | 18 => some F18
  | 19 => some F19
  | 20 => some F20
  | 21 => some F21
  | 22 => some F22
  | 23 => some F23
  | 24 => some F24
  | 25 => some F25
  | 26 => some F26
  | 27 => some F27
  | 28 => some F28
  | 29 => some F29
  | _ => none
noncomputable def C0 : Ctx := { P := Try.prog, ext := fun _ => none }
set_option maxRecDepth 100000
theorem box_run (a b c d : Int) : callX C0 tbl 100 10 28 [.int .i32 a, .int .i32 b, .int .i32 c, .int .i32 d] [] = callX C0 tbl 100 10 22 [.int .i32 a, .int .i32 b, .int .i32 c, .int .i32 d] [] := by kernel_rfl
end Go.VM
