/-
  What the reference tells of one of its tables of codes, by a run of the kernel. No condition but what each theorem names.
-/
import Derived.Test.YtahmhofnilgfgaaDoorFFtoFJ
import Derived.Test.YtahmhofnilgfgaaDoorFDLtoFL
set_option linter.unusedVariables false
set_option linter.unusedSimpArgs false
set_option maxRecDepth 100000
set_option maxHeartbeats 0
namespace Go.VM
open Go Go.Proofs

/-! A table of the reference's codes. -/
theorem st2_spec (C : Ctx) (hP : C.P = Tryd.prog) : VCalls C 21 [(.int .i64 0), (.bool true)] [] [] fun v M' => v = .ptr 0 0 ∧ M' = [.own (intVs .i64 stC2 ++ (.vec 1 12 :: (intVs .i64 stK2 ++ intVs .i64 stW2))) 71, .vec .i64 stS2 3] :=
  VCalls.pick (cd_any C hP) _ _ [13, 15] rfl (by decide) (by kernel_rfl) (by kernel_rfl) (by kernel_rfl)
end Go.VM
