/-
  What the reference tells of one of its tables of codes, by a run of the kernel. No condition but what each theorem names.
-/
import Derived.Test.YtahmhofnilgfgaaDoorFFtoFJ
import Derived.Test.YtahmhofnilgfgaaDoorFDLtoFL
set_option linter.unusedVariables false
set_option linter.unusedSimpArgs false
set_option maxRecDepth 100000
set_option maxHeartbeats 0
namespace Go.VM
open Go Go.Proofs

/-! A table of the reference's codes. -/
theorem st1_spec (C : Ctx) (hP : C.P = Tryd.prog) : VCalls C 21 [(.int .i64 1), (.bool false)] [] [] fun v M' => v = .ptr 0 0 ∧ M' = [.own (intVs .i64 stC1 ++ (.vec 1 162 :: (intVs .i64 stK1 ++ intVs .i64 stW1))) 71, .vec .i64 stS1 3] :=
  VCalls.pick (r := runFn C callRest 1000 F21 [(.int .i64 1), (.bool false)] []) (runFn_sound (callRest_ok C hP) (hs := h21) (by rw [hP]; exact is21) (by simp [F21])) _ _ [3, 5] rfl (by decide) (by kernel_rfl) (by kernel_rfl) (by kernel_rfl)
end Go.VM
