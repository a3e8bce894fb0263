/-
  The tables of codes of the encoder, by a run of the kernel. No condition but what each theorem names.
-/
import Derived.Test.YtahmhofnilgfgaaDoorFFtoFJ
import Derived.Test.YtahmhofnilgfgaaDoorFDLtoFL
set_option linter.unusedVariables false
set_option linter.unusedSimpArgs false
set_option maxRecDepth 100000
set_option maxHeartbeats 4000000
namespace Go.VM
open Go Go.Proofs

/-! The encoder's tables of codes: the kernel's run, two minutes. -/
theorem lut_spec (C : Ctx) (hP : C.P = Tryd.prog) : VCalls C 41 [] [] [] fun v M' => v = .agg [.vec 0 12, .vec 1 251, .vec 2 12, .vec 3 251] ∧ M' = [.vec .u32 lutL0 43, .vec .u32 lutL1 43, .vec .u32 lutL2 43, .vec .u32 lutL3 43] :=
  VCalls.pick (cd_any C hP) _ _ [9, 12, 15, 18] rfl (by decide) (by kernel_rfl) (by kernel_rfl) (by kernel_rfl)
end Go.VM
