/-
  A part of a machine over the model and of a walk by it, proved right against the model; proved outright, under no condition but what each theorem names.
-/
import Derived.Test.YtahmhofnilgfgaaDoorEA
import Derived.Test.YtahmhofnilgfgaaDoorVUtoBA
import Derived.Test.YtahmhofnilgfgaaDoorFA
set_option linter.unusedVariables false
set_option linter.unusedSimpArgs false
section
namespace Go.VM
open Go Go.Proofs

/-- the closed functions -/
def tblD : Nat → Option VFn
  | 13 => some F13
  | 19 => some F19
  | 21 => some F21
  | 22 => some F22
  | 31 => some F31
  | 32 => some F32
  | 33 => some F33
  | 41 => some F41
  | 49 => some F49
  | 50 => some F50
  | 51 => some F51
  | 52 => some F52
  | 53 => some F53
  | 54 => some F54
  | 55 => some F55
  | 58 => some F58
  | 59 => some F59
  | 69 => some F69
  | 78 => some F78
  | 79 => some F79
  | 80 => some F80
  | 81 => some F81
  | _ => none

noncomputable def CD : Ctx := { P := Tryd.prog, ext := fun _ => none }

theorem tblD_ok : ∀ f F, tblD f = some F → ∃ hs, compFn CD.P hs f = some F := by
  intro f F h
  unfold tblD at h
  split at h
  · cases h; exact ⟨_, is13⟩
  · cases h; exact ⟨_, is19⟩
  · cases h; exact ⟨_, is21⟩
  · cases h; exact ⟨_, is22⟩
  · cases h; exact ⟨_, is31⟩
  · cases h; exact ⟨_, is32⟩
  · cases h; exact ⟨_, is33⟩
  · cases h; exact ⟨_, is41⟩
  · cases h; exact ⟨_, is49⟩
  · cases h; exact ⟨_, is50⟩
  · cases h; exact ⟨_, is51⟩
  · cases h; exact ⟨_, is52⟩
  · cases h; exact ⟨_, is53⟩
  · cases h; exact ⟨_, is54⟩
  · cases h; exact ⟨_, is55⟩
  · cases h; exact ⟨_, is58⟩
  · cases h; exact ⟨_, is59⟩
  · cases h; exact ⟨_, is69⟩
  · cases h; exact ⟨_, is78⟩
  · cases h; exact ⟨_, is79⟩
  · cases h; exact ⟨_, is80⟩
  · cases h; exact ⟨_, is81⟩
  · cases h

theorem cd_call {f : Nat} {vs : List V} {M : Mem} {v : V} {M' : Mem} (h : callX CD tblD 1000 20 f vs M = some (v, M')) : VCalls CD f vs M [] fun v' M'' => v' = v ∧ M'' = M' :=
  callX_sound tblD tblD_ok 1000 20 f vs M v M' h
set_option maxRecDepth 100000
end Go.VM
end

section
set_option maxRecDepth 100000
set_option maxHeartbeats 0
namespace Go.VM
open Go Go.Proofs

/-! The transform's two halves on blocks of 64 numbers. -/
def gI (l : List Int) (i : Nat) : Int := l.getD i 0
def cols8 (l : List Int) : List (List Int) := (List.range 8).map fun k => colW (gI l k) (gI l (8 + k)) (gI l (16 + k)) (gI l (24 + k)) (gI l (32 + k)) (gI l (40 + k)) (gI l (48 + k)) (gI l (56 + k))
def rows8 (l : List Int) : List (List Int) := (List.range 8).map fun k => rowW (gI l (8 * k)) (gI l (8 * k + 1)) (gI l (8 * k + 2)) (gI l (8 * k + 3)) (gI l (8 * k + 4)) (gI l (8 * k + 5)) (gI l (8 * k + 6)) (gI l (8 * k + 7))
def colsW (l : List Int) : List Int := (List.range 64).map fun j => gI ((cols8 l).getD (j % 8) []) (j / 8)
def rowsW (l : List Int) : List Int := (List.range 64).map fun j => gI ((rows8 l).getD (j / 8) []) (j % 8)
def fwd (l : List Int) : List Int := rowsW (colsW l)
end Go.VM
end

section
set_option maxRecDepth 100000
set_option maxHeartbeats 0
namespace Go.VM
open Go Go.Proofs
theorem colsD_run (T : Nat) (x0 x1 x2 x3 x4 x5 x6 x7 x8 x9 x10 x11 x12 x13 x14 x15 x16 x17 x18 x19 x20 x21 x22 x23 x24 x25 x26 x27 x28 x29 x30 x31 x32 x33 x34 x35 x36 x37 x38 x39 x40 x41 x42 x43 x44 x45 x46 x47 x48 x49 x50 x51 x52 x53 x54 x55 x56 x57 x58 x59 x60 x61 x62 x63 : Int) : callX CD tblD 1000 20 78 [.ptr 0 0] [.ints .i32 [x0, x1, x2, x3, x4, x5, x6, x7, x8, x9, x10, x11, x12, x13, x14, x15, x16, x17, x18, x19, x20, x21, x22, x23, x24, x25, x26, x27, x28, x29, x30, x31, x32, x33, x34, x35, x36, x37, x38, x39, x40, x41, x42, x43, x44, x45, x46, x47, x48, x49, x50, x51, x52, x53, x54, x55, x56, x57, x58, x59, x60, x61, x62, x63] T] = some (.tup [], [.ints .i32 (colsW [x0, x1, x2, x3, x4, x5, x6, x7, x8, x9, x10, x11, x12, x13, x14, x15, x16, x17, x18, x19, x20, x21, x22, x23, x24, x25, x26, x27, x28, x29, x30, x31, x32, x33, x34, x35, x36, x37, x38, x39, x40, x41, x42, x43, x44, x45, x46, x47, x48, x49, x50, x51, x52, x53, x54, x55, x56, x57, x58, x59, x60, x61, x62, x63]) T]) := by kernel_rfl
end Go.VM
end

section
set_option maxRecDepth 100000
set_option maxHeartbeats 0
namespace Go.VM
open Go Go.Proofs
theorem rowsD_run (T : Nat) (x0 x1 x2 x3 x4 x5 x6 x7 x8 x9 x10 x11 x12 x13 x14 x15 x16 x17 x18 x19 x20 x21 x22 x23 x24 x25 x26 x27 x28 x29 x30 x31 x32 x33 x34 x35 x36 x37 x38 x39 x40 x41 x42 x43 x44 x45 x46 x47 x48 x49 x50 x51 x52 x53 x54 x55 x56 x57 x58 x59 x60 x61 x62 x63 : Int) : callX CD tblD 1000 20 79 [.ptr 0 0] [.ints .i32 [x0, x1, x2, x3, x4, x5, x6, x7, x8, x9, x10, x11, x12, x13, x14, x15, x16, x17, x18, x19, x20, x21, x22, x23, x24, x25, x26, x27, x28, x29, x30, x31, x32, x33, x34, x35, x36, x37, x38, x39, x40, x41, x42, x43, x44, x45, x46, x47, x48, x49, x50, x51, x52, x53, x54, x55, x56, x57, x58, x59, x60, x61, x62, x63] T] = some (.tup [], [.ints .i32 (rowsW [x0, x1, x2, x3, x4, x5, x6, x7, x8, x9, x10, x11, x12, x13, x14, x15, x16, x17, x18, x19, x20, x21, x22, x23, x24, x25, x26, x27, x28, x29, x30, x31, x32, x33, x34, x35, x36, x37, x38, x39, x40, x41, x42, x43, x44, x45, x46, x47, x48, x49, x50, x51, x52, x53, x54, x55, x56, x57, x58, x59, x60, x61, x62, x63]) T]) := by kernel_rfl
end Go.VM
end

section
set_option maxRecDepth 100000
set_option maxHeartbeats 0
namespace Go.VM
open Go Go.Proofs
theorem colsS_run (x0 x1 x2 x3 x4 x5 x6 x7 x8 x9 x10 x11 x12 x13 x14 x15 x16 x17 x18 x19 x20 x21 x22 x23 x24 x25 x26 x27 x28 x29 x30 x31 x32 x33 x34 x35 x36 x37 x38 x39 x40 x41 x42 x43 x44 x45 x46 x47 x48 x49 x50 x51 x52 x53 x54 x55 x56 x57 x58 x59 x60 x61 x62 x63 : Int) : callX CD tblD 1000 20 31 [.ints .i32 [x0, x1, x2, x3, x4, x5, x6, x7, x8, x9, x10, x11, x12, x13, x14, x15, x16, x17, x18, x19, x20, x21, x22, x23, x24, x25, x26, x27, x28, x29, x30, x31, x32, x33, x34, x35, x36, x37, x38, x39, x40, x41, x42, x43, x44, x45, x46, x47, x48, x49, x50, x51, x52, x53, x54, x55, x56, x57, x58, x59, x60, x61, x62, x63], .bool true, .fn 32 []] [] = some (.ints .i32 (colsW [x0, x1, x2, x3, x4, x5, x6, x7, x8, x9, x10, x11, x12, x13, x14, x15, x16, x17, x18, x19, x20, x21, x22, x23, x24, x25, x26, x27, x28, x29, x30, x31, x32, x33, x34, x35, x36, x37, x38, x39, x40, x41, x42, x43, x44, x45, x46, x47, x48, x49, x50, x51, x52, x53, x54, x55, x56, x57, x58, x59, x60, x61, x62, x63]), []) := by kernel_rfl
end Go.VM
end
