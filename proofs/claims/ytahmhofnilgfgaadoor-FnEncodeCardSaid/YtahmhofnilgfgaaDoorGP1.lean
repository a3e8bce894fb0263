/-
  A part of a machine over the model and of a walk by it, proved right against the model; proved outright, under no condition but what each theorem names.
-/
import Derived.Test.YtahmhofnilgfgaaDoorGNtoGP
set_option linter.unusedVariables false
set_option linter.unusedSimpArgs false
set_option linter.unusedSimpArgs false
set_option maxRecDepth 10000
namespace Go.VM
open Go Go.Proofs Go.Bits
section
variable {C : Ctx} (w h : Nat)
set_option maxHeartbeats 2000000 in
/-- a picture of one row: four bytes a pixel -/
theorem pic_rgba (hP : C.P = Tryd.prog) (hw : 0 < w ∧ w ≤ 40) (hh : 0 < h ∧ h ≤ 40) (pix : List Int) (hpl : pix.length = 4 * (w * h)) (r : Int) :
    VCalls C 16 [.agg [.int .i64 3, .int .i64 w, .int .i64 h, .int .i64 r, .slice 0 0 1 1]] [.own [.vec 1 pix.length] 32, .vec .u8 pix 5] []
      (fun v M' => v = .iface 95 (.ptr 2 0) ∧ M' = [.own [.vec 1 pix.length] 32, .vec .u8 pix 5, imgB 96 3 pix.length w h (4 * w), .vec .u8 pix 5]) := by
  refine VCalls.of_fn (hs := kz c16) (F := F16) (by rw [hP]; exact is16) (by simp [F16]) ?_
  have hmul : w * h ≤ 1600 := Nat.mul_le_mul hw.2 hh.2
  have hpos : 0 < w * h := Nat.mul_pos hw.1 hh.1
  have hbx : vbox 30 (.agg [.int .i64 3, .int .i64 w, .int .i64 h, .int .i64 r, .slice 0 0 1 1]) = some (.own [.int .i64 3, .int .i64 w, .int .i64 h, .int .i64 r, .slice 0 0 1 1] 30) := rfl
  have a1 : decide ((w : Int) < 0) = false := by simp
  have a2 : decide ((w : Int) > 100) = false := by simp; omega
  have a3 : decide ((h : Int) < 0) = false := by simp
  have a4 : decide ((h : Int) > 100) = false := by simp; omega
  have b1 : ((3 : Int) == 1) = false := rfl
  have b2 : ((3 : Int) == 2) = false := rfl
  have b3 : ((3 : Int) == 3) = true := rfl
  have c1 : ((1 : Int) == 1) = true := rfl
  have c3 : ((1 : Int) == 3) = false := rfl
  have sO : ((imgR w h).all V.one) = true := rfl
  have sL : (imgR w h).length = 4 := rfl
  have rr : rangeB (some (.own (imgR w h) 89)) 0 4 = some (.agg (imgR w h)) := rfl
  have wm : IntKind.i64.wrap ((w : Int) * h) = ((w * h : Nat) : Int) := by rw [show (w : Int) * h = ((w * h : Nat) : Int) by simp, wrap_i64_id (by omega) (by omega)]
  have w4 : IntKind.i64.wrap (4 * ((w * h : Nat) : Int)) = (pix.length : Int) := by rw [wrap_i64_id (by omega) (by omega), hpl]; omega
  have w5 : IntKind.i64.wrap (4 * (w : Int)) = ((4 * w : Nat) : Int) := by rw [wrap_i64_id (by omega) (by omega)]; omega
  have a6 : ((pix.length : Int) == (pix.length : Int)) = true := by simp
  have lv : ∀ (R : Mem), vlen (.own [.vec 1 pix.length] 32 :: .vec .u8 pix 5 :: R) (.vec 1 pix.length) = some (.int .i64 (pix.length : Int)) := fun R => by simp [vlen]
  have ix : ∀ M, vidxS M 1 (.slice 0 0 1 1) (.int .i64 0) = some (.ptr 0 0) := fun M => rfl
  have f1 : vfill [(0, 1, .vec 4 pix.length), (1, 1, .int .i64 (4 * w : Nat)), (2, 4, .agg (imgR w h))] (.agg [.nils, .int .i64 0, .int .i64 0, .int .i64 0, .int .i64 0, .int .i64 0]) = some (.agg (.vec 4 pix.length :: .int .i64 (4 * w : Nat) :: imgR w h)) := rfl
  have hb2 : vbox 96 (.agg (.vec 4 pix.length :: .int .i64 (4 * w : Nat) :: imgR w h)) = some (imgB 96 4 pix.length w h (4 * w)) := rfl
  simp -implicitDefEqProofs only [vms, ↓reduceIte, Nat.reduceEqDiff, Nat.reduceAdd, reduceCtorEq, F16, c16, hbx, a1, a2, a3, a4]
  refine callK_new (rect_spec w h hP) rfl rfl (.agg (imgR w h)) [] rfl rfl ?_
  rw [List.append_nil]
  simp -implicitDefEqProofs only [vms, ↓reduceIte, Nat.reduceEqDiff, Nat.reduceAdd, callC, natCast_lit, Int.reduceEq, range_eqB, stGo_putA, putA_own, sO, sL, wm, w4, w5, lv, rr, ix]
  refine callK_clone hP (i := 1) rfl (by omega) (by omega) ?_
  simp -implicitDefEqProofs only [vms, ↓reduceIte, Nat.reduceEqDiff, Nat.reduceAdd, callC, range_eqB, rr, w5, f1, hb2]
  show retGo 2 (some (.iface 95 (.ptr 5 0))) _ _
  refine retGo_pickN [0, 1, 5, 4] (.iface 95 (.ptr 2 0)) _ rfl (by simp) rfl (by decide) rfl rfl rfl rfl ⟨rfl, rfl⟩
end
end Go.VM
