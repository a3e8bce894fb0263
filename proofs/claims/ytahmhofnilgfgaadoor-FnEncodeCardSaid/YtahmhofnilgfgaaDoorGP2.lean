/-
  A part of a machine over the model and of a walk by it, proved right against the model; proved outright, under no condition but what each theorem names.
-/
import Derived.Test.YtahmhofnilgfgaaDoorGNtoGP
set_option linter.unusedVariables false
set_option linter.unusedSimpArgs false
set_option linter.unusedSimpArgs false
set_option maxRecDepth 10000
namespace Go.VM
open Go Go.Proofs Go.Bits

section
variable {C : Ctx} (w h : Nat)
set_option maxHeartbeats 2000000 in
/-- a picture of three rows -/
theorem pic_ycc (hP : C.P = Tryd.prog) (hw : 0 < w ∧ w ≤ 40) (hh : 0 < h ∧ h ≤ 40) (Y B R : List Int) (hY : Y.length = w * h) (hB : B.length = w * h) (hR : R.length = w * h) :
    VCalls C 16 [.agg [.int .i64 2, .int .i64 w, .int .i64 h, .int .i64 0, .slice 0 0 3 3]] [.own [.vec 1 Y.length, .vec 2 B.length, .vec 3 R.length] 32, .vec .u8 Y 5, .vec .u8 B 5, .vec .u8 R 5] []
      (fun v M' => v = .iface 99 (.ptr 4 0) ∧ M' = [.own [.vec 1 Y.length, .vec 2 B.length, .vec 3 R.length] 32, .vec .u8 Y 5, .vec .u8 B 5, .vec .u8 R 5, yccImg 104 5 (w * h) w h, .vec .u8 Y 5, .vec .u8 B 5, .vec .u8 R 5]) := by
  refine VCalls.of_fn (hs := kz c16) (F := F16) (by rw [hP]; exact is16) (by simp [F16]) ?_
  generalize hQf : (fnPost 4 [.tmp 2] fun v M' => v = .iface 99 (.ptr 4 0) ∧ M' = [.own [.vec 1 Y.length, .vec 2 B.length, .vec 3 R.length] 32, .vec .u8 Y 5, .vec .u8 B 5, .vec .u8 R 5, yccImg 104 5 (w * h) w h, .vec .u8 Y 5, .vec .u8 B 5, .vec .u8 R 5]) = Qf
  have hmul : w * h ≤ 1600 := Nat.mul_le_mul hw.2 hh.2
  have hpos : 0 < w * h := Nat.mul_pos hw.1 hh.1
  have hbx : vbox 30 (.agg [.int .i64 2, .int .i64 w, .int .i64 h, .int .i64 0, .slice 0 0 3 3]) = some (.own [.int .i64 2, .int .i64 w, .int .i64 h, .int .i64 0, .slice 0 0 3 3] 30) := rfl
  have a1 : decide ((w : Int) < 0) = false := by simp
  have a2 : decide ((w : Int) > 100) = false := by simp; omega
  have a3 : decide ((h : Int) < 0) = false := by simp
  have a4 : decide ((h : Int) > 100) = false := by simp; omega
  have b1 : ((2 : Int) == 1) = false := rfl
  have b2 : ((2 : Int) == 2) = true := rfl
  have b3 : ((2 : Int) == 3) = false := rfl
  have c1 : ((3 : Int) == 1) = false := rfl
  have c3 : ((3 : Int) == 3) = true := rfl
  have d1 : decide ((0 : Int) ≥ 0) = true := rfl
  have d2 : decide ((0 : Int) ≤ 5) = true := rfl
  have sO : ((imgR w h).all V.one) = true := rfl
  have sL : (imgR w h).length = 4 := rfl
  have rr : rangeB (some (.own (imgR w h) 89)) 0 4 = some (.agg (imgR w h)) := rfl
  have wm : IntKind.i64.wrap ((w : Int) * h) = ((w * h : Nat) : Int) := by rw [show (w : Int) * h = ((w * h : Nat) : Int) by simp, wrap_i64_id (by omega) (by omega)]
  have a6 : (((w * h : Nat) : Int) != ((w * h : Nat) : Int)) = false := by simp
  have ix0 : ∀ M, vidxS M 1 (.slice 0 0 3 3) (.int .i64 0) = some (.ptr 0 0) := fun M => rfl
  have ix1 : ∀ M, vidxS M 1 (.slice 0 0 3 3) (.int .i64 1) = some (.ptr 0 1) := fun M => rfl
  have ix2 : ∀ M, vidxS M 1 (.slice 0 0 3 3) (.int .i64 2) = some (.ptr 0 2) := fun M => rfl
  have lv1 : ∀ (X1 : Blk) (R' : Mem), vlen (X1 :: .vec .u8 Y 5 :: .vec .u8 B 5 :: .vec .u8 R 5 :: R') (.vec 1 Y.length) = some (.int .i64 ((w * h : Nat) : Int)) := fun X1 R' => by simp [vlen, hY]
  have lv2 : ∀ (X1 : Blk) (R' : Mem), vlen (X1 :: .vec .u8 Y 5 :: .vec .u8 B 5 :: .vec .u8 R 5 :: R') (.vec 2 B.length) = some (.int .i64 ((w * h : Nat) : Int)) := fun X1 R' => by simp [vlen, hB]
  have lv3 : ∀ (X1 : Blk) (R' : Mem), vlen (X1 :: .vec .u8 Y 5 :: .vec .u8 B 5 :: .vec .u8 R 5 :: R') (.vec 3 R.length) = some (.int .i64 ((w * h : Nat) : Int)) := fun X1 R' => by simp [vlen, hR]
  have t0 : tupGo 0 (.tup [.int .i64 w, .int .i64 h]) = some (.int .i64 w) := rfl
  have t1 : tupGo 1 (.tup [.int .i64 w, .int .i64 h]) = some (.int .i64 h) := rfl
  have lY : 0 < Y.length := by rw [hY]; exact hpos
  have mY : Y.length ≤ 16000000 := by rw [hY]; omega
  have lB : 0 < B.length := by rw [hB]; exact hpos
  have mB : B.length ≤ 16000000 := by rw [hB]; omega
  have lR : 0 < R.length := by rw [hR]; exact hpos
  have mR : R.length ≤ 16000000 := by rw [hR]; omega
  have tx : ∀ e : Env, e.get 1 = .ptr 4 0 → e.get 3 = .ptr 5 0 → e.get 5 = .int .i64 w → VWp C 4 [] c16x e [.own [.vec 1 Y.length, .vec 2 B.length, .vec 3 R.length] 32, .vec .u8 Y 5, .vec .u8 B 5, .vec .u8 R 5, .own [.int .i64 2, .int .i64 w, .int .i64 h, .int .i64 0, .slice 0 0 3 3] 30, .own (imgR w h) 89] (blockK 0 (seqV C 4 [] (.seq (.reg [.op none (some 2) (.mov (.c .nili))] [2]) .ret) Qf)) := by
    intro e g1 g3 g5
    simp -implicitDefEqProofs only [vms, ↓reduceIte, Nat.reduceEqDiff, c16x, g1, g3, g5, range_eqB, rr, ix0, ix1, ix2]
    refine callK_clone hP (i := 1) rfl lY mY ?_
    simp -implicitDefEqProofs only [vms, ↓reduceIte, Nat.reduceEqDiff, Nat.reduceAdd, callC, g1, g3, g5, range_eqB, rr, ix1, ix2]
    refine callK_clone hP (i := 2) rfl lB mB ?_
    simp -implicitDefEqProofs only [vms, ↓reduceIte, Nat.reduceEqDiff, Nat.reduceAdd, callC, g1, g3, g5, range_eqB, rr, ix2]
    refine callK_clone hP (i := 3) rfl lR mR ?_
    simp -implicitDefEqProofs only [vms, ↓reduceIte, Nat.reduceEqDiff, Nat.reduceAdd, callC, g1, g3, g5, range_eqB, rr]
    refine callK_new (ratios_spec hP) rfl rfl (.vec 9 6) [.vec .i64 [0, 1, 2, 3, 4, 5] 100] rfl rfl ?_
    have ixr : vidxS [.own [.vec 1 Y.length, .vec 2 B.length, .vec 3 R.length] 32, .vec .u8 Y 5, .vec .u8 B 5, .vec .u8 R 5, .own [.int .i64 2, .int .i64 w, .int .i64 h, .int .i64 0, .slice 0 0 3 3] 30, .own (imgR w h) 89, .vec .u8 Y 5, .vec .u8 B 5, .vec .u8 R 5, .vec .i64 [0, 1, 2, 3, 4, 5] 100] 1 (.vec 9 6) (.int .i64 0) = some (.ptr 9 0) := rfl
    have cr : cellB (some (.vec .i64 [0, 1, 2, 3, 4, 5] 100)) 0 = some (.int .i64 0) := rfl
    have f1 : vfill [(0, 1, .vec 6 Y.length), (1, 1, .vec 7 B.length), (2, 1, .vec 8 R.length), (3, 1, .int .i64 w), (4, 1, .int .i64 w), (5, 1, .int .i64 0), (6, 4, .agg (imgR w h))] (.agg [.nils, .nils, .nils, .int .i64 0, .int .i64 0, .int .i64 0, .int .i64 0, .int .i64 0, .int .i64 0, .int .i64 0]) = some (.agg (.vec 6 Y.length :: .vec 7 B.length :: .vec 8 R.length :: .int .i64 w :: .int .i64 w :: .int .i64 0 :: imgR w h)) := rfl
    have hb2 : vbox 104 (.agg (.vec 6 Y.length :: .vec 7 B.length :: .vec 8 R.length :: .int .i64 w :: .int .i64 w :: .int .i64 0 :: imgR w h)) = some (yccImg 104 6 (w * h) w h) := by rw [hY, hB, hR]; rfl
    simp -implicitDefEqProofs only [vms, ↓reduceIte, Nat.reduceEqDiff, Nat.reduceAdd, callC, g1, g3, g5, range_eqB, rr, ixr, cr, f1, hb2]
    rw [← hQf]
    show retGo 4 (some (.iface 99 (.ptr 10 0))) _ _
    refine retGo_pickN [0, 1, 2, 3, 10, 6, 7, 8] (.iface 99 (.ptr 4 0)) _ rfl (by simp) rfl (by decide) rfl rfl rfl rfl ⟨rfl, rfl⟩
  have ty : ∀ e : Env, e.get 1 = .ptr 4 0 → e.get 3 = .ptr 5 0 → e.get 4 = .int .i64 (w * h : Nat) → VWp C 4 [] c16y e [.own [.vec 1 Y.length, .vec 2 B.length, .vec 3 R.length] 32, .vec .u8 Y 5, .vec .u8 B 5, .vec .u8 R 5, .own [.int .i64 2, .int .i64 w, .int .i64 h, .int .i64 0, .slice 0 0 3 3] 30, .own (imgR w h) 89] (blockK 0 (seqV C 4 [] (.seq (.reg [.op none (some 2) (.mov (.c .nili))] [2]) .ret) Qf)) := by
    intro e g1 g3 g4
    simp -implicitDefEqProofs only [vms, ↓reduceIte, Nat.reduceEqDiff, Int.reduceLE, natCast_lit, c16y, g1, g3, g4]
    refine callK_new (small_spec w h hP hw.2 hh.2) rfl rfl (.tup [.int .i64 w, .int .i64 h]) [] rfl rfl ?_
    rw [List.append_nil]
    simp -implicitDefEqProofs only [vms, ↓reduceIte, Nat.reduceEqDiff, callC, t0, t1, wm, ix0, ix1, ix2, lv1, lv2, lv3]
    refine tx _ ?_ ?_ ?_ <;> simp -implicitDefEqProofs only [vms, ↓reduceIte, Nat.reduceEqDiff]
  simp -implicitDefEqProofs only [vms, ↓reduceIte, Nat.reduceEqDiff, Nat.reduceAdd, reduceCtorEq, F16, c16, hbx, a1, a2, a3, a4]
  refine callK_new (rect_spec w h hP) rfl rfl (.agg (imgR w h)) [] rfl rfl ?_
  rw [List.append_nil]
  simp -implicitDefEqProofs only [vms, ↓reduceIte, Nat.reduceEqDiff, Nat.reduceAdd, callC, natCast_lit, Int.reduceEq, stGo_putA, putA_own, sO, sL, wm]
  rw [hQf]
  refine ty _ ?_ ?_ ?_ <;> simp -implicitDefEqProofs only [vms, ↓reduceIte, Nat.reduceEqDiff]
end
end Go.VM
