/-
  A part of a machine over the model and of a walk by it, proved right against the model; proved outright, under no condition but what each theorem names.
-/
import Derived.Test.YtahmhofnilgfgaaDoorLF3
set_option linter.unusedVariables false
set_option linter.unusedSimpArgs false
set_option linter.unusedSimpArgs false
set_option maxRecDepth 10000
namespace Go.VM
open Go Go.Proofs Go.Bits

/-! The law, its second kind. -/
section
variable {C : Ctx} {nv : V} {n : Nat}
set_option maxHeartbeats 4000000 in
theorem law_k2 (hP : C.P = Tryd.prog) (hG : GlobQ C) (hn : Nums C nv n) (w h : Nat) (hw : 0 < w ∧ w ≤ 40) (hh : 0 < h ∧ h ≤ 40) (kq : IntKind) (q : Int) (use : Bool) (R : V → Mem → Prop) (hR : R (.bool true) [])
    (e : Env) (g2 : e.get 2 = .int kq q) (g3 : e.get 3 = .bool use) (g9 : e.get 9 = .ptr 0 0) (g10 : e.get 10 = .ptr 1 0) (g11 : e.get 11 = .int .i64 h) (g12 : e.get 12 = .ptr 2 0) (g13 : e.get 13 = .fn 5 [.ptr 2 0, .ptr 1 0]) :
    VWp C 0 [] c3k e (PicM nv 2 w h 2) (fnPost 0 [.tmp 8] R) := by
  have hmul : w * h ≤ 1600 := Nat.mul_le_mul hw.2 hh.2
  have e1 : ((((2 : Nat) : Int)) == 1) = false := rfl
  have e2 : ((2 : Int) == 1) = false := rfl
  have e3 : ((2 : Int) == 2) = true := rfl
  have wm : IntKind.i64.wrap ((w : Int) * h) = ((w * h : Nat) : Int) := by rw [show (w : Int) * h = ((w * h : Nat) : Int) by simp, wrap_i64_id (by omega) (by omega)]
  simp (config := { implicitDefEqProofs := false, maxSteps := 5000000 }) only [vms, ↓reduceIte, Nat.reduceEqDiff, Nat.reduceAdd, Int.reduceNeg, Nat.reduceLT, natCast_lit, Int.reduceEq, c3k, PicM, g2, g3, g9, g10, g11, g12, g13, wm]
  refine callK_pixels hP hn 2 (by omega) (w * h) (by omega) _ ?_
  intro Y k1 hY hk1
  simp (config := { implicitDefEqProofs := false, maxSteps := 5000000 }) only [vms, ↓reduceIte, Nat.reduceEqDiff, Nat.reduceAdd, callC, wm]
  refine callK_pixels hP hn k1 (by omega) (w * h) (by omega) _ ?_
  intro B k2 hB hk2
  simp (config := { implicitDefEqProofs := false, maxSteps := 5000000 }) only [vms, ↓reduceIte, Nat.reduceEqDiff, Nat.reduceAdd, callC, wm]
  refine callK_pixels hP hn k2 (by omega) (w * h) (by omega) _ ?_
  intro D k3 hD hk3
  have f1 : vfill [(0, 1, .vec 3 (w * h)), (1, 1, .vec 4 (w * h)), (2, 1, .vec 5 (w * h))] (.agg [.nils, .nils, .nils]) = some (.agg [.vec 3 (w * h), .vec 4 (w * h), .vec 5 (w * h)]) := rfl
  have hb : ∀ A1 A2 A3 A4 A5 A6 : Blk, bslGo [A1, A2, A3, A4, A5, A6] 32 3 (some (.agg [.vec 3 (w * h), .vec 4 (w * h), .vec 5 (w * h)])) = some (.slice 6 0 3 3, [A1, A2, A3, A4, A5, A6, .own [.vec 3 (w * h), .vec 4 (w * h), .vec 5 (w * h)] 32]) := fun _ _ _ _ _ _ => by simp [bslGo, V.known]
  simp (config := { implicitDefEqProofs := false, maxSteps := 5000000 }) only [vms, ↓reduceIte, Nat.reduceEqDiff, Nat.reduceAdd, callC, f1, hb, @vop_mkfn2 C _ _ 7 12 10 2 1 0 0]
  have hm : (.own [.vec 3 (w * h), .vec 4 (w * h), .vec 5 (w * h)] 32 : Blk) = .own [.vec 3 Y.length, .vec 4 B.length, .vec 5 D.length] 32 := by rw [hY.len, hB.len, hD.len]
  rw [hm]
  refine law_ycc hP hG hn w h k3 hw hh Y B D hY hB hD kq q use R hR _ ?_ ?_ ?_ ?_ ?_ ?_ <;> simp (config := { implicitDefEqProofs := false, maxSteps := 5000000 }) only [vms, ↓reduceIte, Nat.reduceEqDiff]
end
end Go.VM
