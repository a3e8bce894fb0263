/-
  A part of a machine over the model and of a walk by it, proved right against the model; proved outright, under no condition but what each theorem names.
-/
import Derived.Test.YtahmhofnilgfgaaDoorLF
set_option linter.unusedVariables false
set_option linter.unusedSimpArgs false
set_option linter.unusedSimpArgs false
set_option maxRecDepth 10000
namespace Go.VM
open Go Go.Proofs Go.Bits

/-! The law: both sides, compared. -/

section
variable {C : Ctx} {nv : V} {n : Nat}

set_option maxHeartbeats 2000000 in
theorem law_rgba (hP : C.P = Tryd.prog) (hG : GlobQ C) (hn : Nums C nv n) (w h k : Nat) (hw : 0 < w ∧ w ≤ 40) (hh : 0 < h ∧ h ≤ 40) (pix : List Int) (hx : PixOk pix (4 * (w * h))) (kq : IntKind) (q : Int) (use : Bool) (R : V → Mem → Prop) (hR : R (.bool true) [])
    (e : Env) (g2 : e.get 2 = .int kq q) (g3 : e.get 3 = .bool use) (g10 : e.get 10 = .ptr 1 0) (g11 : e.get 11 = .int .i64 h) (g12 : e.get 12 = .ptr 2 0) (g13 : e.get 13 = .fn 8 [.ptr 1 0, .ptr 2 0]) :
    VWp C 0 [] c3e e [mixer nv k, .own [.int .i64 w] 3, .own [.int .i64 3, .int .i64 w, .int .i64 h, .int .i64 (-1), .slice 4 0 1 1] 30, .vec .u8 pix 5, .own [.vec 3 pix.length] 32] (fnPost 0 [.tmp 8] R) := by
  have hmr := fun σ => mixer_ren hn k σ
  have hrf := mixer_refs hn k
  obtain ⟨qq, hqq, hq12⟩ : ∃ qq, qq = (if use then qcl (IntKind.i64.wrap q) else 75) ∧ (1 ≤ qq ∧ qq ≤ 100) := ⟨_, rfl, by split; exact qcl_le _; omega⟩
  have him := impl_rgba (C := C) w h hP hG hw hh (pix) hx.len (-1) (pxR w pix) (pxR_ok hx.b) ⟨hx.len, fun i => gI_b hx.b i, fun _ _ _ _ => rfl, fun _ _ _ _ => rfl, fun _ _ _ _ => rfl⟩ (IntKind.i64.wrap q) use
  have hqs := qual_spec C hP kq q use
  have hrf2 := fun (M : Mem) => fun hp hwd hL hb => ref_rgba (M := M) (h := h) hP 2 1 4 3 3 h (-1) pix 5 hp hwd hL hb hw hh hx.len hx.b qq hq12
  rw [← hqq] at him hqs
  generalize specBytes w h false qq (pxR w pix) = X at him hrf2
  have hrr : rangeB (some (.own [.int .i64 3, .int .i64 w, .int .i64 h, .int .i64 (-1), .slice 4 0 1 1] 30)) 0 5 = some (.agg [.int .i64 3, .int .i64 w, .int .i64 h, .int .i64 (-1), .slice 4 0 1 1]) := rfl
  have hmg : merge [mixer nv k, .own [.int .i64 w] 3, .own [.int .i64 3, .int .i64 w, .int .i64 h, .int .i64 (-1), .slice 4 0 1 1] 30, .vec .u8 pix 5, .own [.vec 3 pix.length] 32] [4, 3] [.own [.vec 1 pix.length] 32, .vec .u8 pix 5, .vec .u8 X 5] = [mixer nv k, .own [.int .i64 w] 3, .own [.int .i64 3, .int .i64 w, .int .i64 h, .int .i64 (-1), .slice 4 0 1 1] 30, .vec .u8 pix 5, .own [.vec 3 pix.length] 32, .vec .u8 X 5] := by
    simp only [merge, setAll, List.map_cons, List.map_nil]
    rfl
  have t0 : tupGo 0 (.tup [.vec 5 X.length, .int .i64 0]) = some (.vec 5 X.length) := rfl
  have t1 : tupGo 1 (.tup [.vec 5 X.length, .int .i64 0]) = some (.int .i64 0) := rfl
  have e00 : ((0 : Int) == 0) = true := rfl
  have ek : ((3 : Int) == 1) = false := rfl
  have tail : ∀ e : Env, e.get 2 = .int kq q → e.get 3 = .bool use → e.get 10 = .ptr 1 0 → e.get 11 = .int .i64 h → e.get 12 = .ptr 2 0 → e.get 13 = .fn 8 [.ptr 1 0, .ptr 2 0] → e.get 15 = .vec 5 X.length → e.get 16 = .int .i64 0 →
      VWp C 0 [] c3f e ([mixer nv k, .own [.int .i64 w] 3, .own [.int .i64 3, .int .i64 w, .int .i64 h, .int .i64 (-1), .slice 4 0 1 1] 30, .vec .u8 pix 5, .own [.vec 3 pix.length] 32, .vec .u8 X 5]) (fnPost 0 [.tmp 8] R) := by
    intro e g2 g3 g10 g11 g12 g13 g15 g16
    have hMl : ([mixer nv k, .own [.int .i64 w] 3, .own [.int .i64 3, .int .i64 w, .int .i64 h, .int .i64 (-1), .slice 4 0 1 1] 30, .vec .u8 pix 5, .own [.vec 3 pix.length] 32, .vec .u8 X 5] : Mem).length = 6 := rfl
    have m1 : ([mixer nv k, .own [.int .i64 w] 3, .own [.int .i64 3, .int .i64 w, .int .i64 h, .int .i64 (-1), .slice 4 0 1 1] 30, .vec .u8 pix 5, .own [.vec 3 pix.length] 32, .vec .u8 X 5] : Mem)[1]? = some (.own [.int .i64 w] 3) := rfl
    have m2 : ([mixer nv k, .own [.int .i64 w] 3, .own [.int .i64 3, .int .i64 w, .int .i64 h, .int .i64 (-1), .slice 4 0 1 1] 30, .vec .u8 pix 5, .own [.vec 3 pix.length] 32, .vec .u8 X 5] : Mem)[2]? = some (.own [.int .i64 3, .int .i64 w, .int .i64 h, .int .i64 (-1), .slice 4 0 1 1] 30) := rfl
    have el : elems ([mixer nv k, .own [.int .i64 w] 3, .own [.int .i64 3, .int .i64 w, .int .i64 h, .int .i64 (-1), .slice 4 0 1 1] 30, .vec .u8 pix 5, .own [.vec 3 pix.length] 32, .vec .u8 X 5] : Mem) .u8 (.vec 5 X.length) = some X := elems_vec rfl rfl
    have href := hrf2 ([mixer nv k, .own [.int .i64 w] 3, .own [.int .i64 3, .int .i64 w, .int .i64 h, .int .i64 (-1), .slice 4 0 1 1] 30, .vec .u8 pix 5, .own [.vec 3 pix.length] 32, .vec .u8 X 5] : Mem) rfl rfl rfl rfl 
    have el2 : elems (([mixer nv k, .own [.int .i64 w] 3, .own [.int .i64 3, .int .i64 w, .int .i64 h, .int .i64 (-1), .slice 4 0 1 1] 30, .vec .u8 pix 5, .own [.vec 3 pix.length] 32, .vec .u8 X 5] : Mem) ++ [.vec .u8 X 5]) .u8 (.vec 5 X.length) = some X := elems_vec rfl rfl
    have el3 : elems (([mixer nv k, .own [.int .i64 w] 3, .own [.int .i64 3, .int .i64 w, .int .i64 h, .int .i64 (-1), .slice 4 0 1 1] 30, .vec .u8 pix 5, .own [.vec 3 pix.length] 32, .vec .u8 X 5] : Mem) ++ [.vec .u8 X 5]) .u8 (.vec 6 X.length) = some X := elems_vec rfl rfl
    generalize ([mixer nv k, .own [.int .i64 w] 3, .own [.int .i64 3, .int .i64 w, .int .i64 h, .int .i64 (-1), .slice 4 0 1 1] 30, .vec .u8 pix 5, .own [.vec 3 pix.length] 32, .vec .u8 X 5] : Mem) = M at hMl m1 m2 el href el2 el3 ⊢
    simp (config := { implicitDefEqProofs := false, maxSteps := 5000000 }) only [vms, ↓reduceIte, Nat.reduceEqDiff, reduceCtorEq, Int.reduceNeg, Int.reduceEq, c3f, g2, g3, g10, g11, g12, g13, g15, g16, el, m1, m2]
    refine callK_new hqs rfl rfl (.int .i64 qq) [] rfl rfl ?_
    rw [List.append_nil]
    simp (config := { implicitDefEqProofs := false, maxSteps := 5000000 }) only [vms, ↓reduceIte, Nat.reduceEqDiff, reduceCtorEq, Int.reduceNeg, callC, Int.reduceEq, g10, g11, g12, g13, g15, el, m1, m2]
    refine callK_of [] rfl (by simp) href ?_
    rintro _ _ ⟨rfl, rfl⟩
    rw [hMl]
    simp (config := { implicitDefEqProofs := false, maxSteps := 5000000 }) only [vms, ↓reduceIte, Nat.reduceEqDiff, reduceCtorEq, callC, g15, el2, el3, eql_str]
    show retGo 0 (some (.bool true)) _ _
    exact retGo_take 0 (Nat.le_refl _) (by simp) rfl rfl hR
  simp (config := { implicitDefEqProofs := false, maxSteps := 5000000 }) only [vms, ↓reduceIte, Nat.reduceEqDiff, Int.reduceNeg, c3e, g2, g3, g12, range_eqB, hrr]
  refine callK_fr [4, 3] him rfl (by decide) rfl ⟨rfl, rfl, trivial⟩ rfl rfl rfl ?_
  rintro _ _ ⟨rfl, rfl⟩ -
  rw [hmg]
  change callC C 0 [] (some 100) _ _ _ [] (.tup [.vec 5 X.length, .int .i64 0]) _
  simp (config := { implicitDefEqProofs := false, maxSteps := 5000000 }) only [vms, ↓reduceIte, Nat.reduceEqDiff, Int.reduceNeg, callC, g2, g3, g10, g11, g12, g13, t0, t1]
  refine tail _ ?_ ?_ ?_ ?_ ?_ ?_ ?_ ?_ <;> simp (config := { implicitDefEqProofs := false, maxSteps := 5000000 }) only [vms, ↓reduceIte, Nat.reduceEqDiff]

end
end Go.VM