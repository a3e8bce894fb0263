/-
  A part of a machine over the model and of a walk by it, proved right against the model; proved outright, under no condition but what each theorem names.
-/
import Derived.Test.YtahmhofnilgfgaaDoorGP1
import Derived.Test.YtahmhofnilgfgaaDoorGP2
set_option linter.unusedVariables false
set_option linter.unusedSimpArgs false
section
set_option linter.unusedSimpArgs false
set_option maxRecDepth 10000
namespace Go.VM
open Go Go.Proofs Go.Bits

/-! impl.Encode. -/
/-- a nil slice in the caller's memory may be named as an empty row of the callee's -/
theorem VCalls.ghost {C : Ctx} {f : Nat} {vs : List V} {M : Mem} {mv mv' : List Nat} {R : V → Mem → Prop} {b o T T' : Nat} {k : IntKind} {cs : List V} (hM : M[b]? = some (.own cs T)) (hc : cs[o]? = some .nils)
    (h : VCalls C f vs (M.set b (.own (cs.set o (.vec M.length 0)) T) ++ [.vec k [] T']) mv' R) (hmv : ∀ i ∈ mv', i < M.length → i ∈ mv) : VCalls C f vs M mv R := by
  intro ρ κ w hR hcl
  obtain ⟨hS, hst⟩ := ghost_sound (n := 0) (e := []) (a := { tmps := #[], defers := [] }) ⟨hR, ⟨rfl, fun j hj => absurd rfl hj⟩, fun j b hb => absurd hb (by simp [Env.get, V.refs]), rfl⟩ T' k hM hc
  have hlen : (M.set b (.own (cs.set o (.vec M.length 0)) T) ++ [Blk.vec k [] T']).length = M.length + 1 := by simp
  have hvs : V.reals ρ κ vs = V.reals ρ (updN κ M.length none) vs := V.reals_congr vs fun i hi => ⟨rfl, ((hst.agree i (hcl i hi)).2).symm⟩
  rw [hvs]
  refine Calls.mono (h ρ _ w hS.rel (fun i hi => by rw [hlen]; have := hcl i hi; omega)) ?_
  rintro en w' ⟨ρ', κ', v, M', h1, h2, h3, h4, h5, h6⟩
  refine ⟨ρ', κ', v, M', h1, h2, h3, by omega, ?_, h6⟩
  exact (hst.weaken (fun i hi => hi.1)).trans (h5.weaken (fun i hi => ⟨by rw [hlen]; have := hi.1; omega, fun hm => hi.2 (hmv i hm hi.1)⟩))
end Go.VM
end

section
set_option linter.unusedSimpArgs false
set_option maxRecDepth 10000
namespace Go.VM
open Go Go.Proofs Go.Bits

/-! impl.Encode gives the reference's bytes. -/
theorem callK_ghost {C : Ctx} {n0 : Nat} {mv : List Nat} {f : Nat} {vs vs0 : List V} {M M0 M1 : Mem} {v0 : V} {mv0 : List Nat} {K : List Nat → V → Mem → Prop} {b T : Nat} {cs : List V} (fp : List Nat) (hg : M[b]? = some (.own cs T)) (hc : cs[0]? = some .nils)
    (h : VCalls C f vs0 M0 mv0 fun v M' => v = v0 ∧ M' = M1) (Mg : Mem) (hMg : M.set b (.own (cs.set 0 (.vec M.length 0)) T) ++ [.vec .u8 [] 5] = Mg) (hk : allKnown vs = true) (hnd : fp.Nodup) (hlt : (fp.all fun i => decide (i < Mg.length)) = true)
    (hfit : fits Mg (fpσ fp Mg.length) fp M0) (hvs : vs = V.renL (fpσ fp Mg.length) vs0) (hcM : memCl M0.length M0 = true) (hcv : clB M0.length (V.refsL vs0) = true) (hmv : mv0.map (fpσ fp Mg.length) = [M.length])
    (hout : outs fp [M.length] 0 Mg = true) (hK : K [] (v0.ren (fpσ fp Mg.length)) (merge Mg fp M1)) : callK C n0 mv f vs M K := by
  refine ⟨hk, [], by simp, VCalls.ghost (mv' := [M.length]) (k := .u8) (T' := 5) hg hc ?_ (by intro i hi h; simp at hi; omega)⟩
  rw [hMg, ← hmv]
  refine h.frame fp Mg vs _ (fits_length hfit) hnd (fun i hi => by simpa using List.all_eq_true.1 hlt i hi) (fun j b hb => ?_) hvs (fun j b hb r hr => clB_iff (List.all_eq_true.1 hcM b (List.mem_of_getElem? hb)) r hr) (clB_iff hcv) (fun i b hi hb => ?_) ?_
  · have hj : j < fp.length := by rw [fits_length hfit]; exact (List.getElem?_eq_some_iff.1 hb).1
    exact fits_get hfit j _ b (fpσ_in hj) hb
  · rw [hmv]
    exact outs_get 0 Mg hout i b (by simpa using hi) hb
  · rintro _ _ ⟨rfl, rfl⟩ -
    exact hK

section
variable {C : Ctx} (w h : Nat)

set_option maxHeartbeats 2000000 in
theorem impl_gray (hP : C.P = Tryd.prog) (hG : GlobQ C) (hw : 0 < w ∧ w ≤ 40) (hh : 0 < h ∧ h ≤ 40) (pix : List Int) (hpl : pix.length = w * h) (r : Int) (px : Nat → Nat → Nat → Int) (hpb : PxOk px) (hpx : ∀ x y, x < w → y < h → px 0 x y = gI pix (y * w + x)) (hpi : ∀ i, 0 ≤ gI pix i ∧ gI pix i ≤ 255) (q0 : Int) (use : Bool) :
    VCalls C 10 [.agg [.int .i64 1, .int .i64 w, .int .i64 h, .int .i64 r, .slice 0 0 1 1], .int .i64 q0, .bool use] [.own [.vec 1 pix.length] 32, .vec .u8 pix 5] []
      (fun v M' => v = .tup [.vec 2 (specBytes w h true (if use then qcl q0 else 75) px).length, .int .i64 0] ∧ M' = [.own [.vec 1 pix.length] 32, .vec .u8 pix 5, .vec .u8 (specBytes w h true (if use then qcl q0 else 75) px) 5]) := by
  refine VCalls.of_fn (hs := kz c10) (F := F10) (by rw [hP]; exact is10) (by simp [F10]) ?_
  have hbx : vbox 30 (.agg [.int .i64 1, .int .i64 w, .int .i64 h, .int .i64 r, .slice 0 0 1 1]) = some (.own [.int .i64 1, .int .i64 w, .int .i64 h, .int .i64 r, .slice 0 0 1 1] 30) := rfl
  have hrr : rangeB (some (.own [.int .i64 1, .int .i64 w, .int .i64 h, .int .i64 r, .slice 0 0 1 1] 30)) 0 5 = some (.agg [.int .i64 1, .int .i64 w, .int .i64 h, .int .i64 r, .slice 0 0 1 1]) := rfl
  have hpm : merge [.own [.vec 1 pix.length] 32, .vec .u8 pix 5, .own [.int .i64 1, .int .i64 w, .int .i64 h, .int .i64 r, .slice 0 0 1 1] 30] [0, 1] [.own [.vec 1 pix.length] 32, .vec .u8 pix 5, imgB 94 3 pix.length w h w, .vec .u8 pix 5] = [.own [.vec 1 pix.length] 32, .vec .u8 pix 5, .own [.int .i64 1, .int .i64 w, .int .i64 h, .int .i64 r, .slice 0 0 1 1] 30, imgB 94 4 pix.length w h w, .vec .u8 pix 5] := rfl
  simp -implicitDefEqProofs only [vms, ↓reduceIte, Nat.reduceEqDiff, Nat.reduceAdd, reduceCtorEq, F10, c10, hbx, range_eqB, hrr]
  refine callK_fr [0, 1] (pic_gray w h hP hw hh pix hpl r) rfl (by decide) rfl ⟨rfl, rfl, trivial⟩ rfl rfl rfl ?_
  rintro _ _ ⟨rfl, rfl⟩ -
  rw [hpm]
  have hbq : vbox 52 (.agg [.int .i64 q0]) = some (.own [.int .i64 q0] 52) := rfl
  have fq : vfill [(0, 1, .int .i64 q0)] (.agg [.int .i64 0]) = some (.agg [.int .i64 q0]) := rfl
  have fz : vfill [] (.agg [.nils]) = some (.agg [.nils]) := rfl
  have hbz : vbox 55 (.agg [.nils]) = some (.own [.nils] 55) := rfl
  change callC C 2 [] (some 13) _ _ _ [] (.iface 91 (.ptr 3 0)) _
  simp -implicitDefEqProofs only [vms, ↓reduceIte, Nat.reduceEqDiff, callC]
  cases use
  · have hX := enc_gray (C := C) 94 w h (.vec .u8 pix 5) hP hG rfl hw hh pix hpl px hpb hpx hpi 75 (by omega) (by omega) (.nilp) (.inl ⟨rfl, rfl⟩)
    generalize hXe : specBytes w h true 75 px = X at hX
    have hmg : merge [.own [.vec 1 pix.length] 32, .vec .u8 pix 5, .own [.int .i64 1, .int .i64 w, .int .i64 h, .int .i64 r, .slice 0 0 1 1] 30, imgB 94 4 pix.length w h w, .vec .u8 pix 5, .own [.vec 6 0] 55, .vec .u8 [] 5] [5, 6, 3, 4, 1] (EM2 94 w w h pix (.vec .u8 pix 5) X) = [.own [.vec 1 pix.length] 32, .vec .u8 pix 5, .own [.int .i64 1, .int .i64 w, .int .i64 h, .int .i64 r, .slice 0 0 1 1] 30, imgB 94 4 pix.length w h w, .vec .u8 pix 5, .own [.vec 6 X.length] 55, .vec .u8 X 5] := rfl
    simp -implicitDefEqProofs only [vms, ↓reduceIte, Nat.reduceEqDiff, Nat.reduceAdd, fz, hbz]
    refine callK_ghost (b := 5) [5, 6, 3, 4, 1] rfl rfl hX [.own [.vec 1 pix.length] 32, .vec .u8 pix 5, .own [.int .i64 1, .int .i64 w, .int .i64 h, .int .i64 r, .slice 0 0 1 1] 30, imgB 94 4 pix.length w h w, .vec .u8 pix 5, .own [.vec 6 0] 55, .vec .u8 [] 5] rfl rfl (by decide) rfl ⟨rfl, rfl, rfl, rfl, rfl, trivial⟩ rfl rfl rfl rfl rfl ?_
    rw [hmg]
    change callC C 2 [] (some 26) _ _ _ [] .nili _
    simp -implicitDefEqProofs only [vms, ↓reduceIte, Nat.reduceEqDiff, callC]
    show retGo 2 (some (.tup [.vec 6 X.length, .int .i64 0])) _ _
    refine retGo_pickN [0, 1, 6] (.tup [.vec 2 X.length, .int .i64 0]) [.own [.vec 1 pix.length] 32, .vec .u8 pix 5, .vec .u8 X 5] rfl (by simp) rfl (by decide) rfl rfl rfl rfl ⟨by rw [← hXe], by rw [← hXe]⟩
  · have hX := enc_gray (C := C) 94 w h (.own [.int .i64 q0] 52) hP hG rfl hw hh pix hpl px hpb hpx hpi (qcl q0) (qcl_le q0).1 (qcl_le q0).2 (.ptr 4 0) (.inr ⟨q0, rfl, rfl, rfl⟩)
    generalize hXe : specBytes w h true (qcl q0) px = X at hX
    have hmg : merge [.own [.vec 1 pix.length] 32, .vec .u8 pix 5, .own [.int .i64 1, .int .i64 w, .int .i64 h, .int .i64 r, .slice 0 0 1 1] 30, imgB 94 4 pix.length w h w, .vec .u8 pix 5, .own [.int .i64 q0] 52, .own [.vec 7 0] 55, .vec .u8 [] 5] [6, 7, 3, 4, 5] (EM2 94 w w h pix (.own [.int .i64 q0] 52) X) = [.own [.vec 1 pix.length] 32, .vec .u8 pix 5, .own [.int .i64 1, .int .i64 w, .int .i64 h, .int .i64 r, .slice 0 0 1 1] 30, imgB 94 4 pix.length w h w, .vec .u8 pix 5, .own [.int .i64 q0] 52, .own [.vec 7 X.length] 55, .vec .u8 X 5] := rfl
    simp -implicitDefEqProofs only [vms, ↓reduceIte, Nat.reduceEqDiff, Nat.reduceAdd, hbq, fq, fz, hbz]
    refine callK_ghost (b := 6) [6, 7, 3, 4, 5] rfl rfl hX [.own [.vec 1 pix.length] 32, .vec .u8 pix 5, .own [.int .i64 1, .int .i64 w, .int .i64 h, .int .i64 r, .slice 0 0 1 1] 30, imgB 94 4 pix.length w h w, .vec .u8 pix 5, .own [.int .i64 q0] 52, .own [.vec 7 0] 55, .vec .u8 [] 5] rfl rfl (by decide) rfl ⟨rfl, rfl, rfl, rfl, rfl, trivial⟩ rfl rfl rfl rfl rfl ?_
    rw [hmg]
    change callC C 2 [] (some 26) _ _ _ [] .nili _
    simp -implicitDefEqProofs only [vms, ↓reduceIte, Nat.reduceEqDiff, callC]
    show retGo 2 (some (.tup [.vec 7 X.length, .int .i64 0])) _ _
    refine retGo_pickN [0, 1, 7] (.tup [.vec 2 X.length, .int .i64 0]) [.own [.vec 1 pix.length] 32, .vec .u8 pix 5, .vec .u8 X 5] rfl (by simp) rfl (by decide) rfl rfl rfl rfl ⟨by rw [← hXe], by rw [← hXe]⟩

set_option maxHeartbeats 2000000 in
theorem impl_rgba (hP : C.P = Tryd.prog) (hG : GlobQ C) (hw : 0 < w ∧ w ≤ 40) (hh : 0 < h ∧ h ≤ 40) (pix : List Int) (hpl : pix.length = 4 * (w * h)) (r : Int) (px : Nat → Nat → Nat → Int) (hpb : PxOk px) (hpx : RgbOk w h pix px) (q0 : Int) (use : Bool) :
    VCalls C 10 [.agg [.int .i64 3, .int .i64 w, .int .i64 h, .int .i64 r, .slice 0 0 1 1], .int .i64 q0, .bool use] [.own [.vec 1 pix.length] 32, .vec .u8 pix 5] []
      (fun v M' => v = .tup [.vec 2 (specBytes w h false (if use then qcl q0 else 75) px).length, .int .i64 0] ∧ M' = [.own [.vec 1 pix.length] 32, .vec .u8 pix 5, .vec .u8 (specBytes w h false (if use then qcl q0 else 75) px) 5]) := by
  refine VCalls.of_fn (hs := kz c10) (F := F10) (by rw [hP]; exact is10) (by simp [F10]) ?_
  have hbx : vbox 30 (.agg [.int .i64 3, .int .i64 w, .int .i64 h, .int .i64 r, .slice 0 0 1 1]) = some (.own [.int .i64 3, .int .i64 w, .int .i64 h, .int .i64 r, .slice 0 0 1 1] 30) := rfl
  have hrr : rangeB (some (.own [.int .i64 3, .int .i64 w, .int .i64 h, .int .i64 r, .slice 0 0 1 1] 30)) 0 5 = some (.agg [.int .i64 3, .int .i64 w, .int .i64 h, .int .i64 r, .slice 0 0 1 1]) := rfl
  have hpm : merge [.own [.vec 1 pix.length] 32, .vec .u8 pix 5, .own [.int .i64 3, .int .i64 w, .int .i64 h, .int .i64 r, .slice 0 0 1 1] 30] [0, 1] [.own [.vec 1 pix.length] 32, .vec .u8 pix 5, imgB 96 3 pix.length w h (4 * w), .vec .u8 pix 5] = [.own [.vec 1 pix.length] 32, .vec .u8 pix 5, .own [.int .i64 3, .int .i64 w, .int .i64 h, .int .i64 r, .slice 0 0 1 1] 30, imgB 96 4 pix.length w h (4 * w), .vec .u8 pix 5] := rfl
  simp -implicitDefEqProofs only [vms, ↓reduceIte, Nat.reduceEqDiff, Nat.reduceAdd, reduceCtorEq, F10, c10, hbx, range_eqB, hrr]
  refine callK_fr [0, 1] (pic_rgba w h hP hw hh pix hpl r) rfl (by decide) rfl ⟨rfl, rfl, trivial⟩ rfl rfl rfl ?_
  rintro _ _ ⟨rfl, rfl⟩ -
  rw [hpm]
  have hbq : vbox 52 (.agg [.int .i64 q0]) = some (.own [.int .i64 q0] 52) := rfl
  have fq : vfill [(0, 1, .int .i64 q0)] (.agg [.int .i64 0]) = some (.agg [.int .i64 q0]) := rfl
  have fz : vfill [] (.agg [.nils]) = some (.agg [.nils]) := rfl
  have hbz : vbox 55 (.agg [.nils]) = some (.own [.nils] 55) := rfl
  change callC C 2 [] (some 13) _ _ _ [] (.iface 95 (.ptr 3 0)) _
  simp -implicitDefEqProofs only [vms, ↓reduceIte, Nat.reduceEqDiff, callC]
  cases use
  · have hX := enc_rgba (C := C) 96 w h (.vec .u8 pix 5) hP hG rfl hw hh pix px hpb hpx 75 (by omega) (by omega) (.nilp) (.inl ⟨rfl, rfl⟩)
    generalize hXe : specBytes w h false 75 px = X at hX
    have hmg : merge [.own [.vec 1 pix.length] 32, .vec .u8 pix 5, .own [.int .i64 3, .int .i64 w, .int .i64 h, .int .i64 r, .slice 0 0 1 1] 30, imgB 96 4 pix.length w h (4 * w), .vec .u8 pix 5, .own [.vec 6 0] 55, .vec .u8 [] 5] [5, 6, 3, 4, 1] (EM2 96 (4 * w) w h pix (.vec .u8 pix 5) X) = [.own [.vec 1 pix.length] 32, .vec .u8 pix 5, .own [.int .i64 3, .int .i64 w, .int .i64 h, .int .i64 r, .slice 0 0 1 1] 30, imgB 96 4 pix.length w h (4 * w), .vec .u8 pix 5, .own [.vec 6 X.length] 55, .vec .u8 X 5] := rfl
    simp -implicitDefEqProofs only [vms, ↓reduceIte, Nat.reduceEqDiff, Nat.reduceAdd, fz, hbz]
    refine callK_ghost (b := 5) [5, 6, 3, 4, 1] rfl rfl hX [.own [.vec 1 pix.length] 32, .vec .u8 pix 5, .own [.int .i64 3, .int .i64 w, .int .i64 h, .int .i64 r, .slice 0 0 1 1] 30, imgB 96 4 pix.length w h (4 * w), .vec .u8 pix 5, .own [.vec 6 0] 55, .vec .u8 [] 5] rfl rfl (by decide) rfl ⟨rfl, rfl, rfl, rfl, rfl, trivial⟩ rfl rfl rfl rfl rfl ?_
    rw [hmg]
    change callC C 2 [] (some 26) _ _ _ [] .nili _
    simp -implicitDefEqProofs only [vms, ↓reduceIte, Nat.reduceEqDiff, callC]
    show retGo 2 (some (.tup [.vec 6 X.length, .int .i64 0])) _ _
    refine retGo_pickN [0, 1, 6] (.tup [.vec 2 X.length, .int .i64 0]) [.own [.vec 1 pix.length] 32, .vec .u8 pix 5, .vec .u8 X 5] rfl (by simp) rfl (by decide) rfl rfl rfl rfl ⟨by rw [← hXe], by rw [← hXe]⟩
  · have hX := enc_rgba (C := C) 96 w h (.own [.int .i64 q0] 52) hP hG rfl hw hh pix px hpb hpx (qcl q0) (qcl_le q0).1 (qcl_le q0).2 (.ptr 4 0) (.inr ⟨q0, rfl, rfl, rfl⟩)
    generalize hXe : specBytes w h false (qcl q0) px = X at hX
    have hmg : merge [.own [.vec 1 pix.length] 32, .vec .u8 pix 5, .own [.int .i64 3, .int .i64 w, .int .i64 h, .int .i64 r, .slice 0 0 1 1] 30, imgB 96 4 pix.length w h (4 * w), .vec .u8 pix 5, .own [.int .i64 q0] 52, .own [.vec 7 0] 55, .vec .u8 [] 5] [6, 7, 3, 4, 5] (EM2 96 (4 * w) w h pix (.own [.int .i64 q0] 52) X) = [.own [.vec 1 pix.length] 32, .vec .u8 pix 5, .own [.int .i64 3, .int .i64 w, .int .i64 h, .int .i64 r, .slice 0 0 1 1] 30, imgB 96 4 pix.length w h (4 * w), .vec .u8 pix 5, .own [.int .i64 q0] 52, .own [.vec 7 X.length] 55, .vec .u8 X 5] := rfl
    simp -implicitDefEqProofs only [vms, ↓reduceIte, Nat.reduceEqDiff, Nat.reduceAdd, hbq, fq, fz, hbz]
    refine callK_ghost (b := 6) [6, 7, 3, 4, 5] rfl rfl hX [.own [.vec 1 pix.length] 32, .vec .u8 pix 5, .own [.int .i64 3, .int .i64 w, .int .i64 h, .int .i64 r, .slice 0 0 1 1] 30, imgB 96 4 pix.length w h (4 * w), .vec .u8 pix 5, .own [.int .i64 q0] 52, .own [.vec 7 0] 55, .vec .u8 [] 5] rfl rfl (by decide) rfl ⟨rfl, rfl, rfl, rfl, rfl, trivial⟩ rfl rfl rfl rfl rfl ?_
    rw [hmg]
    change callC C 2 [] (some 26) _ _ _ [] .nili _
    simp -implicitDefEqProofs only [vms, ↓reduceIte, Nat.reduceEqDiff, callC]
    show retGo 2 (some (.tup [.vec 7 X.length, .int .i64 0])) _ _
    refine retGo_pickN [0, 1, 7] (.tup [.vec 2 X.length, .int .i64 0]) [.own [.vec 1 pix.length] 32, .vec .u8 pix 5, .vec .u8 X 5] rfl (by simp) rfl (by decide) rfl rfl rfl rfl ⟨by rw [← hXe], by rw [← hXe]⟩

set_option maxHeartbeats 2000000 in
theorem impl_ycc (hP : C.P = Tryd.prog) (hG : GlobQ C) (hw : 0 < w ∧ w ≤ 40) (hh : 0 < h ∧ h ≤ 40) (Y B R : List Int) (hY : Y.length = w * h) (hB : B.length = w * h) (hR : R.length = w * h) (px : Nat → Nat → Nat → Int) (hpb : PxOk px) (hpx : YccOk w h Y B R px) (q0 : Int) (use : Bool) :
    VCalls C 10 [.agg [.int .i64 2, .int .i64 w, .int .i64 h, .int .i64 0, .slice 0 0 3 3], .int .i64 q0, .bool use] [.own [.vec 1 Y.length, .vec 2 B.length, .vec 3 R.length] 32, .vec .u8 Y 5, .vec .u8 B 5, .vec .u8 R 5] []
      (fun v M' => v = .tup [.vec 4 (specBytes w h false (if use then qcl q0 else 75) px).length, .int .i64 0] ∧ M' = [.own [.vec 1 Y.length, .vec 2 B.length, .vec 3 R.length] 32, .vec .u8 Y 5, .vec .u8 B 5, .vec .u8 R 5, .vec .u8 (specBytes w h false (if use then qcl q0 else 75) px) 5]) := by
  refine VCalls.of_fn (hs := kz c10) (F := F10) (by rw [hP]; exact is10) (by simp [F10]) ?_
  have hbx : vbox 30 (.agg [.int .i64 2, .int .i64 w, .int .i64 h, .int .i64 0, .slice 0 0 3 3]) = some (.own [.int .i64 2, .int .i64 w, .int .i64 h, .int .i64 0, .slice 0 0 3 3] 30) := rfl
  have hrr : rangeB (some (.own [.int .i64 2, .int .i64 w, .int .i64 h, .int .i64 0, .slice 0 0 3 3] 30)) 0 5 = some (.agg [.int .i64 2, .int .i64 w, .int .i64 h, .int .i64 0, .slice 0 0 3 3]) := rfl
  have hpm : merge [.own [.vec 1 Y.length, .vec 2 B.length, .vec 3 R.length] 32, .vec .u8 Y 5, .vec .u8 B 5, .vec .u8 R 5, .own [.int .i64 2, .int .i64 w, .int .i64 h, .int .i64 0, .slice 0 0 3 3] 30] [0, 1, 2, 3] [.own [.vec 1 Y.length, .vec 2 B.length, .vec 3 R.length] 32, .vec .u8 Y 5, .vec .u8 B 5, .vec .u8 R 5, yccImg 104 5 (w * h) w h, .vec .u8 Y 5, .vec .u8 B 5, .vec .u8 R 5] = [.own [.vec 1 Y.length, .vec 2 B.length, .vec 3 R.length] 32, .vec .u8 Y 5, .vec .u8 B 5, .vec .u8 R 5, .own [.int .i64 2, .int .i64 w, .int .i64 h, .int .i64 0, .slice 0 0 3 3] 30, yccImg 104 6 (w * h) w h, .vec .u8 Y 5, .vec .u8 B 5, .vec .u8 R 5] := rfl
  simp -implicitDefEqProofs only [vms, ↓reduceIte, Nat.reduceEqDiff, Nat.reduceAdd, reduceCtorEq, F10, c10, hbx, range_eqB, hrr]
  refine callK_fr [0, 1, 2, 3] (pic_ycc w h hP hw hh Y B R hY hB hR) rfl (by decide) rfl ⟨rfl, rfl, rfl, rfl, trivial⟩ rfl rfl rfl ?_
  rintro _ _ ⟨rfl, rfl⟩ -
  rw [hpm]
  have hbq : vbox 52 (.agg [.int .i64 q0]) = some (.own [.int .i64 q0] 52) := rfl
  have fq : vfill [(0, 1, .int .i64 q0)] (.agg [.int .i64 0]) = some (.agg [.int .i64 q0]) := rfl
  have fz : vfill [] (.agg [.nils]) = some (.agg [.nils]) := rfl
  have hbz : vbox 55 (.agg [.nils]) = some (.own [.nils] 55) := rfl
  change callC C 4 [] (some 13) _ _ _ [] (.iface 99 (.ptr 5 0)) _
  simp -implicitDefEqProofs only [vms, ↓reduceIte, Nat.reduceEqDiff, callC]
  cases use
  · have hX := enc_ycc (C := C) 104 w h (.vec .u8 Y 5) hP hG rfl hw hh Y B R px hpb hpx 75 (by omega) (by omega) (.nilp) (.inl ⟨rfl, rfl⟩)
    generalize hXe : specBytes w h false 75 px = X at hX
    have hmg : merge [.own [.vec 1 Y.length, .vec 2 B.length, .vec 3 R.length] 32, .vec .u8 Y 5, .vec .u8 B 5, .vec .u8 R 5, .own [.int .i64 2, .int .i64 w, .int .i64 h, .int .i64 0, .slice 0 0 3 3] 30, yccImg 104 6 (w * h) w h, .vec .u8 Y 5, .vec .u8 B 5, .vec .u8 R 5, .own [.vec 10 0] 55, .vec .u8 [] 5] [9, 10, 5, 6, 7, 8, 1] (EM4 104 w h Y B R (.vec .u8 Y 5) X) = [.own [.vec 1 Y.length, .vec 2 B.length, .vec 3 R.length] 32, .vec .u8 Y 5, .vec .u8 B 5, .vec .u8 R 5, .own [.int .i64 2, .int .i64 w, .int .i64 h, .int .i64 0, .slice 0 0 3 3] 30, yccImg 104 6 (w * h) w h, .vec .u8 Y 5, .vec .u8 B 5, .vec .u8 R 5, .own [.vec 10 X.length] 55, .vec .u8 X 5] := rfl
    simp -implicitDefEqProofs only [vms, ↓reduceIte, Nat.reduceEqDiff, Nat.reduceAdd, fz, hbz]
    refine callK_ghost (b := 9) [9, 10, 5, 6, 7, 8, 1] rfl rfl hX [.own [.vec 1 Y.length, .vec 2 B.length, .vec 3 R.length] 32, .vec .u8 Y 5, .vec .u8 B 5, .vec .u8 R 5, .own [.int .i64 2, .int .i64 w, .int .i64 h, .int .i64 0, .slice 0 0 3 3] 30, yccImg 104 6 (w * h) w h, .vec .u8 Y 5, .vec .u8 B 5, .vec .u8 R 5, .own [.vec 10 0] 55, .vec .u8 [] 5] rfl rfl (by decide) rfl ⟨rfl, rfl, rfl, rfl, rfl, rfl, rfl, trivial⟩ rfl rfl rfl rfl rfl ?_
    rw [hmg]
    change callC C 4 [] (some 26) _ _ _ [] .nili _
    simp -implicitDefEqProofs only [vms, ↓reduceIte, Nat.reduceEqDiff, callC]
    show retGo 4 (some (.tup [.vec 10 X.length, .int .i64 0])) _ _
    refine retGo_pickN [0, 1, 2, 3, 10] (.tup [.vec 4 X.length, .int .i64 0]) [.own [.vec 1 Y.length, .vec 2 B.length, .vec 3 R.length] 32, .vec .u8 Y 5, .vec .u8 B 5, .vec .u8 R 5, .vec .u8 X 5] rfl (by simp) rfl (by decide) rfl rfl rfl rfl ⟨by rw [← hXe], by rw [← hXe]⟩
  · have hX := enc_ycc (C := C) 104 w h (.own [.int .i64 q0] 52) hP hG rfl hw hh Y B R px hpb hpx (qcl q0) (qcl_le q0).1 (qcl_le q0).2 (.ptr 6 0) (.inr ⟨q0, rfl, rfl, rfl⟩)
    generalize hXe : specBytes w h false (qcl q0) px = X at hX
    have hmg : merge [.own [.vec 1 Y.length, .vec 2 B.length, .vec 3 R.length] 32, .vec .u8 Y 5, .vec .u8 B 5, .vec .u8 R 5, .own [.int .i64 2, .int .i64 w, .int .i64 h, .int .i64 0, .slice 0 0 3 3] 30, yccImg 104 6 (w * h) w h, .vec .u8 Y 5, .vec .u8 B 5, .vec .u8 R 5, .own [.int .i64 q0] 52, .own [.vec 11 0] 55, .vec .u8 [] 5] [10, 11, 5, 6, 7, 8, 9] (EM4 104 w h Y B R (.own [.int .i64 q0] 52) X) = [.own [.vec 1 Y.length, .vec 2 B.length, .vec 3 R.length] 32, .vec .u8 Y 5, .vec .u8 B 5, .vec .u8 R 5, .own [.int .i64 2, .int .i64 w, .int .i64 h, .int .i64 0, .slice 0 0 3 3] 30, yccImg 104 6 (w * h) w h, .vec .u8 Y 5, .vec .u8 B 5, .vec .u8 R 5, .own [.int .i64 q0] 52, .own [.vec 11 X.length] 55, .vec .u8 X 5] := rfl
    simp -implicitDefEqProofs only [vms, ↓reduceIte, Nat.reduceEqDiff, Nat.reduceAdd, hbq, fq, fz, hbz]
    refine callK_ghost (b := 10) [10, 11, 5, 6, 7, 8, 9] rfl rfl hX [.own [.vec 1 Y.length, .vec 2 B.length, .vec 3 R.length] 32, .vec .u8 Y 5, .vec .u8 B 5, .vec .u8 R 5, .own [.int .i64 2, .int .i64 w, .int .i64 h, .int .i64 0, .slice 0 0 3 3] 30, yccImg 104 6 (w * h) w h, .vec .u8 Y 5, .vec .u8 B 5, .vec .u8 R 5, .own [.int .i64 q0] 52, .own [.vec 11 0] 55, .vec .u8 [] 5] rfl rfl (by decide) rfl ⟨rfl, rfl, rfl, rfl, rfl, rfl, rfl, trivial⟩ rfl rfl rfl rfl rfl ?_
    rw [hmg]
    change callC C 4 [] (some 26) _ _ _ [] .nili _
    simp -implicitDefEqProofs only [vms, ↓reduceIte, Nat.reduceEqDiff, callC]
    show retGo 4 (some (.tup [.vec 11 X.length, .int .i64 0])) _ _
    refine retGo_pickN [0, 1, 2, 3, 11] (.tup [.vec 4 X.length, .int .i64 0]) [.own [.vec 1 Y.length, .vec 2 B.length, .vec 3 R.length] 32, .vec .u8 Y 5, .vec .u8 B 5, .vec .u8 R 5, .vec .u8 X 5] rfl (by simp) rfl (by decide) rfl rfl rfl rfl ⟨by rw [← hXe], by rw [← hXe]⟩

end
end Go.VM
end

section
set_option linter.unusedSimpArgs false
set_option maxRecDepth 10000
namespace Go.VM
open Go Go.Proofs Go.Bits

/-! The law's numbers. -/
/-- the numbers that a mixer holds -/
structure Nums (C : Ctx) (nv : V) (n : Nat) : Prop where
  known : nv.known = true
  one : nv.one = true
  refs : nv.refs = []
  len : ∀ M, vlen M nv = some (.int .i64 n)
  get : ∀ M (i : Nat), i < n → ∃ p z, vidxS M 1 nv (.int .i64 i) = some p ∧ vld C M p = some (.int .u32 z)
  er : ∀ b, V.eraseB b nv = nv
  cells : nv.cells = some [nv]

def mixer (nv : V) (k : Nat) : Blk := .own [nv, .int .i64 k] 26

theorem next_spec (C : Ctx) (hP : C.P = Tryd.prog) (nv : V) (n : Nat) (hn : Nums C nv n) (k : Nat) (hk : k < 1000000) :
    VCalls C 14 [.ptr 0 0] [mixer nv k] [] (fun v M' => ∃ r : Int, 0 ≤ r ∧ r ≤ 4294967295 ∧ v = .int .u32 r ∧ M' = [mixer nv (k + 1)]) := by
  refine VCalls.of_fn (hs := kz c14) (F := F14) (by rw [hP]; exact is14) (by simp [F14]) ?_
  have hst : ∀ x : Int, stGo [Blk.own [nv, .int .i64 k] 26] 1 (.int .i64 x) (.ptr 0 1) = some (.undef, [.own [nv, .int .i64 x] 26]) := fun _ => rfl
  have hw : IntKind.i64.wrap ((k : Int) + 1) = ((k + 1 : Nat) : Int) := by rw [wrap_i64_id (by omega) (by omega)]; omega
  simp only [mixer]
  simp -implicitDefEqProofs only [vms, ↓reduceIte, Nat.reduceEqDiff, reduceCtorEq, F14, c14, hn.len]
  apply condGo_dec <;> intro h
  · have h1 : vbin .rem (.int .i64 k) (.int .i64 n) = some (.int .i64 ((k % n : Nat) : Int)) := by
      rw [vbin_rem (by omega)]; rfl
    have h2 : vbin .quo (.int .i64 k) (.int .i64 n) = some (.int .i64 ((k / n : Nat) : Int)) := by
      have := Nat.div_le_self k n
      rw [vbin_quo (by omega), ← Int.ofNat_tdiv, wrap_i64_id (Int.le_trans (by decide) (Int.natCast_nonneg _)) (Int.le_trans (Int.ofNat_le.2 this) (by omega))]
    obtain ⟨p, z, hp, hz⟩ := hn.get [Blk.own [nv, .int .i64 k] 26] (k % n) (Nat.mod_lt _ (by omega))
    simp -implicitDefEqProofs only [vms, ↓reduceIte, Nat.reduceEqDiff, reduceCtorEq, Nat.min_def, IntKind.bits, Nat.reduceLeDiff, Int.reducePow, Int.reduceToNat, Int.reduceLE, hn.len, h1, h2, hp, hz, hst, hw]
    exact retGo_refl ⟨_, (bits_u32_range _ _ _).1, (bits_u32_range _ _ _).2, rfl, rfl⟩
  · simp -implicitDefEqProofs only [vms, ↓reduceIte, Nat.reduceEqDiff, reduceCtorEq, Nat.min_def, IntKind.bits, Nat.reduceLeDiff, Int.reducePow, Int.reduceToNat, Int.reduceLE, hst, hw]
    exact retGo_refl ⟨_, (bits_u32_range _ _ _).1, (bits_u32_range _ _ _).2, rfl, rfl⟩

theorem below_spec (C : Ctx) (hP : C.P = Tryd.prog) (nv : V) (n : Nat) (hn : Nums C nv n) (k : Nat) (hk : k < 1000000) (m : Nat) (hm : 0 < m) (hm2 : m < 1000000) :
    VCalls C 4 [.ptr 0 0, .int .i64 m] [mixer nv k] [] (fun v M' => ∃ r : Nat, r < m ∧ v = .int .i64 r ∧ M' = [mixer nv (k + 1)]) := by
  refine VCalls.of_fn (hs := kz c4) (F := F4) (by rw [hP]; exact is4) (by simp [F4]) ?_
  simp -implicitDefEqProofs only [vms, ↓reduceIte, Nat.reduceEqDiff, Nat.reduceAdd, reduceCtorEq, F4, c4]
  refine callK_of [] rfl (by simp) (next_spec C hP nv n hn k hk) ?_
  rintro _ _ ⟨r, h0, h1, rfl, rfl⟩
  have hd : 0 ≤ r / 32 ∧ r / 32 ≤ 4294967295 := by omega
  have h2 : vbin .rem (.int .i64 (IntKind.i64.wrap (r / 32))) (.int .i64 m) = some (.int .i64 (((r / 32).toNat % m : Nat) : Int)) := by
    rw [vbin_rem (by omega), wrap_i64_id (by omega) (by omega)]
    congr 2
    obtain ⟨q, hq⟩ : ∃ q : Nat, r / 32 = (q : Int) := ⟨(r / 32).toNat, by omega⟩
    rw [hq]
    rfl
  simp -implicitDefEqProofs only [vms, ↓reduceIte, Nat.reduceEqDiff, reduceCtorEq, Nat.min_def, IntKind.bits, Nat.reduceLeDiff, Int.reducePow, Int.reduceToNat, Int.reduceLE, callC, callC, h2]
  exact retGo_refl ⟨_, Nat.mod_lt _ hm, rfl, rfl⟩

section
variable {C : Ctx} {nv : V} {n : Nat}
theorem mixer_ren (hn : Nums C nv n) (k : Nat) (σ : Nat → Nat) : (mixer nv k).ren σ = mixer nv k := by
  simp only [mixer, Blk.ren, V.renL_map, List.map_cons, List.map_nil, V.ren_of_nil hn.refs, V.ren_of_nil (v := .int .i64 k) rfl]
theorem mixer_refs (hn : Nums C nv n) (k : Nat) : (mixer nv k).refs = [] := by
  simp [mixer, Blk.refs, V.refsL, hn.refs, V.refs]
theorem mixer_cl (hn : Nums C nv n) (k : Nat) : memCl [mixer nv k].length [mixer nv k] = true := by
  simp only [memCl, List.all_cons, List.all_nil, mixer_refs hn]; rfl
theorem mixer_erase (hn : Nums C nv n) (k b : Nat) : (mixer nv k).erase b = mixer nv k := by
  simp only [mixer, Blk.erase, List.map_cons, List.map_nil, hn.er]; rfl
theorem merge_mixer (hn : Nums C nv n) (k k' : Nat) (R : Mem) : merge (mixer nv k :: R) [0] [mixer nv k'] = mixer nv k' :: R := by
  simp only [merge, setAll, List.map_cons, List.map_nil, mixer_ren hn]
  simp [setAll]
theorem callK_next {n0 : Nat} {mv : List Nat} (hP : C.P = Tryd.prog) (hn : Nums C nv n) (k : Nat) (hk : k < 1000000) (R : Mem) {K : List Nat → V → Mem → Prop}
    (hK : ∀ r : Int, 0 ≤ r → r ≤ 4294967295 → K [] (.int .u32 r) (mixer nv (k + 1) :: R)) : callK C n0 mv 14 [.ptr 0 0] (mixer nv k :: R) K := by
  refine callK_fr [0] (next_spec C hP nv n hn k hk) rfl (by simp) (by simp) ⟨by rw [mixer_ren hn]; rfl, trivial⟩ rfl (mixer_cl hn k) rfl ?_
  rintro _ _ ⟨r, h0, h1, rfl, rfl⟩ -
  rw [merge_mixer hn]
  exact hK r h0 h1
theorem callK_below {n0 : Nat} {mv : List Nat} (hP : C.P = Tryd.prog) (hn : Nums C nv n) (k : Nat) (hk : k < 1000000) (m : Nat) (hm : 0 < m) (hm2 : m < 1000000) (R : Mem) {K : List Nat → V → Mem → Prop}
    (hK : ∀ r : Nat, r < m → K [] (.int .i64 r) (mixer nv (k + 1) :: R)) : callK C n0 mv 4 [.ptr 0 0, .int .i64 m] (mixer nv k :: R) K := by
  refine callK_fr [0] (below_spec C hP nv n hn k hk m hm hm2) rfl (by simp) (by simp) ⟨by rw [mixer_ren hn]; rfl, trivial⟩ rfl (mixer_cl hn k) rfl ?_
  rintro _ _ ⟨r, h0, rfl, rfl⟩ -
  rw [merge_mixer hn]
  exact hK r h0
end

structure PixOk (xs : List Int) (m : Nat) : Prop where
  len : xs.length = m
  b : ∀ x ∈ xs, 0 ≤ x ∧ x ≤ 255

theorem wrap8 (x : Int) : 0 ≤ IntKind.u8.wrap x ∧ IntKind.u8.wrap x ≤ 255 := wrap_u8_range x

theorem pixels_loop (C : Ctx) (hP : C.P = Tryd.prog) (nv : V) (n : Nat) (hn : Nums C nv n) (m : Nat) (hm : m ≤ 10000) (k0 : Nat) (hk0 : k0 ≤ 100000) (Q : VX → Env → Mem → Prop)
    (hQ : ∀ (e : Env) (k : Nat) (xs : List Int), PixOk xs m → k ≤ k0 + 2 * m → e.get 5 = .vec 1 m → Q (.exit 0) e [mixer nv k, .vec .u8 xs 5]) :
    ∀ (d j k : Nat) (xs : List Int) (c : Int), j + d = m → k ≤ k0 + 2 * j → PixOk xs j → 0 ≤ c → c ≤ 255 →
      VRounds 1 (VWp C 1 [] c6l0) (d + 1) [(0, .ptr 0 0), (5, .vec 1 j), (6, .int .u8 c), (11, .int .i64 m), (12, .int .i64 j)] [mixer nv k, .vec .u8 xs 5] Q := by
  intro d
  induction d with
  | zero =>
    intro j k xs c hj hk hx c0 c1
    have : j = m := by omega
    subst this
    refine round_gen fun K1 hK1 => ?_
    have hd : decide ((j : Int) < (j : Int)) = false := by simp
    simp -implicitDefEqProofs only [vms, ↓reduceIte, Nat.reduceEqDiff, reduceCtorEq, c6l0, hd]
    rw [hK1]
    exact hQ _ k xs hx (by omega) rfl
  | succ d ih =>
    intro j k xs c hj hk hx c0 c1
    refine round_gen fun K1 hK1 => ?_
    have hd : decide ((j : Int) < (m : Int)) = true := by simp; omega
    have hwj : IntKind.i64.wrap ((j : Int) + 1) = ((j + 1 : Nat) : Int) := by rw [wrap_i64_id (by omega) (by omega)]; rfl
    have hme := fun k b => mixer_erase hn k b
    have hl := hx.len
    have e00 : ((0 : Int) == 0) = true := rfl
    have e10 : ((1 : Int) == 0) = false := rfl
    have e11 : ((1 : Int) == 1) = true := rfl
    have e20 : ((2 : Int) == 0) = false := rfl
    have e21 : ((2 : Int) == 1) = false := rfl
    have e30 : ((3 : Int) == 0) = false := rfl
    have e31 : ((3 : Int) == 1) = false := rfl
    have fin : ∀ (k' : Nat) (c' : Int), k' ≤ k0 + 2 * (j + 1) → 0 ≤ c' → c' ≤ 255 → VRounds 1 (VWp C 1 [] c6l0) (d + 1) [(0, .ptr 0 0), (5, .vec 1 (j + 1)), (6, .int .u8 c'), (11, .int .i64 m), (12, .int .i64 ((j + 1 : Nat) : Int))] [mixer nv k', .vec .u8 (xs ++ [c']) 5, .vec .u8 [c'] 5] Q := by
      intro k' c' hk' h0 h1
      refine VRounds_adj (adj_take 2 (by simp) (by simp) rfl ?_) ?_
      · simp only [memCl, List.take_succ_cons, List.take_zero, List.all_cons, List.all_nil, mixer_refs hn]
        rfl
      exact ih (j + 1) k' (xs ++ [c']) c' (by omega) hk' ⟨by simp [hl], fun x hxm => by
        rcases List.mem_append.1 hxm with h | h
        · exact hx.b x h
        · simp at h; subst h; exact ⟨h0, h1⟩⟩ h0 h1
    simp -implicitDefEqProofs only [vms, ↓reduceIte, Nat.reduceEqDiff, reduceCtorEq, c6l0, hd]
    refine callK_below hP hn k (by omega) 4 (by omega) (by omega) _ ?_
    intro r hr
    have hr4 : r = 0 ∨ r = 1 ∨ r = 2 ∨ r = 3 := by omega
    rcases hr4 with rfl | rfl | rfl | rfl
    · simp -implicitDefEqProofs only [vms, ↓reduceIte, Nat.reduceEqDiff, reduceCtorEq, callC, natCast_lit]
      refine callK_next hP hn (k + 1) (by omega) _ ?_
      intro r h0 h1
      obtain ⟨b0, b1⟩ := wrap8 r
      generalize hc' : IntKind.u8.wrap r = c' at b0 b1
      simp -implicitDefEqProofs only [vms, ↓reduceIte, Nat.reduceEqDiff, Nat.reduceAdd, reduceCtorEq, Nat.reduceLeDiff, callC, hc']
      refine app_of rfl hl (.inl (by omega)) (elems_one rfl) (by simp; omega) ?_
      simp -implicitDefEqProofs only [vms, ↓reduceIte, Nat.reduceEqDiff, reduceCtorEq, callC, Nat.reduceBEq, hme, hwj]
      rw [hK1, roundK_normal]
      exact fin _ _ (by omega) b0 b1
    · simp -implicitDefEqProofs only [vms, ↓reduceIte, Nat.reduceEqDiff, reduceCtorEq, callC, natCast_lit, Int.reduceEq]
      refine callK_below hP hn (k + 1) (by omega) 9 (by omega) (by omega) _ ?_
      intro r h0
      obtain ⟨b0, b1⟩ := wrap8 (c + IntKind.u8.wrap r)
      generalize hc' : IntKind.u8.wrap (c + IntKind.u8.wrap r) = c' at b0 b1
      simp -implicitDefEqProofs only [vms, ↓reduceIte, Nat.reduceEqDiff, Nat.reduceAdd, reduceCtorEq, Nat.reduceLeDiff, callC, hc']
      refine app_of rfl hl (.inl (by omega)) (elems_one rfl) (by simp; omega) ?_
      simp -implicitDefEqProofs only [vms, ↓reduceIte, Nat.reduceEqDiff, reduceCtorEq, callC, Nat.reduceBEq, hme, hwj]
      rw [hK1, roundK_normal]
      exact fin _ _ (by omega) b0 b1
    · simp -implicitDefEqProofs only [vms, ↓reduceIte, Nat.reduceEqDiff, Nat.reduceAdd, reduceCtorEq, Nat.reduceLeDiff, callC, natCast_lit, Int.reduceEq]
      refine app_of rfl hl (.inl (by omega)) (elems_one rfl) (by simp; omega) ?_
      simp -implicitDefEqProofs only [vms, ↓reduceIte, Nat.reduceEqDiff, reduceCtorEq, callC, Nat.reduceBEq, hme, hwj]
      rw [hK1, roundK_normal]
      exact fin _ _ (by omega) c0 c1
    · simp -implicitDefEqProofs only [vms, ↓reduceIte, Nat.reduceEqDiff, Nat.reduceAdd, reduceCtorEq, Nat.reduceLeDiff, callC, natCast_lit, Int.reduceEq]
      refine app_of rfl hl (.inl (by omega)) (elems_one rfl) (by simp; omega) ?_
      simp -implicitDefEqProofs only [vms, ↓reduceIte, Nat.reduceEqDiff, reduceCtorEq, callC, Nat.reduceBEq, hme, hwj]
      rw [hK1, roundK_normal]
      exact fin _ _ (by omega) c0 c1

theorem pixels_spec (C : Ctx) (hP : C.P = Tryd.prog) (nv : V) (n : Nat) (hn : Nums C nv n) (m : Nat) (hm : m ≤ 10000) (k : Nat) (hk : k ≤ 90000) :
    VCalls C 6 [.ptr 0 0, .int .i64 m] [mixer nv k] [] (fun v M' => ∃ (xs : List Int) (k' : Nat), PixOk xs m ∧ k' ≤ k + 2 * m + 1 ∧ v = .vec 1 m ∧ M' = [mixer nv k', .vec .u8 xs 5]) := by
  refine VCalls.of_fn (hs := kz c6) (F := F6) (by rw [hP]; exact is6) (by simp [F6]) ?_
  simp -implicitDefEqProofs only [vms, ↓reduceIte, Nat.reduceEqDiff, Nat.reduceAdd, reduceCtorEq, Nat.reduceLeDiff, F6, c6]
  refine callK_next hP hn k (by omega) _ ?_
  intro r h0 h1
  obtain ⟨b0, b1⟩ := wrap8 r
  generalize hc' : IntKind.u8.wrap r = c' at b0 b1
  simp -implicitDefEqProofs only [vms, ↓reduceIte, Nat.reduceEqDiff, reduceCtorEq, callC, hc']
  apply VWp_loop_of (k := m + 1)
  refine pixels_loop C hP nv n hn m hm (k + 1) (by omega) _ ?_ m 0 (k + 1) [] c' (by omega) (by omega) ⟨rfl, fun x hx => by cases hx⟩ b0 b1
  intro e k' xs hx hk' g5
  simp -implicitDefEqProofs only [vms, ↓reduceIte, Nat.reduceEqDiff, g5]
  show retGo 1 (some (.vec 1 m)) _ _
  exact retGo_refl ⟨xs, k', hx, by omega, rfl, rfl⟩
end Go.VM
end

section
set_option linter.unusedSimpArgs false
set_option maxRecDepth 10000
namespace Go.VM
open Go Go.Proofs Go.Bits

/-! Old cells may be read as they stand: a call that makes one row only. -/
noncomputable def frozen (C : Ctx) (w : World) : Ctx := { P := C.P, ext := fun a => if a.block < w.heap.size then w.cell? a else none }

theorem freeze {C : Ctx} {f : Nat} {vs : List V} {M : Mem} {X : List Int} {k : IntKind} {T : Nat} (vs' : (Nat → Nat) → (Nat → Option Nat) → List V) (hvs : ∀ ρ κ ρ' κ', V.reals ρ κ vs = V.reals ρ' κ' (vs' ρ κ)) (hr : ∀ ρ κ, V.refsL (vs' ρ κ) = [])
    (h : ∀ ρ κ w, Rel C ρ κ M w → VCalls (frozen C w) f (vs' ρ κ) [] [] fun v M' => v = .vec 0 X.length ∧ M' = [.vec k X T]) :
    VCalls C f vs M [] fun v M' => v = .vec M.length X.length ∧ M' = M ++ [.vec k X T] := by
  intro ρ κ w hR hcl
  have hR0 : Rel (frozen C w) (fun _ => 0) (fun _ => none) [] w := by
    refine ⟨fun i b hb => by simp at hb, fun i j hi => absurd (alive_lt hi) (by simp), fun a v ha => ?_, fun i b hb => by simp at hb⟩
    simp only [frozen] at ha
    split at ha
    · exact ⟨ha, fun i hi => absurd (alive_lt hi) (by simp)⟩
    · cases ha
  rw [hvs ρ κ (fun _ => 0) (fun _ => none)]
  refine Calls.mono (h ρ κ w hR _ _ w hR0 (fun b hb => by rw [hr] at hb; cases hb)) ?_
  rintro en w' ⟨ρ1, κ1, v, M', rfl, hv, hR1, -, hst, rfl, rfl⟩
  have hkeep : ∀ r, r < w.heap.size → w'.heap[r]? = w.heap[r]? := fun r hr => hst.keep r hr (fun i hi => absurd (alive_lt hi) (by simp))
  have hnew : ∀ i, alive κ1 [.vec k X T] i → w.heap.size ≤ ρ1 i := fun i hi => by
    rcases hst.own i hi with ⟨j, hj, -⟩ | h
    · exact absurd (alive_lt hj) (by simp)
    · exact h
  let ρ2 : Nat → Nat := fun i => if i < M.length then ρ i else ρ1 (i - M.length)
  let κ2 : Nat → Option Nat := fun i => if i < M.length then κ i else κ1 (i - M.length)
  have ho : ∀ i, i < M.length → ρ2 i = ρ i ∧ κ2 i = κ i := fun i hi => by simp [ρ2, κ2, hi]
  have hn : ρ2 M.length = ρ1 0 ∧ κ2 M.length = κ1 0 := by simp [ρ2, κ2]
  have hget : ∀ i b, (M ++ [Blk.vec k X T])[i]? = some b → (i < M.length ∧ M[i]? = some b) ∨ (i = M.length ∧ b = .vec k X T) := by
    intro i b hb
    by_cases hi : i < M.length
    · rw [List.getElem?_append_left hi] at hb; exact .inl ⟨hi, hb⟩
    · rw [List.getElem?_append_right (by omega)] at hb
      have : i - M.length = 0 := by
        have := (List.getElem?_eq_some_iff.1 hb).1
        simp at this; omega
      rw [this] at hb
      simp at hb
      exact .inr ⟨by omega, hb.symm⟩
  have hal : ∀ i, alive κ2 (M ++ [Blk.vec k X T]) i → (i < M.length ∧ alive κ M i) ∨ (i = M.length ∧ alive κ1 [.vec k X T] 0) := by
    intro i hi
    have hlt := alive_lt hi
    have hM : (M ++ [Blk.vec k X T])[i]? = some (M ++ [Blk.vec k X T])[i] := by simp [hlt]
    rw [alive_of hM] at hi
    rcases hget i _ hM with ⟨h1, h2⟩ | ⟨h1, h2⟩
    · refine .inl ⟨h1, (alive_of h2).2 ?_⟩
      rwa [(ho i h1).2] at hi
    · refine .inr ⟨h1, (alive_of (B := .vec k X T) rfl).2 ?_⟩
      rw [h2, h1, hn.2] at hi
      exact hi
  have hvr : V.real ρ1 κ1 (.vec 0 X.length) = V.real ρ2 κ2 (.vec M.length X.length) := by simp only [V.real, hn.1, hn.2]
  refine ⟨ρ2, κ2, .vec M.length X.length, M ++ [.vec k X T], by rw [hvr], by intro b hb; simp [V.refs] at hb; simp [hb], ⟨?_, ?_, ?_, ?_⟩, by simp, ⟨hst.os, hst.tape, hst.output, hst.size, fun r hr' _ => hkeep r hr', ?_, fun i hi => ho i hi.1⟩, rfl, rfl⟩
  · intro i b hb
    rcases hget i b hb with ⟨hi, hb⟩ | ⟨rfl, rfl⟩
    · obtain ⟨o1, o2⟩ := ho i hi
      have hb0 := hR.blk i b hb
      have hlt : Blk.live (κ i) b → ρ i < w.heap.size := fun hl => hR.lt ((alive_of hb).2 hl)
      cases b with
      | own cs T' =>
        obtain ⟨cells, h1, h2, h3⟩ := hb0
        refine ⟨cells, by rw [o1, hkeep _ (hlt trivial)]; exact h1, h2, fun j v hj hu => ?_⟩
        rw [h3 j v hj hu]
        congr 1
        refine V.real_congr v fun r hr' => ?_
        have := hR.cl i _ hb r (by simp only [Blk.refs]; exact V.mem_refsL.2 ⟨v, List.mem_of_getElem? hj, hr'⟩)
        exact ⟨(ho r this).1.symm, (ho r this).2.symm⟩
      | ints k' xs T' =>
        show w'.heap[ρ2 i]? = _
        rw [o1, hkeep _ (hlt trivial)]; exact hb0
      | vec k' xs T' =>
        rcases hb0 with ⟨h1, h2⟩ | ⟨c, cells, h1, h2⟩
        · exact .inl ⟨by rw [o2]; exact h1, h2⟩
        · refine .inr ⟨c, cells, by rw [o2]; exact h1, ?_, h2.2⟩
          rw [o1, hkeep _ (hlt (by simp [Blk.live, h1]))]
          exact h2.1
    · have hb1 := hR1.blk 0 (.vec k X T) rfl
      simp only [Blk.holds, hn.1, hn.2] at hb1 ⊢
      exact hb1
  · intro i j hi hj hij
    rcases hal i hi with ⟨i1, i2⟩ | ⟨rfl, i2⟩ <;> rcases hal j hj with ⟨j1, j2⟩ | ⟨rfl, j2⟩
    · rw [(ho i i1).1, (ho j j1).1] at hij
      exact hR.inj i j i2 j2 hij
    · rw [(ho i i1).1, hn.1] at hij
      have := hR.lt i2
      have := hnew 0 j2
      omega
    · rw [(ho j j1).1, hn.1] at hij
      have := hR.lt j2
      have := hnew 0 i2
      omega
    · rfl
  · intro a v ha
    obtain ⟨hc, hn'⟩ := hR.ext a v ha
    have hlt : a.block < w.heap.size := by
      unfold World.cell? at hc
      cases hh : w.heap[a.block]? with
      | none => rw [hh] at hc; cases hc
      | some o => exact (Array.getElem?_eq_some_iff.1 hh).1
    refine ⟨?_, fun i hi => ?_⟩
    · unfold World.cell? at hc ⊢
      rw [hkeep _ hlt]; exact hc
    · rcases hal i hi with ⟨i1, i2⟩ | ⟨rfl, i2⟩
      · rw [(ho i i1).1]; exact hn' i i2
      · rw [hn.1]; have := hnew 0 i2; omega
  · intro i b hb r hr'
    rcases hget i b hb with ⟨hi, hb⟩ | ⟨rfl, rfl⟩
    · have := hR.cl i b hb r hr'
      simp; omega
    · simp [Blk.refs] at hr'
  · intro i hi
    rcases hal i hi with ⟨i1, i2⟩ | ⟨rfl, i2⟩
    · exact .inl ⟨i, i2, (ho i i1).1⟩
    · rw [hn.1]; exact .inr (hnew 0 i2)
end Go.VM
end
