/-
  A part of a machine over the model and of a walk by it, proved right against the model; proved outright, under no condition but what each theorem names.
-/
import Derived.Test.YtahmhofnilgfgaaDoorGQtoLB
set_option linter.unusedVariables false
set_option linter.unusedSimpArgs false
section
set_option linter.unusedSimpArgs false
set_option maxRecDepth 10000
namespace Go.VM
open Go Go.Proofs Go.Bits

/-! The reference's reading of the picture: the closures at. -/
theorem VCalls.of_cl {C : Ctx} {f : Nat} {vs : List V} {M : Mem} {mv : List Nat} {R : V → Mem → Prop} (h : memCl M.length M = true → VCalls C f vs M mv R) : VCalls C f vs M mv R := fun ρ κ w hR hcl =>
  h (List.all_eq_true.2 fun b hb => List.all_eq_true.2 fun r hr => by
    obtain ⟨i, hi, he⟩ := List.mem_iff_getElem.1 hb
    exact decide_eq_true (hR.cl i b (by rw [List.getElem?_eq_getElem hi, he]) r hr)) ρ κ w hR hcl
/-- a row of bytes that lies in old cells -/
structure RowAt (C : Ctx) (nv : V) (xs : List Int) : Prop where
  len : ∀ M, vlen M nv = some (.int .i64 xs.length)
  get : ∀ M (i : Nat), i < xs.length → ∃ p, vidxS M 1 nv (.int .i64 i) = some p ∧ vld C M p = some (.int .u8 (gI xs i))

section
variable {C : Ctx} (w h : Nat)
/-- the cells that the closures read -/
structure PicAt (C : Ctx) (w : Nat) (P W L np cp : Nat) : Prop where
  wd : C.ext ⟨W, 0, none⟩ = some (.int .i64 w)
  pls : C.ext ⟨P, 4, none⟩ = some (.slice (some ⟨L, 0, none⟩) np cp)

theorem at5_ok (hP : C.P = Tryd.prog) (P W L np cp : Nat) (hA : PicAt C w P W L np cp) (hnp : 0 < np) (nv : V) (pix : List Int) (hrow : ∃ u, C.ext ⟨L, 0, none⟩ = some u ∧ V.ofVal u = nv) (hR : RowAt C nv pix) (hpl : pix.length = w * h) (hb : ∀ i, 0 ≤ gI pix i ∧ gI pix i ≤ 255) (hw : w ≤ 40) (hh : h ≤ 40) (x y : Nat) (hx : x < w) (hy : y < h) (M : Mem) :
    VCalls C 5 [.int .i64 x, .int .i64 y, .raw (.pointer (some ⟨P, 0, none⟩)), .raw (.pointer (some ⟨W, 0, none⟩))] M [] fun v M' => v = .ints .u8 [gI pix (y * w + x), 0, 0] ∧ M' = M := by
  refine VCalls.of_cl fun hM => VCalls.of_fn (hs := kz c5) (F := F5) (by rw [hP]; exact is5) (by simp [F5]) ?_
  obtain ⟨u, hu, hnv⟩ := hrow
  have hi := idx_lt hx hy
  have hyw : y * w ≤ 40 * 40 := Nat.mul_le_mul (Nat.le_trans (Nat.le_of_lt hy) hh) hw
  obtain ⟨p, hp1, hp2⟩ := hR.get (M ++ [Blk.ints .u8 [0, 0, 0] 31]) (y * w + x) (by omega)
  have l1 : vld C (M ++ [Blk.ints .u8 [0, 0, 0] 31]) (.raw (.pointer (some ⟨P, 4, none⟩))) = some (.raw (.slice (some ⟨L, 0, none⟩) np cp)) := by rw [vld_raw hA.pls]; rfl
  have l2 : vidxS (M ++ [Blk.ints .u8 [0, 0, 0] 31]) 1 (.raw (.slice (some ⟨L, 0, none⟩) np cp)) (.int .i64 0) = some (.raw (.pointer (some ⟨L, 0, none⟩))) := by
    have : (0 : Int) < np := by omega
    simp [vidxS, this, hnp, Addr.add_lit]
  have l3 : vld C (M ++ [Blk.ints .u8 [0, 0, 0] 31]) (.raw (.pointer (some ⟨L, 0, none⟩))) = some nv := by rw [vld_raw hu, hnv]
  have l4 : vld C (M ++ [Blk.ints .u8 [0, 0, 0] 31]) (.raw (.pointer (some ⟨W, 0, none⟩))) = some (.int .i64 w) := by rw [vld_raw hA.wd]; rfl
  have w1 : IntKind.i64.wrap ((y : Int) * (w : Int)) = ((y * w : Nat) : Int) := by
    have : (y : Int) * (w : Int) = ((y * w : Nat) : Int) := by simp
    rw [this, wrap_i64_id (by omega) (by omega)]
  have w2 : IntKind.i64.wrap (((y * w : Nat) : Int) + (x : Int)) = ((y * w + x : Nat) : Int) := by rw [wrap_i64_id (by omega) (by omega)]; omega
  have f1 : ∀ z : Int, vfill [(0, 1, .int .u8 z)] (.ints .u8 [0, 0, 0]) = some (.ints .u8 [z, 0, 0]) := fun _ => rfl
  have st : ∀ z : Int, stGo (M ++ [Blk.ints .u8 [0, 0, 0] 31]) 3 (.ints .u8 [z, 0, 0]) (.ptr M.length 0) = some (.undef, M ++ [.ints .u8 [z, 0, 0] 31]) := fun z => by
    rw [stGo_all (b := M.length) (k := .u8) (xs := [0, 0, 0]) (ys := [z, 0, 0]) (n := 3) (T := 31) (by simp) rfl rfl]
    simp
  have rr : ∀ z : Int, Mem.range (M ++ [.ints .u8 [z, 0, 0] 31]) M.length 0 3 = some (.ints .u8 [z, 0, 0]) := fun z => range_ints (k := .u8) (xs := [z, 0, 0]) (T := 31) (by simp) rfl
  have f0 : vfld 4 (.raw (.pointer (some ⟨P, 0, none⟩))) = some (.raw (.pointer (some ⟨P, 4, none⟩))) := by rw [vfld_raw, Addr.add_lit]
  simp -implicitDefEqProofs only [vms, ↓reduceIte, Nat.reduceEqDiff, Nat.reduceAdd, reduceCtorEq, F5, c5, f0, l1, l2, l3, l4, w1, w2, hp1, hp2, f1, st, rr]
  refine retGo_take M.length (Nat.le_refl _) (by simp) rfl (by rw [List.take_left]; exact hM) ⟨rfl, by rw [List.take_left]⟩

theorem at7_ok (hP : C.P = Tryd.prog) (P W L np cp : Nat) (hA : PicAt C w P W L np cp) (hnp : 3 ≤ np) (n0 n1 n2 : V) (Y B R : List Int) (hr0 : ∃ u, C.ext ⟨L, 0, none⟩ = some u ∧ V.ofVal u = n0) (hr1 : ∃ u, C.ext ⟨L, 1, none⟩ = some u ∧ V.ofVal u = n1) (hr2 : ∃ u, C.ext ⟨L, 2, none⟩ = some u ∧ V.ofVal u = n2)
    (hY : RowAt C n0 Y) (hB : RowAt C n1 B) (hR : RowAt C n2 R) (lY : Y.length = w * h) (lB : B.length = w * h) (lR : R.length = w * h) (hw : w ≤ 40) (hh : h ≤ 40) (x y : Nat) (hx : x < w) (hy : y < h) (M : Mem) :
    VCalls C 7 [.int .i64 x, .int .i64 y, .raw (.pointer (some ⟨P, 0, none⟩)), .raw (.pointer (some ⟨W, 0, none⟩))] M [] fun v M' => v = .ints .u8 [gI Y (y * w + x), gI B (y * w + x), gI R (y * w + x)] ∧ M' = M := by
  refine VCalls.of_cl fun hM => VCalls.of_fn (hs := kz c7) (F := F7) (by rw [hP]; exact is7) (by simp [F7]) ?_
  obtain ⟨u0, hu0, hn0⟩ := hr0
  obtain ⟨u1, hu1, hn1⟩ := hr1
  obtain ⟨u2, hu2, hn2⟩ := hr2
  have hi := idx_lt hx hy
  have hyw : y * w ≤ 40 * 40 := Nat.mul_le_mul (Nat.le_trans (Nat.le_of_lt hy) hh) hw
  obtain ⟨p0, hp0, hq0⟩ := hY.get (M ++ [Blk.ints .u8 [0, 0, 0] 31]) (y * w + x) (by omega)
  obtain ⟨p1, hp1, hq1⟩ := hB.get (M ++ [Blk.ints .u8 [0, 0, 0] 31]) (y * w + x) (by omega)
  obtain ⟨p2, hp2, hq2⟩ := hR.get (M ++ [Blk.ints .u8 [0, 0, 0] 31]) (y * w + x) (by omega)
  have l1 : vld C (M ++ [Blk.ints .u8 [0, 0, 0] 31]) (.raw (.pointer (some ⟨P, 4, none⟩))) = some (.raw (.slice (some ⟨L, 0, none⟩) np cp)) := by rw [vld_raw hA.pls]; rfl
  have s0 : vidxS (M ++ [Blk.ints .u8 [0, 0, 0] 31]) 1 (.raw (.slice (some ⟨L, 0, none⟩) np cp)) (.int .i64 0) = some (.raw (.pointer (some ⟨L, 0, none⟩))) := by
    have : (0 : Int) < np := by omega
    have : 0 < np := by omega
    simp [vidxS, this, Addr.add_lit]
  have s1 : vidxS (M ++ [Blk.ints .u8 [0, 0, 0] 31]) 1 (.raw (.slice (some ⟨L, 0, none⟩) np cp)) (.int .i64 1) = some (.raw (.pointer (some ⟨L, 1, none⟩))) := by
    have : (1 : Int) < np := by omega
    simp [vidxS, this, Addr.add_lit]
  have s2 : vidxS (M ++ [Blk.ints .u8 [0, 0, 0] 31]) 1 (.raw (.slice (some ⟨L, 0, none⟩) np cp)) (.int .i64 2) = some (.raw (.pointer (some ⟨L, 2, none⟩))) := by
    have : (2 : Int) < np := by omega
    simp [vidxS, this, Addr.add_lit]
  have k0 : vld C (M ++ [Blk.ints .u8 [0, 0, 0] 31]) (.raw (.pointer (some ⟨L, 0, none⟩))) = some n0 := by rw [vld_raw hu0, hn0]
  have k1 : vld C (M ++ [Blk.ints .u8 [0, 0, 0] 31]) (.raw (.pointer (some ⟨L, 1, none⟩))) = some n1 := by rw [vld_raw hu1, hn1]
  have k2 : vld C (M ++ [Blk.ints .u8 [0, 0, 0] 31]) (.raw (.pointer (some ⟨L, 2, none⟩))) = some n2 := by rw [vld_raw hu2, hn2]
  have l4 : vld C (M ++ [Blk.ints .u8 [0, 0, 0] 31]) (.raw (.pointer (some ⟨W, 0, none⟩))) = some (.int .i64 w) := by rw [vld_raw hA.wd]; rfl
  have w1 : IntKind.i64.wrap ((y : Int) * (w : Int)) = ((y * w : Nat) : Int) := by
    have : (y : Int) * (w : Int) = ((y * w : Nat) : Int) := by simp
    rw [this, wrap_i64_id (by omega) (by omega)]
  have w2 : IntKind.i64.wrap (((y * w : Nat) : Int) + (x : Int)) = ((y * w + x : Nat) : Int) := by rw [wrap_i64_id (by omega) (by omega)]; omega
  have f1 : ∀ a b c : Int, vfill [(0, 1, .int .u8 a), (1, 1, .int .u8 b), (2, 1, .int .u8 c)] (.ints .u8 [0, 0, 0]) = some (.ints .u8 [a, b, c]) := fun _ _ _ => rfl
  have st : ∀ a b c : Int, stGo (M ++ [Blk.ints .u8 [0, 0, 0] 31]) 3 (.ints .u8 [a, b, c]) (.ptr M.length 0) = some (.undef, M ++ [.ints .u8 [a, b, c] 31]) := fun a b c => by
    rw [stGo_all (b := M.length) (k := .u8) (xs := [0, 0, 0]) (ys := [a, b, c]) (n := 3) (T := 31) (by simp) rfl rfl]
    simp
  have rr : ∀ a b c : Int, Mem.range (M ++ [.ints .u8 [a, b, c] 31]) M.length 0 3 = some (.ints .u8 [a, b, c]) := fun a b c => range_ints (k := .u8) (xs := [a, b, c]) (T := 31) (by simp) rfl
  have f0 : vfld 4 (.raw (.pointer (some ⟨P, 0, none⟩))) = some (.raw (.pointer (some ⟨P, 4, none⟩))) := by rw [vfld_raw, Addr.add_lit]
  simp -implicitDefEqProofs only [vms, ↓reduceIte, Nat.reduceEqDiff, Nat.reduceAdd, reduceCtorEq, F7, c7, f0, l1, s0, s1, s2, k0, k1, k2, l4, w1, w2, hp0, hp1, hp2, hq0, hq1, hq2, f1, st, rr]
  refine retGo_take M.length (Nat.le_refl _) (by simp) rfl (by rw [List.take_left]; exact hM) ⟨rfl, by rw [List.take_left]⟩

theorem at8_ok (hP : C.P = Tryd.prog) (P W L np cp : Nat) (hA : PicAt C w P W L np cp) (hnp : 0 < np) (nv : V) (pix : List Int) (hrow : ∃ u, C.ext ⟨L, 0, none⟩ = some u ∧ V.ofVal u = nv) (hR : RowAt C nv pix) (hpl : pix.length = 4 * (w * h)) (hb : ∀ i, isB (gI pix i)) (hw : w ≤ 40) (hh : h ≤ 40) (x y : Nat) (hx : x < w) (hy : y < h) (M : Mem) :
    VCalls C 8 [.int .i64 x, .int .i64 y, .raw (.pointer (some ⟨W, 0, none⟩)), .raw (.pointer (some ⟨P, 0, none⟩))] M [] fun v M' =>
      v = .ints .u8 [yccY (gI pix (4 * (y * w + x))) (gI pix (4 * (y * w + x) + 1)) (gI pix (4 * (y * w + x) + 2)), yccB (gI pix (4 * (y * w + x))) (gI pix (4 * (y * w + x) + 1)) (gI pix (4 * (y * w + x) + 2)), yccR (gI pix (4 * (y * w + x))) (gI pix (4 * (y * w + x) + 1)) (gI pix (4 * (y * w + x) + 2))] ∧ M' = M := by
  refine VCalls.of_cl fun hM => VCalls.of_fn (hs := kz c8) (F := F8) (by rw [hP]; exact is8) (by simp [F8]) ?_
  obtain ⟨u0, hu0, hn0⟩ := hrow
  have hi := idx_lt hx hy
  have hyw : y * w ≤ 40 * 40 := Nat.mul_le_mul (Nat.le_trans (Nat.le_of_lt hy) hh) hw
  obtain ⟨p0, hp0, hq0⟩ := hR.get (M ++ [Blk.ints .u8 [0, 0, 0] 31]) (4 * (y * w + x)) (by omega)
  obtain ⟨p1, hp1, hq1⟩ := hR.get (M ++ [Blk.ints .u8 [0, 0, 0] 31]) (4 * (y * w + x) + 1) (by omega)
  obtain ⟨p2, hp2, hq2⟩ := hR.get (M ++ [Blk.ints .u8 [0, 0, 0] 31]) (4 * (y * w + x) + 2) (by omega)
  have l1 : vld C (M ++ [Blk.ints .u8 [0, 0, 0] 31]) (.raw (.pointer (some ⟨P, 4, none⟩))) = some (.raw (.slice (some ⟨L, 0, none⟩) np cp)) := by rw [vld_raw hA.pls]; rfl
  have s0 : vidxS (M ++ [Blk.ints .u8 [0, 0, 0] 31]) 1 (.raw (.slice (some ⟨L, 0, none⟩) np cp)) (.int .i64 0) = some (.raw (.pointer (some ⟨L, 0, none⟩))) := by
    have : (0 : Int) < np := by omega
    simp [vidxS, hnp, Addr.add_lit]
  have k0 : vld C (M ++ [Blk.ints .u8 [0, 0, 0] 31]) (.raw (.pointer (some ⟨L, 0, none⟩))) = some nv := by rw [vld_raw hu0, hn0]
  have l4 : vld C (M ++ [Blk.ints .u8 [0, 0, 0] 31]) (.raw (.pointer (some ⟨W, 0, none⟩))) = some (.int .i64 w) := by rw [vld_raw hA.wd]; rfl
  have w1 : IntKind.i64.wrap ((y : Int) * (w : Int)) = ((y * w : Nat) : Int) := by
    have : (y : Int) * (w : Int) = ((y * w : Nat) : Int) := by simp
    rw [this, wrap_i64_id (by omega) (by omega)]
  have w2 : IntKind.i64.wrap (((y * w : Nat) : Int) + (x : Int)) = ((y * w + x : Nat) : Int) := by rw [wrap_i64_id (by omega) (by omega)]; omega
  have w3 : IntKind.i64.wrap (4 * ((y * w + x : Nat) : Int)) = ((4 * (y * w + x) : Nat) : Int) := by rw [wrap_i64_id (by omega) (by omega)]; omega
  have w4 : IntKind.i64.wrap (((4 * (y * w + x) : Nat) : Int) + 1) = ((4 * (y * w + x) + 1 : Nat) : Int) := by rw [wrap_i64_id (by omega) (by omega)]; omega
  have w5 : IntKind.i64.wrap (((4 * (y * w + x) : Nat) : Int) + 2) = ((4 * (y * w + x) + 2 : Nat) : Int) := by rw [wrap_i64_id (by omega) (by omega)]; omega
  have b0 := hb (4 * (y * w + x))
  have b1 := hb (4 * (y * w + x) + 1)
  have b2 := hb (4 * (y * w + x) + 2)
  have f1 : ∀ a b c : Int, vfill [(0, 1, .int .u8 a), (1, 1, .int .u8 b), (2, 1, .int .u8 c)] (.ints .u8 [0, 0, 0]) = some (.ints .u8 [a, b, c]) := fun _ _ _ => rfl
  have st : ∀ a b c : Int, stGo (M ++ [Blk.ints .u8 [0, 0, 0] 31]) 3 (.ints .u8 [a, b, c]) (.ptr M.length 0) = some (.undef, M ++ [.ints .u8 [a, b, c] 31]) := fun a b c => by
    rw [stGo_all (b := M.length) (k := .u8) (xs := [0, 0, 0]) (ys := [a, b, c]) (n := 3) (T := 31) (by simp) rfl rfl]
    simp
  have rr : ∀ a b c : Int, Mem.range (M ++ [.ints .u8 [a, b, c] 31]) M.length 0 3 = some (.ints .u8 [a, b, c]) := fun a b c => range_ints (k := .u8) (xs := [a, b, c]) (T := 31) (by simp) rfl
  have f0 : vfld 4 (.raw (.pointer (some ⟨P, 0, none⟩))) = some (.raw (.pointer (some ⟨P, 4, none⟩))) := by rw [vfld_raw, Addr.add_lit]
  generalize hI : 4 * (y * w + x) = I at *
  generalize hJ : y * w + x = J at *
  simp -implicitDefEqProofs only [vms, ↓reduceIte, Nat.reduceEqDiff, Nat.reduceAdd, reduceCtorEq, F8, c8, f0, l1, s0, k0, l4, w1, w2, w3, w4, w5, hp0, hp1, hp2, hq0, hq1, hq2]
  refine callK_of [] rfl (by simp) (ycc_spec C _ _ _ hP b0 b1 b2 _) ?_
  rintro _ _ ⟨rfl, rfl⟩
  generalize yccY (gI pix I) (gI pix (I + 1)) (gI pix (I + 2)) = a
  generalize yccB (gI pix I) (gI pix (I + 1)) (gI pix (I + 2)) = b
  generalize yccR (gI pix I) (gI pix (I + 1)) (gI pix (I + 2)) = c
  have t0 : tupGo 0 (.tup [.int .u8 a, .int .u8 b, .int .u8 c]) = some (.int .u8 a) := rfl
  have t1 : tupGo 1 (.tup [.int .u8 a, .int .u8 b, .int .u8 c]) = some (.int .u8 b) := rfl
  have t2 : tupGo 2 (.tup [.int .u8 a, .int .u8 b, .int .u8 c]) = some (.int .u8 c) := rfl
  simp -implicitDefEqProofs only [vms, ↓reduceIte, Nat.reduceEqDiff, callC, t0, t1, t2, f1, st, rr]
  refine retGo_take M.length (Nat.le_refl _) (by simp) rfl (by rw [List.take_left]; exact hM) ⟨rfl, by rw [List.take_left]⟩
end
end Go.VM
end

section
set_option linter.unusedSimpArgs false
set_option maxRecDepth 10000
namespace Go.VM
open Go Go.Proofs Go.Bits

/-! The reference, called from the law's memory. -/
theorem qual_spec (C : Ctx) (hP : C.P = Tryd.prog) (kq : IntKind) (q : Int) (use : Bool) :
    VCalls C 12 [.int kq q, .bool use] [] [] fun v M' => v = .int .i64 (if use then qcl (IntKind.i64.wrap q) else 75) ∧ M' = [] := by
  refine VCalls.of_fn (hs := kz c12) (F := F12) (by rw [hP]; exact is12) (by simp [F12]) ?_
  have hq : (if (100 : Int) < (if (1 : Int) > IntKind.i64.wrap q then 1 else IntKind.i64.wrap q) then 100 else (if (1 : Int) > IntKind.i64.wrap q then 1 else IntKind.i64.wrap q)) = qcl (IntKind.i64.wrap q) := by
    unfold qcl
    by_cases h1 : IntKind.i64.wrap q < 1
    · rw [if_pos (show (1 : Int) > IntKind.i64.wrap q from h1), if_pos h1, if_neg (by omega)]
    · rw [if_neg (show ¬ (1 : Int) > IntKind.i64.wrap q from h1), if_neg h1]
  cases use
  · simp -implicitDefEqProofs only [vms, ↓reduceIte, Nat.reduceEqDiff, Nat.reduceAdd, reduceCtorEq, F12, c12]
    exact retGo_refl ⟨rfl, rfl⟩
  · simp -implicitDefEqProofs only [vms, ↓reduceIte, Nat.reduceEqDiff, Nat.reduceAdd, reduceCtorEq, F12, c12, hq]
    exact retGo_refl ⟨rfl, rfl⟩

section
variable {C : Ctx} {M : Mem} {ρ : Nat → Nat} {κ : Nat → Option Nat} {w : World}
theorem fr_cell (hR : Rel C ρ κ M w) {b T j : Nat} {cs : List V} {v : V} (hM : M[b]? = some (.own cs T)) (hj : cs[j]? = some v) (hu : v ≠ V.undef) : (frozen C w).ext ⟨ρ b, j, none⟩ = some (v.real ρ κ) := by
  obtain ⟨cells, h1, h2, h3⟩ := hR.blk _ _ hM
  have hlt : ρ b < w.heap.size := (Array.getElem?_eq_some_iff.1 h1).1
  simp only [frozen, hlt, if_true]
  have := h3 j v hj hu
  simp [World.cell?, h1, this]
theorem fr_row (hR : Rel C ρ κ M w) {b T : Nat} {xs : List Int} (hM : M[b]? = some (.vec .u8 xs T)) (h0 : 0 < xs.length) :
    ∃ c, κ b = some c ∧ RowAt (frozen C w) (.raw (.slice (some ⟨ρ b, 0, none⟩) xs.length c)) xs := by
  rcases hR.blk _ _ hM with ⟨-, h⟩ | ⟨c, cells, h1, h2, h3, h4, h5, h6⟩
  · subst h; simp at h0
  · refine ⟨c, h1, fun M' => rfl, fun M' i hi => ⟨.raw (.pointer (some ⟨ρ b, i, none⟩)), ?_, ?_⟩⟩
    · have h1 : (0 : Int) ≤ i := by omega
      have h2 : (i : Int) < xs.length := by omega
      simp [vidxS, h2, Addr.add_lit]
    · have hlt : ρ b < w.heap.size := (Array.getElem?_eq_some_iff.1 h2).1
      have hc : cells[i]? = some (.int .u8 (gI xs i)) := by
        have h7 : (cells.toList.take xs.length)[i]? = (intVals .u8 xs)[i]? := by rw [h6]
        rw [List.getElem?_take, if_pos hi] at h7
        simp only [intVals, List.getElem?_map] at h7
        rw [Array.getElem?_toList] at h7
        rw [h7]
        simp [gI, hi]
      have : (frozen C w).ext ⟨ρ b, i, none⟩ = some (.int .u8 (gI xs i)) := by
        simp only [frozen, hlt, if_true]
        simp [World.cell?, h2, hc]
      rw [vld_raw this]
      rfl
end

/-- the picture that a list of rows gives -/
def pxG (w : Nat) (pix : List Int) (k x y : Nat) : Int := if k = 0 then gI pix (y * w + x) else 0
def pxY (w : Nat) (Y B R : List Int) (k x y : Nat) : Int := if k = 0 then gI Y (y * w + x) else if k = 1 then gI B (y * w + x) else gI R (y * w + x)
def pxR (w : Nat) (pix : List Int) (k x y : Nat) : Int :=
  if k = 0 then yccY (gI pix (4 * (y * w + x))) (gI pix (4 * (y * w + x) + 1)) (gI pix (4 * (y * w + x) + 2))
  else if k = 1 then yccB (gI pix (4 * (y * w + x))) (gI pix (4 * (y * w + x) + 1)) (gI pix (4 * (y * w + x) + 2))
  else yccR (gI pix (4 * (y * w + x))) (gI pix (4 * (y * w + x) + 1)) (gI pix (4 * (y * w + x) + 2))

theorem gI_b {xs : List Int} (h : ∀ x ∈ xs, 0 ≤ x ∧ x ≤ 255) (i : Nat) : 0 ≤ gI xs i ∧ gI xs i ≤ 255 := by
  unfold gI
  rw [List.getD_eq_getElem?_getD]
  cases hx : xs[i]? with
  | none => simp
  | some x => exact h x (List.mem_of_getElem? hx)

section
variable {C : Ctx} {M : Mem} {w h : Nat}
theorem ref_gray (hP : C.P = Tryd.prog) (p wd L b : Nat) (kd h' r : Int) (pix : List Int) (T : Nat) (hp : M[p]? = some (.own [.int .i64 kd, .int .i64 w, .int .i64 h', .int .i64 r, .slice L 0 1 1] 30)) (hwd : M[wd]? = some (.own [.int .i64 w] 3)) (hL : M[L]? = some (.own [.vec b pix.length] 32)) (hb : M[b]? = some (.vec .u8 pix T))
    (hw : 0 < w ∧ w ≤ 40) (hh : 0 < h ∧ h ≤ 40) (hpl : pix.length = w * h) (hpi : ∀ x ∈ pix, 0 ≤ x ∧ x ≤ 255) (q : Int) (hq : 1 ≤ q ∧ q ≤ 100) :
    VCalls C 11 [.int .i64 w, .int .i64 h, .bool true, .int .i64 q, .fn 5 [.ptr p 0, .ptr wd 0], .fn 13 []] M [] fun v M' => v = .vec M.length (specBytes w h true q (pxG w pix)).length ∧ M' = M ++ [.vec .u8 (specBytes w h true q (pxG w pix)) 5] := by
  have hpos : 0 < w * h := Nat.mul_pos hw.1 hh.1
  refine freeze (fun ρ κ => [.int .i64 w, .int .i64 h, .bool true, .int .i64 q, .fn 5 [.raw (.pointer (some ⟨ρ p, 0, none⟩)), .raw (.pointer (some ⟨ρ wd, 0, none⟩))], .fn 13 []]) (fun _ _ _ _ => rfl) (fun _ _ => rfl) ?_
  intro ρ κ W hR
  obtain ⟨c, hc, hrow⟩ := fr_row hR hb (by omega)
  have hA : PicAt (frozen C W) w (ρ p) (ρ wd) (ρ L) 1 1 := ⟨fr_cell hR hwd (j := 0) rfl (by simp), fr_cell hR hp (j := 4) rfl (by simp)⟩
  have hu : (frozen C W).ext ⟨ρ L, 0, none⟩ = some (.slice (some ⟨ρ b, 0, none⟩) pix.length c) := by
    have := fr_cell hR hL (j := 0) rfl (by simp)
    simpa [V.real, hc] using this
  refine encoded_spec _ (pxG w pix) w h 5 [.raw (.pointer (some ⟨ρ p, 0, none⟩)), .raw (.pointer (some ⟨ρ wd, 0, none⟩))] (by exact hP) rfl ⟨fun k x y => ?_, rfl, ?_, fun M' x y hx hy => ?_⟩ hw hh true q hq
  · unfold pxG; split
    · exact gI_b hpi _
    · omega
  · show callable C.P 5 = true
    rw [hP]; kernel_rfl
  · exact at5_ok w h (by exact hP) (ρ p) (ρ wd) (ρ L) 1 1 hA (by omega) _ pix ⟨_, hu, rfl⟩ hrow hpl (gI_b hpi) hw.2 hh.2 x y hx hy M'

theorem ref_rgba (hP : C.P = Tryd.prog) (p wd L b : Nat) (kd h' r : Int) (pix : List Int) (T : Nat) (hp : M[p]? = some (.own [.int .i64 kd, .int .i64 w, .int .i64 h', .int .i64 r, .slice L 0 1 1] 30)) (hwd : M[wd]? = some (.own [.int .i64 w] 3)) (hL : M[L]? = some (.own [.vec b pix.length] 32)) (hb : M[b]? = some (.vec .u8 pix T))
    (hw : 0 < w ∧ w ≤ 40) (hh : 0 < h ∧ h ≤ 40) (hpl : pix.length = 4 * (w * h)) (hpi : ∀ x ∈ pix, 0 ≤ x ∧ x ≤ 255) (q : Int) (hq : 1 ≤ q ∧ q ≤ 100) :
    VCalls C 11 [.int .i64 w, .int .i64 h, .bool false, .int .i64 q, .fn 8 [.ptr wd 0, .ptr p 0], .fn 13 []] M [] fun v M' => v = .vec M.length (specBytes w h false q (pxR w pix)).length ∧ M' = M ++ [.vec .u8 (specBytes w h false q (pxR w pix)) 5] := by
  have hpos : 0 < w * h := Nat.mul_pos hw.1 hh.1
  refine freeze (fun ρ κ => [.int .i64 w, .int .i64 h, .bool false, .int .i64 q, .fn 8 [.raw (.pointer (some ⟨ρ wd, 0, none⟩)), .raw (.pointer (some ⟨ρ p, 0, none⟩))], .fn 13 []]) (fun _ _ _ _ => rfl) (fun _ _ => rfl) ?_
  intro ρ κ W hR
  obtain ⟨c, hc, hrow⟩ := fr_row hR hb (by omega)
  have hA : PicAt (frozen C W) w (ρ p) (ρ wd) (ρ L) 1 1 := ⟨fr_cell hR hwd (j := 0) rfl (by simp), fr_cell hR hp (j := 4) rfl (by simp)⟩
  have hu : (frozen C W).ext ⟨ρ L, 0, none⟩ = some (.slice (some ⟨ρ b, 0, none⟩) pix.length c) := by
    have := fr_cell hR hL (j := 0) rfl (by simp)
    simpa [V.real, hc] using this
  refine encoded_spec _ (pxR w pix) w h 8 [.raw (.pointer (some ⟨ρ wd, 0, none⟩)), .raw (.pointer (some ⟨ρ p, 0, none⟩))] (by exact hP) rfl ⟨fun k x y => ?_, rfl, ?_, fun M' x y hx hy => ?_⟩ hw hh false q hq
  · have hl := yccY_le (gI_b hpi (4 * (y * w + x))) (gI_b hpi (4 * (y * w + x) + 1)) (gI_b hpi (4 * (y * w + x) + 2))
    unfold isB at hl
    unfold pxR
    split
    · exact hl
    · split
      · exact cutN_le _
      · exact cutN_le _
  · show callable C.P 8 = true
    rw [hP]; kernel_rfl
  · exact at8_ok w h (by exact hP) (ρ p) (ρ wd) (ρ L) 1 1 hA (by omega) _ pix ⟨_, hu, rfl⟩ hrow hpl (fun i => gI_b hpi i) hw.2 hh.2 x y hx hy M'

theorem ref_ycc (hP : C.P = Tryd.prog) (p wd L b0 b1 b2 : Nat) (kd h' r : Int) (Y B R : List Int) (T : Nat) (hp : M[p]? = some (.own [.int .i64 kd, .int .i64 w, .int .i64 h', .int .i64 r, .slice L 0 3 3] 30)) (hwd : M[wd]? = some (.own [.int .i64 w] 3)) (hL : M[L]? = some (.own [.vec b0 Y.length, .vec b1 B.length, .vec b2 R.length] 32))
    (hb0 : M[b0]? = some (.vec .u8 Y T)) (hb1 : M[b1]? = some (.vec .u8 B T)) (hb2 : M[b2]? = some (.vec .u8 R T)) (hw : 0 < w ∧ w ≤ 40) (hh : 0 < h ∧ h ≤ 40) (lY : Y.length = w * h) (lB : B.length = w * h) (lR : R.length = w * h)
    (hY : ∀ x ∈ Y, 0 ≤ x ∧ x ≤ 255) (hB : ∀ x ∈ B, 0 ≤ x ∧ x ≤ 255) (hRb : ∀ x ∈ R, 0 ≤ x ∧ x ≤ 255) (q : Int) (hq : 1 ≤ q ∧ q ≤ 100) :
    VCalls C 11 [.int .i64 w, .int .i64 h, .bool false, .int .i64 q, .fn 7 [.ptr p 0, .ptr wd 0], .fn 13 []] M [] fun v M' => v = .vec M.length (specBytes w h false q (pxY w Y B R)).length ∧ M' = M ++ [.vec .u8 (specBytes w h false q (pxY w Y B R)) 5] := by
  have hpos : 0 < w * h := Nat.mul_pos hw.1 hh.1
  refine freeze (fun ρ κ => [.int .i64 w, .int .i64 h, .bool false, .int .i64 q, .fn 7 [.raw (.pointer (some ⟨ρ p, 0, none⟩)), .raw (.pointer (some ⟨ρ wd, 0, none⟩))], .fn 13 []]) (fun _ _ _ _ => rfl) (fun _ _ => rfl) ?_
  intro ρ κ W hR
  obtain ⟨c0, hc0, hrow0⟩ := fr_row hR hb0 (by omega)
  obtain ⟨c1, hc1, hrow1⟩ := fr_row hR hb1 (by omega)
  obtain ⟨c2, hc2, hrow2⟩ := fr_row hR hb2 (by omega)
  have hA : PicAt (frozen C W) w (ρ p) (ρ wd) (ρ L) 3 3 := ⟨fr_cell hR hwd (j := 0) rfl (by simp), fr_cell hR hp (j := 4) rfl (by simp)⟩
  have u0 : (frozen C W).ext ⟨ρ L, 0, none⟩ = some (.slice (some ⟨ρ b0, 0, none⟩) Y.length c0) := by
    have := fr_cell hR hL (j := 0) rfl (by simp)
    simpa [V.real, hc0] using this
  have u1 : (frozen C W).ext ⟨ρ L, 1, none⟩ = some (.slice (some ⟨ρ b1, 0, none⟩) B.length c1) := by
    have := fr_cell hR hL (j := 1) rfl (by simp)
    simpa [V.real, hc1] using this
  have u2 : (frozen C W).ext ⟨ρ L, 2, none⟩ = some (.slice (some ⟨ρ b2, 0, none⟩) R.length c2) := by
    have := fr_cell hR hL (j := 2) rfl (by simp)
    simpa [V.real, hc2] using this
  refine encoded_spec _ (pxY w Y B R) w h 7 [.raw (.pointer (some ⟨ρ p, 0, none⟩)), .raw (.pointer (some ⟨ρ wd, 0, none⟩))] (by exact hP) rfl ⟨fun k x y => ?_, rfl, ?_, fun M' x y hx hy => ?_⟩ hw hh false q hq
  · unfold pxY
    split
    · exact gI_b hY _
    · split
      · exact gI_b hB _
      · exact gI_b hRb _
  · show callable C.P 7 = true
    rw [hP]; kernel_rfl
  · exact at7_ok w h (by exact hP) (ρ p) (ρ wd) (ρ L) 3 3 hA (by omega) _ _ _ Y B R ⟨_, u0, rfl⟩ ⟨_, u1, rfl⟩ ⟨_, u2, rfl⟩ hrow0 hrow1 hrow2 lY lB lR hw.2 hh.2 x y hx hy M'
end
end Go.VM
end

section
set_option linter.unusedSimpArgs false
set_option maxRecDepth 10000
namespace Go.VM
open Go Go.Proofs Go.Bits

/-! The law, up to its picture. -/

section
variable {C : Ctx} {nv : V} {n : Nat}
theorem callK_pixels {n0 : Nat} {mv : List Nat} (hP : C.P = Tryd.prog) (hn : Nums C nv n) (k : Nat) (hk : k ≤ 90000) (m : Nat) (hm : m ≤ 10000) (R : Mem) {K : List Nat → V → Mem → Prop}
    (hK : ∀ (xs : List Int) (k' : Nat), PixOk xs m → k' ≤ k + 2 * m + 1 → K [] (.vec (R.length + 1) m) (mixer nv k' :: R ++ [.vec .u8 xs 5])) : callK C n0 mv 6 [.ptr 0 0, .int .i64 m] (mixer nv k :: R) K := by
  refine callK_fr [0] (pixels_spec C hP nv n hn m hm k hk) rfl (by simp) (by simp) ⟨by rw [mixer_ren hn]; rfl, trivial⟩ rfl (mixer_cl hn k) rfl ?_
  rintro _ _ ⟨xs, k', h0, h1, rfl, rfl⟩ -
  have hm' : merge (mixer nv k :: R) [0] [mixer nv k', .vec .u8 xs 5] = mixer nv k' :: R ++ [.vec .u8 xs 5] := by
    simp only [merge, List.map_cons, List.map_nil, mixer_ren hn]
    simp [setAll, Blk.ren]
  rw [hm']
  have hv : V.ren (fpσ [0] (mixer nv k :: R).length) (.vec 1 m) = .vec (R.length + 1) m := by simp [V.ren, fpσ]
  rw [hv]
  exact hK xs k' h0 h1

theorem pxR_ok {w : Nat} {pix : List Int} (hb : ∀ x ∈ pix, 0 ≤ x ∧ x ≤ 255) : PxOk (pxR w pix) := by
  refine ⟨fun k x y => ?_⟩
  have hl := yccY_le (gI_b hb (4 * (y * w + x))) (gI_b hb (4 * (y * w + x) + 1)) (gI_b hb (4 * (y * w + x) + 2))
  unfold isB at hl
  unfold pxR
  split
  · exact hl
  · split
    · exact cutN_le _
    · exact cutN_le _
theorem pxY_ok {w : Nat} {Y B D : List Int} (h0 : ∀ x ∈ Y, 0 ≤ x ∧ x ≤ 255) (h1 : ∀ x ∈ B, 0 ≤ x ∧ x ≤ 255) (h2 : ∀ x ∈ D, 0 ≤ x ∧ x ≤ 255) : PxOk (pxY w Y B D) := by
  refine ⟨fun k x y => ?_⟩
  unfold pxY
  split
  · exact gI_b h0 _
  · split
    · exact gI_b h1 _
    · exact gI_b h2 _
theorem vop_mkfn2 {e : Env} {M : Mem} {g i j b b' o o' : Nat} (h1 : e.get i = .ptr b o) (h2 : e.get j = .ptr b' o') : vop C e M (.mkfn g [.t i, .t j]) = some (.fn g [.ptr b o, .ptr b' o'], M) := by
  have : ([X.t i, X.t j].map (X.ev e)) = [.ptr b o, .ptr b' o'] := by simp [X.ev, h1, h2]
  rw [vop_mkfn (by rw [this]; rfl), this]

/-- the law's picture, before its rows -/
def PicM (nv : V) (k w h kd : Nat) : Mem := [mixer nv k, .own [.int .i64 w] 3, .own [.int .i64 kd, .int .i64 w, .int .i64 h, .int .i64 (-1), .nils] 30]

theorem law_head (hP : C.P = Tryd.prog) (hn : Nums C nv n) (t1 : Int) (ht1 : 0 ≤ t1 ∧ t1 ≤ 255) (v2 v3 : V) (R : V → Mem → Prop)
    (hR : R (.bool true) [])
    (hk : ∀ (e : Env) (w h kd : Nat), 0 < w ∧ w ≤ 40 → 0 < h ∧ h ≤ 40 → kd = 1 ∨ kd = 2 ∨ kd = 3 → e.get 2 = v2 → e.get 3 = v3 → e.get 9 = .ptr 0 0 → e.get 10 = .ptr 1 0 → e.get 11 = .int .i64 h → e.get 12 = .ptr 2 0 → e.get 13 = .fn 5 [.ptr 2 0, .ptr 1 0] →
      VWp C 0 [] c3k e (PicM nv 2 w h kd) (fnPost 0 [.tmp 8] R)) :
    VCalls C 3 [nv, .int .u8 t1, v2, v3] [] [] R := by
  refine VCalls.of_fn (hs := h3) (F := F3) (by rw [hP]; exact is3) (by simp [F3]) ?_
  simp -implicitDefEqProofs only [vms, ↓reduceIte, Nat.reduceEqDiff, Nat.reduceAdd, reduceCtorEq, F3, c3, hn.len]
  apply condGo_dec <;> intro h1
  · simp -implicitDefEqProofs only [vms, ↓reduceIte, Nat.reduceEqDiff, reduceCtorEq]
    show retGo 0 (some (.bool true)) _ _
    exact retGo_refl hR
  simp -implicitDefEqProofs only [vms, ↓reduceIte, Nat.reduceEqDiff, reduceCtorEq, hn.len]
  apply condGo_dec <;> intro h2
  · simp -implicitDefEqProofs only [vms, ↓reduceIte, Nat.reduceEqDiff, reduceCtorEq]
    show retGo 0 (some (.bool true)) _ _
    exact retGo_refl hR
  have f1 : vfill [(0, 1, nv)] (.agg [.nils, .int .i64 0]) = some (.agg [nv, .int .i64 0]) := by
    simp only [vfill, hn.cells]; rfl
  have hbx : vbox 26 (.agg [nv, .int .i64 0]) = some (mixer nv 0) := by
    have hk0 : V.known (.int .i64 0) = true := rfl
    simp only [vbox, List.all_cons, List.all_nil, hn.known, hk0, Bool.and_true, if_true]
    rfl
  obtain ⟨r, hr3, hrem⟩ : ∃ r : Nat, r < 3 ∧ vbin .rem (.int .u8 t1) (.int .u8 3) = some (.int .u8 (r : Int)) := by
    refine ⟨(t1 % 3).toNat, by omega, ?_⟩
    rw [vbin_rem (by decide), Int.tmod_eq_emod_of_nonneg ht1.1]
    congr 2
    omega
  have wr : IntKind.i64.wrap (r : Int) = (r : Int) := wrap_i64_id (by omega) (by omega)
  have wr1 : IntKind.i64.wrap (1 + (r : Int)) = ((r + 1 : Nat) : Int) := by rw [wrap_i64_id (by omega) (by omega)]; omega
  simp -implicitDefEqProofs only [vms, ↓reduceIte, Nat.reduceEqDiff, reduceCtorEq, Int.reduceNeg, c3a, f1, hbx]
  refine callK_below hP hn 0 (by omega) 40 (by omega) (by omega) [] ?_
  intro a ha
  have wa : IntKind.i64.wrap (1 + (a : Int)) = ((a + 1 : Nat) : Int) := by rw [wrap_i64_id (by omega) (by omega)]; omega
  simp -implicitDefEqProofs only [vms, ↓reduceIte, Nat.reduceEqDiff, Int.reduceNeg, callC, wa]
  refine callK_below hP hn 1 (by omega) 40 (by omega) (by omega) [] ?_
  intro b hb
  have wb : IntKind.i64.wrap (1 + (b : Int)) = ((b + 1 : Nat) : Int) := by rw [wrap_i64_id (by omega) (by omega)]; omega
  have f2 : vfill [(0, 1, .int .i64 ((r + 1 : Nat) : Int)), (1, 1, .int .i64 ((a + 1 : Nat) : Int)), (2, 1, .int .i64 ((b + 1 : Nat) : Int)), (3, 1, .int .i64 (-1))] (.agg [.int .i64 0, .int .i64 0, .int .i64 0, .int .i64 0, .nils]) = some (.agg [.int .i64 ((r + 1 : Nat) : Int), .int .i64 ((a + 1 : Nat) : Int), .int .i64 ((b + 1 : Nat) : Int), .int .i64 (-1), .nils]) := rfl
  have hst : ∀ A B : Blk, stGo [A, B, .own [.int .i64 0, .int .i64 0, .int .i64 0, .int .i64 0, .nils] 30] 5 (.agg [.int .i64 ((r + 1 : Nat) : Int), .int .i64 ((a + 1 : Nat) : Int), .int .i64 ((b + 1 : Nat) : Int), .int .i64 (-1), .nils]) (.ptr 2 0) = some (.undef, [A, B, .own [.int .i64 ((r + 1 : Nat) : Int), .int .i64 ((a + 1 : Nat) : Int), .int .i64 ((b + 1 : Nat) : Int), .int .i64 (-1), .nils] 30]) := fun _ _ => rfl
  simp -implicitDefEqProofs only [vms, ↓reduceIte, Nat.reduceEqDiff, Nat.reduceAdd, Int.reduceNeg, callC, wb, hrem, wr, wr1, f2, hst, @vop_mkfn2 C _ _ 5 12 10 2 1 0 0]
  refine hk _ (a + 1) (b + 1) (r + 1) (by omega) (by omega) (by omega) ?_ ?_ ?_ ?_ ?_ ?_ ?_ <;> simp -implicitDefEqProofs only [vms, ↓reduceIte, Nat.reduceEqDiff]
end
end Go.VM
end
