/-
  A part of a machine over the model and of a walk by it, proved right against the model; proved outright, under no condition but what each theorem names.
-/
import Derived.Test.YtahmhofnilgfgaaDoorFZtoGB
import Derived.Test.YtahmhofnilgfgaaDoorFFtoFJ
set_option linter.unusedVariables false
set_option linter.unusedSimpArgs false
section
set_option linter.unusedSimpArgs false
namespace Go.VM
open Go Go.Proofs Go.Bits

/-! The encoder's blocks of a picture: luma and chroma. -/

def yccImg (T a n w h : Nat) : Blk := .own (.vec a n :: .vec (a + 1) n :: .vec (a + 2) n :: .int .i64 w :: .int .i64 w :: .int .i64 0 :: imgR w h) T

structure YccOk (w h : Nat) (y cb cr : List Int) (px : Nat → Nat → Nat → Int) : Prop where
  l0 : y.length = w * h
  l1 : cb.length = w * h
  l2 : cr.length = w * h
  b : ∀ i, isB (gI y i) ∧ isB (gI cb i) ∧ isB (gI cr i)
  p0 : ∀ u v, u < w → v < h → px 0 u v = gI y (v * w + u)
  p1 : ∀ u v, u < w → v < h → px 1 u v = gI cb (v * w + u)
  p2 : ∀ u v, u < w → v < h → px 2 u v = gI cr (v * w + u)

section
variable (C : Ctx) (w h : Nat)
theorem yoff (hP : C.P = Tryd.prog) (fn : Nat) (hfn : fn = 76 ∨ fn = 77) (M : Mem) (T a n b : Nat) (hb : M[b]? = some (yccImg T a n w h)) (x y : Nat) (hw : w ≤ 40) (hh : h ≤ 40) (hx : x < w) (hy : y < h) :
    VCalls C fn [.ptr b 0, .int .i64 x, .int .i64 y] M [] (fun v M' => v = .int .i64 (y * w + x : Nat) ∧ M' = M) := by
  have hlt : y * w + x < w * h := idx_lt hx hy
  have hwh : w * h ≤ 40 * 40 := Nat.mul_le_mul hw hh
  have e1 : IntKind.i64.wrap ((y : Int) - 0) = (y : Int) := by rw [wrap_i64_id (by omega) (by omega)]; omega
  have e2 : IntKind.i64.wrap ((x : Int) - 0) = (x : Int) := by rw [wrap_i64_id (by omega) (by omega)]; omega
  have e3 : IntKind.i64.wrap ((y : Int) * (w : Int)) = ((y * w : Nat) : Int) := by
    have : (y : Int) * (w : Int) = ((y * w : Nat) : Int) := by simp
    rw [this, wrap_i64_id (by omega) (by omega)]
  have e5 : IntKind.i64.wrap (((y * w : Nat) : Int) + (x : Int)) = ((y * w + x : Nat) : Int) := by rw [wrap_i64_id (by omega) (by omega)]; omega
  rcases hfn with rfl | rfl
  · refine VCalls.of_fn (hs := kz c76) (F := F76) (by rw [hP]; exact is76) (by simp [F76]) ?_
    simp -implicitDefEqProofs only [vms, ↓reduceIte, Nat.reduceEqDiff, Nat.reduceAdd, reduceCtorEq, F76, c76, hb, yccImg, imgR, e1, e2, e3, e5]
    exact retGo_refl ⟨rfl, rfl⟩
  · refine VCalls.of_fn (hs := kz c77) (F := F77) (by rw [hP]; exact is77) (by simp [F77]) ?_
    simp -implicitDefEqProofs only [vms, ↓reduceIte, Nat.reduceEqDiff, Nat.reduceAdd, reduceCtorEq, Int.reduceEq, F77, c77, hb, yccImg, imgR, e1, e2, e3, e5]
    exact retGo_refl ⟨rfl, rfl⟩

theorem bounds2 (hP : C.P = Tryd.prog) (M : Mem) (hM : memCl M.length M = true) (T a n b : Nat) (hb : M[b]? = some (yccImg T a n w h)) :
    VCalls C 75 [.ptr b 0] M [] (fun v M' => v = .agg (imgR w h) ∧ M' = M) := by
  have hlt : b < M.length := (List.getElem?_eq_some_iff.1 hb).1
  have hb2 : ∀ B : Blk, (M ++ [B])[b]? = some (yccImg T a n w h) := fun B => by rw [List.getElem?_append_left hlt, hb]
  have rr : rangeB (some (yccImg T a n w h)) 6 4 = some (.agg (imgR w h)) := rfl
  have rr2 : rangeB (some (.own (imgR w h) 89)) 0 4 = some (.agg (imgR w h)) := rfl
  have l1 : ∀ B : Blk, (M ++ [B])[M.length]? = some B := fun B => by simp
  have hst : stGo (M ++ [Blk.own [.int .i64 0, .int .i64 0, .int .i64 0, .int .i64 0] 89]) 4 (.agg (imgR w h)) (.ptr M.length 0) = some (.undef, M ++ [.own (imgR w h) 89]) := by
    rw [stGo_agg (n := 4) (vs := imgR w h) (T := 89) (cs := [.int .i64 0, .int .i64 0, .int .i64 0, .int .i64 0]) (l1 _) (by decide) rfl rfl rfl]
    simp
  refine VCalls.of_fn (hs := kz c75) (F := F75) (by rw [hP]; exact is75) (by simp [F75]) ?_
  simp -implicitDefEqProofs only [vms, ↓reduceIte, Nat.reduceEqDiff, reduceCtorEq, F75, c75, range_eqB, hb2, rr, hst, l1, rr2]
  exact retGo_take M.length (Nat.le_refl _) (by simp) rfl (by simpa using hM) ⟨rfl, by simp⟩

def YM (T w h : Nat) (Y B R blk cb cr : List Int) (x y : Nat) : Mem :=
  [yccImg T 1 (w * h) w h, .vec .u8 Y 5, .vec .u8 B 5, .vec .u8 R 5, .ints .i32 blk 146, .ints .i32 cb 147, .ints .i32 cr 147, .own [.int .i64 x, .int .i64 y] 87, .own (imgR w h) 89]

theorem ycc_in (hP : C.P = Tryd.prog) (T : Nat) (hw : 0 < w ∧ w ≤ 40) (hh : 0 < h ∧ h ≤ 40) (Y B R : List Int) (px : Nat → Nat → Nat → Int) (hpx : YccOk w h Y B R px)
    (blk cb cr : List Int) (hbl : blk.length = 64) (hcb : cb.length = 256) (hcr : cr.length = 256) (o : Nat) (ho : o + 64 ≤ 256) (x y : Nat) (hx : x < 60) (hy : y < 60) (j : Nat) (hj : j < 8) (Q : VX → Env → Mem → Prop) :
    ∀ (d i : Nat), i + d = 8 →
      (∀ l : Env, Q (.exit 2) ((0, .ptr 0 0) :: (2, .ptr 4 0) :: (3, .ptr 5 o) :: (4, .ptr 6 o) :: (6, .ptr 7 0) :: (11, .int .i64 (w - 1 : Nat)) :: (12, .int .i64 (h - 1 : Nat)) :: (13, .int .i64 j) :: l)
        (YM T w h Y B R (curO blk 0 (FB px w h x y 0) (8 * j + 8)) (curO cb o (FB px w h x y 1) (8 * j + 8)) (curO cr o (FB px w h x y 2) (8 * j + 8)) x y)) →
      VRounds 7 (VWp C 7 [] c64l0) (d + 1) [(0, .ptr 0 0), (2, .ptr 4 0), (3, .ptr 5 o), (4, .ptr 6 o), (6, .ptr 7 0), (11, .int .i64 (w - 1 : Nat)), (12, .int .i64 (h - 1 : Nat)), (13, .int .i64 j), (14, .int .i64 (mn (y + j) (h - 1) : Nat)), (15, .int .i64 i)]
        (YM T w h Y B R (curO blk 0 (FB px w h x y 0) (8 * j + i)) (curO cb o (FB px w h x y 1) (8 * j + i)) (curO cr o (FB px w h x y 2) (8 * j + i)) x y) Q := by
  intro d
  induction d with
  | zero =>
    intro i hi hQ
    refine round_gen fun K1 hK1 => ?_
    have h8 : i = 8 := by omega
    subst h8
    simp -implicitDefEqProofs only [vms, ↓reduceIte, Nat.reduceEqDiff, reduceCtorEq, natCast_lit, Int.reduceLT, c64l0]
    rw [hK1]
    exact hQ _
  | succ d ih =>
    intro i hi hQ
    refine round_gen fun K1 hK1 => ?_
    have hd : decide ((i : Int) < 8) = true := by simp; omega
    have hwi : IntKind.i64.wrap ((i : Int) + 1) = ((i + 1 : Nat) : Int) := by rw [wrap_i64_id (by omega) (by omega)]; rfl
    have wx : IntKind.i64.wrap ((x : Int) + (i : Int)) = ((x + i : Nat) : Int) := by rw [wrap_i64_id (by omega) (by omega)]; omega
    have main : ∀ (s : Nat) (l : Env), s = mn (x + i) (w - 1) → VWp C 7 [] c64t ((0, .ptr 0 0) :: (2, .ptr 4 0) :: (3, .ptr 5 o) :: (4, .ptr 6 o) :: (6, .ptr 7 0) :: (11, .int .i64 (w - 1 : Nat)) :: (12, .int .i64 (h - 1 : Nat)) :: (13, .int .i64 j) :: (14, .int .i64 (mn (y + j) (h - 1) : Nat)) :: (15, .int .i64 i) :: (16, .int .i64 s) :: l)
        (YM T w h Y B R (curO blk 0 (FB px w h x y 0) (8 * j + i)) (curO cb o (FB px w h x y 1) (8 * j + i)) (curO cr o (FB px w h x y 2) (8 * j + i)) x y)
        (blockK 3 (seqV C 7 [] (.reg [.op none (some 43) (.mov (.t 15)), .op none (some 44) (.bin .add (.t 43) (.c (.int .i64 1))), .op none (some 15) (.mov (.t 44))] [0, 2, 3, 4, 6, 11, 12, 13, 14, 15]) K1)) := by
      intro s l hs
      have hxl := mn_le (x + i) (w - 1)
      have hyl := mn_le (y + j) (h - 1)
      rw [← hs] at hxl
      generalize hS : mn (y + j) (h - 1) = sj at *
      have hlt : sj * w + s < w * h := idx_lt (by omega) (by omega)
      have hb0 := hpx.b (sj * w + s)
      have l0 := hpx.l0
      have l1 := hpx.l1
      have l2 := hpx.l2
      have v0 : gI Y (sj * w + s) = FB px w h x y 0 (8 * j + i) := by rw [← hpx.p0 s sj (by omega) (by omega)]; simp only [FB]; rw [show (8 * j + i) % 8 = i by omega, show (8 * j + i) / 8 = j by omega, hS, ← hs]
      have v1 : gI B (sj * w + s) = FB px w h x y 1 (8 * j + i) := by rw [← hpx.p1 s sj (by omega) (by omega)]; simp only [FB]; rw [show (8 * j + i) % 8 = i by omega, show (8 * j + i) / 8 = j by omega, hS, ← hs]
      have v2 : gI R (sj * w + s) = FB px w h x y 2 (8 * j + i) := by rw [← hpx.p2 s sj (by omega) (by omega)]; simp only [FB]; rw [show (8 * j + i) % 8 = i by omega, show (8 * j + i) / 8 = j by omega, hS, ← hs]
      have y1 := fun M hM => yoff C w h hP 76 (.inl rfl) M T 1 (w * h) 0 hM s sj hw.2 hh.2 (by omega) (by omega)
      have y2 := fun M hM => yoff C w h hP 77 (.inr rfl) M T 1 (w * h) 0 hM s sj hw.2 hh.2 (by omega) (by omega)
      generalize sj * w + s = I at *
      have i1 : ∀ A D E F G H K L : Blk, vidxS [A, .vec .u8 Y 5, D, E, F, G, H, K, L] 1 (.vec 1 (w * h)) (.int .i64 (I : Int)) = some (.ptr 1 I) := fun A D E F G H K L => by
        rw [vidxS_vec rfl l0 (by omega) (by omega)]; simp
      have i2 : ∀ A D E F G H K L : Blk, vidxS [A, D, .vec .u8 B 5, E, F, G, H, K, L] 1 (.vec 2 (w * h)) (.int .i64 (I : Int)) = some (.ptr 2 I) := fun A D E F G H K L => by
        rw [vidxS_vec rfl l1 (by omega) (by omega)]; simp
      have i3 : ∀ A D E F G H K L : Blk, vidxS [A, D, E, .vec .u8 R 5, F, G, H, K, L] 1 (.vec 3 (w * h)) (.int .i64 (I : Int)) = some (.ptr 3 I) := fun A D E F G H K L => by
        rw [vidxS_vec rfl l2 (by omega) (by omega)]; simp
      have g0 : cellB (some (.vec .u8 Y 5)) I = some (.int .u8 (FB px w h x y 0 (8 * j + i))) := by rw [← v0]; exact cellB_vec (gI_get _ _ (by omega))
      have g1 : cellB (some (.vec .u8 B 5)) I = some (.int .u8 (FB px w h x y 1 (8 * j + i))) := by rw [← v1]; exact cellB_vec (gI_get _ _ (by omega))
      have g2 : cellB (some (.vec .u8 R 5)) I = some (.int .u8 (FB px w h x y 2 (8 * j + i))) := by rw [← v2]; exact cellB_vec (gI_get _ _ (by omega))
      rw [v0, v1, v2] at hb0
      unfold isB at hb0
      have c0 : IntKind.i32.wrap (FB px w h x y 0 (8 * j + i)) = FB px w h x y 0 (8 * j + i) := wrap_i32_id (by omega) (by omega)
      have c1 : IntKind.i32.wrap (FB px w h x y 1 (8 * j + i)) = FB px w h x y 1 (8 * j + i) := wrap_i32_id (by omega) (by omega)
      have c2 : IntKind.i32.wrap (FB px w h x y 2 (8 * j + i)) = FB px w h x y 2 (8 * j + i) := wrap_i32_id (by omega) (by omega)
      have w8 : IntKind.i64.wrap (8 * (j : Int)) = ((8 * j : Nat) : Int) := by rw [wrap_i64_id (by omega) (by omega)]; omega
      have w9 : IntKind.i64.wrap (((8 * j : Nat) : Int) + (i : Int)) = ((8 * j + i : Nat) : Int) := by rw [wrap_i64_id (by omega) (by omega)]; omega
      have ia : ∀ b o, vidxA 64 1 (.ptr b o) (.int .i64 ((8 * j + i : Nat) : Int)) = some (.ptr b (o + (8 * j + i))) := fun b o => by rw [vidxA_ptr (by omega) (by omega), Int.toNat_natCast, Nat.mul_one]
      have pb : ∀ (N : Mem) (b : Nat) (l : List Int) (o' k T : Nat), o' + (8 * j + i) < l.length → putB N b (o' + (8 * j + i)) (.int .i32 (FB px w h x y k (8 * j + i))) (some (.ints .i32 (curO l o' (FB px w h x y k) (8 * j + i)) T)) = some (.undef, N.set b (.ints .i32 (curO l o' (FB px w h x y k) (8 * j + i + 1)) T)) := fun N b l o' k T hl => by
        rw [putB_ints (by rw [curO_len]; exact hl), curO_set l o' _ _ hl]
      have pb0 := fun N => pb N 4 blk 0 0 146 (by omega)
      have pb1 := fun N => pb N 5 cb o 1 147 (by omega)
      have pb2 := fun N => pb N 6 cr o 2 147 (by omega)
      have ia0 := ia 4 0
      rw [Nat.zero_add] at ia0
      simp only [Nat.zero_add] at pb0
      have m0 : cellB (some (yccImg T 1 (w * h) w h)) 0 = some (.vec 1 (w * h)) := rfl
      have m1 : cellB (some (yccImg T 1 (w * h) w h)) 1 = some (.vec 2 (w * h)) := rfl
      have m2 : cellB (some (yccImg T 1 (w * h) w h)) 2 = some (.vec 3 (w * h)) := rfl
      simp -implicitDefEqProofs only [vms, ↓reduceIte, Nat.reduceEqDiff, reduceCtorEq, c64t, YM]
      refine callK_of [] rfl (by simp) (y1 _ rfl) ?_
      rintro _ _ ⟨rfl, rfl⟩
      simp -implicitDefEqProofs only [vms, ↓reduceIte, Nat.reduceEqDiff, reduceCtorEq, callC]
      refine callK_of [] rfl (by simp) (y2 _ rfl) ?_
      rintro _ _ ⟨rfl, rfl⟩
      simp -implicitDefEqProofs only [vms, ↓reduceIte, Nat.reduceEqDiff, reduceCtorEq, callC, m0, m1, m2, i1, i2, i3, g0, g1, g2, c0, c1, c2, w8, w9, ia0, ia 5 o, ia 6 o, pb0, pb1, pb2, hwi]
      rw [hK1, roundK_normal]
      exact ih (i + 1) (by omega) hQ
    simp -implicitDefEqProofs only [vms, ↓reduceIte, Nat.reduceEqDiff, reduceCtorEq, c64l0, hd, YM, wx]
    apply condGo_dec <;> intro hgt
    · simp -implicitDefEqProofs only [vms, ↓reduceIte, Nat.reduceEqDiff, reduceCtorEq]
      exact main _ _ (by unfold mn; omega)
    · simp -implicitDefEqProofs only [vms]
      exact main _ _ (by unfold mn; omega)

theorem ycc_out (hP : C.P = Tryd.prog) (T : Nat) (hw : 0 < w ∧ w ≤ 40) (hh : 0 < h ∧ h ≤ 40) (Y B R : List Int) (px : Nat → Nat → Nat → Int) (hpx : YccOk w h Y B R px)
    (blk cb cr : List Int) (hbl : blk.length = 64) (hcb : cb.length = 256) (hcr : cr.length = 256) (o : Nat) (ho : o + 64 ≤ 256) (x y : Nat) (hx : x < 60) (hy : y < 60) (Q : VX → Env → Mem → Prop) :
    ∀ (d j : Nat), j + d = 8 →
      (∀ l : Env, Q (.exit 0) l (YM T w h Y B R (curO blk 0 (FB px w h x y 0) 64) (curO cb o (FB px w h x y 1) 64) (curO cr o (FB px w h x y 2) 64) x y)) →
      VRounds 7 (VWp C 7 [] c64l1) (d + 1) [(0, .ptr 0 0), (2, .ptr 4 0), (3, .ptr 5 o), (4, .ptr 6 o), (6, .ptr 7 0), (11, .int .i64 (w - 1 : Nat)), (12, .int .i64 (h - 1 : Nat)), (13, .int .i64 j)]
        (YM T w h Y B R (curO blk 0 (FB px w h x y 0) (8 * j)) (curO cb o (FB px w h x y 1) (8 * j)) (curO cr o (FB px w h x y 2) (8 * j)) x y) Q := by
  intro d
  induction d with
  | zero =>
    intro j hi hQ
    refine round_gen fun K1 hK1 => ?_
    have h8 : j = 8 := by omega
    subst h8
    simp -implicitDefEqProofs only [vms, ↓reduceIte, Nat.reduceEqDiff, reduceCtorEq, natCast_lit, Int.reduceLT, Nat.reduceMul, c64l1]
    rw [hK1]
    exact hQ _
  | succ d ih =>
    intro j hi hQ
    refine round_gen fun K1 hK1 => ?_
    have hd : decide ((j : Int) < 8) = true := by simp; omega
    have hwi : IntKind.i64.wrap ((j : Int) + 1) = ((j + 1 : Nat) : Int) := by rw [wrap_i64_id (by omega) (by omega)]; rfl
    have wy : IntKind.i64.wrap ((y : Int) + (j : Int)) = ((y + j : Nat) : Int) := by rw [wrap_i64_id (by omega) (by omega)]; omega
    have main : ∀ (s : Nat) (l : Env), s = mn (y + j) (h - 1) → VWp C 7 [] c64u ((0, .ptr 0 0) :: (2, .ptr 4 0) :: (3, .ptr 5 o) :: (4, .ptr 6 o) :: (6, .ptr 7 0) :: (11, .int .i64 (w - 1 : Nat)) :: (12, .int .i64 (h - 1 : Nat)) :: (13, .int .i64 j) :: (14, .int .i64 s) :: l)
        (YM T w h Y B R (curO blk 0 (FB px w h x y 0) (8 * j)) (curO cb o (FB px w h x y 1) (8 * j)) (curO cr o (FB px w h x y 2) (8 * j)) x y)
        (blockK 1 (seqV C 7 [] (.reg [.op none (some 31) (.mov (.t 13)), .op none (some 32) (.bin .add (.t 31) (.c (.int .i64 1))), .op none (some 13) (.mov (.t 32))] [0, 2, 3, 4, 6, 11, 12, 13]) K1)) := by
      intro s l hs
      subst hs
      simp -implicitDefEqProofs only [vms, ↓reduceIte, Nat.reduceEqDiff, reduceCtorEq, c64u]
      apply VWp_loop_of (k := 9)
      refine ycc_in C w h hP T hw hh Y B R px hpx blk cb cr hbl hcb hcr o ho x y hx hy j (by omega) _ 8 0 rfl ?_
      intro l
      simp -implicitDefEqProofs only [vms, ↓reduceIte, Nat.reduceEqDiff, reduceCtorEq, hwi]
      rw [hK1, roundK_normal]
      have := ih (j + 1) (by omega) hQ
      rwa [show 8 * (j + 1) = 8 * j + 8 by omega] at this
    simp -implicitDefEqProofs only [vms, ↓reduceIte, Nat.reduceEqDiff, reduceCtorEq, c64l1, hd, YM, wy]
    apply condGo_dec <;> intro hgt
    · simp -implicitDefEqProofs only [vms, ↓reduceIte, Nat.reduceEqDiff, reduceCtorEq]
      exact main _ _ (by unfold mn; omega)
    · simp -implicitDefEqProofs only [vms]
      exact main _ _ (by unfold mn; omega)

theorem yccb_spec (hP : C.P = Tryd.prog) (T : Nat) (hw : 0 < w ∧ w ≤ 40) (hh : 0 < h ∧ h ≤ 40) (Y B R : List Int) (px : Nat → Nat → Nat → Int) (hpx : YccOk w h Y B R px)
    (blk cb cr : List Int) (hbl : blk.length = 64) (hcb : cb.length = 256) (hcr : cr.length = 256) (o : Nat) (ho : o + 64 ≤ 256) (x y : Nat) (hx : x < 60) (hy : y < 60) :
    VCalls C 64 [.ptr 0 0, .agg [.int .i64 x, .int .i64 y], .ptr 4 0, .ptr 5 o, .ptr 6 o] ((YM T w h Y B R blk cb cr x y).take 7) []
      (fun v M' => v = .tup [] ∧ M' = (YM T w h Y B R (blkAt px 0 w h x y) (curO cb o (FB px w h x y 1) 64) (curO cr o (FB px w h x y 2) 64) x y).take 7) := by
  refine VCalls.of_fn (hs := h64) (F := F64) (by rw [hP]; exact is64) (by simp [F64]) ?_
  have vb : vbox 87 (.agg [.int .i64 x, .int .i64 y]) = some (.own [.int .i64 x, .int .i64 y] 87) := rfl
  have ao : ((imgR w h).all V.one) = true := rfl
  have il : (imgR w h).length = 4 := rfl
  have i2 : (imgR w h)[2]? = some (.int .i64 w) := rfl
  have i3 : (imgR w h)[3]? = some (.int .i64 h) := rfl
  have ww : IntKind.i64.wrap ((w : Int) - 1) = ((w - 1 : Nat) : Int) := by rw [wrap_i64_id (by omega) (by omega)]; omega
  have wh : IntKind.i64.wrap ((h : Int) - 1) = ((h - 1 : Nat) : Int) := by rw [wrap_i64_id (by omega) (by omega)]; omega
  simp -implicitDefEqProofs only [vms, ↓reduceIte, Nat.reduceEqDiff, Nat.reduceAdd, reduceCtorEq, F64, c64, YM, List.take_succ_cons, List.take_zero, vb]
  refine callK_of [] rfl (by simp) (bounds2 C w h hP _ rfl T 1 (w * h) 0 rfl) ?_
  rintro _ _ ⟨rfl, rfl⟩
  simp -implicitDefEqProofs only [vms, ↓reduceIte, Nat.reduceEqDiff, Nat.reduceAdd, reduceCtorEq, callC, stGo_putA, putA_own, ao, il, i2, i3, ww, wh]
  apply VWp_loop_of (k := 9)
  have := ycc_out C w h hP T hw hh Y B R px hpx blk cb cr hbl hcb hcr o ho x y hx hy
  have t := this (blockK 0 (fnPost 7 [] fun v M' => v = .tup [] ∧ M' = (YM T w h Y B R (blkAt px 0 w h x y) (curO cb o (FB px w h x y 1) 64) (curO cr o (FB px w h x y 2) 64) x y).take 7)) 8 0 rfl ?_
  · rw [Nat.mul_zero, curO_zero, curO_zero, curO_zero] at t
    exact t
  · intro l
    rw [curO_all _ _ _ hbl]
    simp -implicitDefEqProofs only [vms, vres_nil]
    exact retGo_take 7 (Nat.le_refl _) (by simp [YM]) rfl rfl ⟨rfl, rfl⟩
end
end Go.VM
end

section
set_option maxRecDepth 100000
set_option maxHeartbeats 0
namespace Go.VM
open Go Go.Proofs

/-! The average of two by two, by the encoder: a closed run over unknown numbers. -/
def segP (s : List Int) (k : Nat) : List Int := (List.range 64).map fun j => gI s (64 * k + j)
def avgW (p : List Int) (j : Nat) : Int := (w32 (w32 (w32 (w32 (gI p (j / 4 * 16 + j % 4 * 2) + gI p (j / 4 * 16 + j % 4 * 2 + 1)) + gI p (j / 4 * 16 + j % 4 * 2 + 8)) + gI p (j / 4 * 16 + j % 4 * 2 + 9)) + 2)).fdiv 4
def chrW (P : Nat → List Int) : List Int := (List.range 64).map fun i => avgW (P (rankC i / 16)) (rankC i % 16)
theorem scale_run (C : Ctx) (T0 T1 : Nat) (d0 d1 d2 d3 d4 d5 d6 d7 d8 d9 d10 d11 d12 d13 d14 d15 d16 d17 d18 d19 d20 d21 d22 d23 d24 d25 d26 d27 d28 d29 d30 d31 d32 d33 d34 d35 d36 d37 d38 d39 d40 d41 d42 d43 d44 d45 d46 d47 d48 d49 d50 d51 d52 d53 d54 d55 d56 d57 d58 d59 d60 d61 d62 d63 x0 x1 x2 x3 x4 x5 x6 x7 x8 x9 x10 x11 x12 x13 x14 x15 x16 x17 x18 x19 x20 x21 x22 x23 x24 x25 x26 x27 x28 x29 x30 x31 x32 x33 x34 x35 x36 x37 x38 x39 x40 x41 x42 x43 x44 x45 x46 x47 x48 x49 x50 x51 x52 x53 x54 x55 x56 x57 x58 x59 x60 x61 x62 x63 x64 x65 x66 x67 x68 x69 x70 x71 x72 x73 x74 x75 x76 x77 x78 x79 x80 x81 x82 x83 x84 x85 x86 x87 x88 x89 x90 x91 x92 x93 x94 x95 x96 x97 x98 x99 x100 x101 x102 x103 x104 x105 x106 x107 x108 x109 x110 x111 x112 x113 x114 x115 x116 x117 x118 x119 x120 x121 x122 x123 x124 x125 x126 x127 x128 x129 x130 x131 x132 x133 x134 x135 x136 x137 x138 x139 x140 x141 x142 x143 x144 x145 x146 x147 x148 x149 x150 x151 x152 x153 x154 x155 x156 x157 x158 x159 x160 x161 x162 x163 x164 x165 x166 x167 x168 x169 x170 x171 x172 x173 x174 x175 x176 x177 x178 x179 x180 x181 x182 x183 x184 x185 x186 x187 x188 x189 x190 x191 x192 x193 x194 x195 x196 x197 x198 x199 x200 x201 x202 x203 x204 x205 x206 x207 x208 x209 x210 x211 x212 x213 x214 x215 x216 x217 x218 x219 x220 x221 x222 x223 x224 x225 x226 x227 x228 x229 x230 x231 x232 x233 x234 x235 x236 x237 x238 x239 x240 x241 x242 x243 x244 x245 x246 x247 x248 x249 x250 x251 x252 x253 x254 x255 : Int) : runFn C (fun _ _ _ => none) 1000 F65 [.ptr 0 0, .ptr 1 0] [.ints .i32 [d0, d1, d2, d3, d4, d5, d6, d7, d8, d9, d10, d11, d12, d13, d14, d15, d16, d17, d18, d19, d20, d21, d22, d23, d24, d25, d26, d27, d28, d29, d30, d31, d32, d33, d34, d35, d36, d37, d38, d39, d40, d41, d42, d43, d44, d45, d46, d47, d48, d49, d50, d51, d52, d53, d54, d55, d56, d57, d58, d59, d60, d61, d62, d63] T0, .ints .i32 [x0, x1, x2, x3, x4, x5, x6, x7, x8, x9, x10, x11, x12, x13, x14, x15, x16, x17, x18, x19, x20, x21, x22, x23, x24, x25, x26, x27, x28, x29, x30, x31, x32, x33, x34, x35, x36, x37, x38, x39, x40, x41, x42, x43, x44, x45, x46, x47, x48, x49, x50, x51, x52, x53, x54, x55, x56, x57, x58, x59, x60, x61, x62, x63, x64, x65, x66, x67, x68, x69, x70, x71, x72, x73, x74, x75, x76, x77, x78, x79, x80, x81, x82, x83, x84, x85, x86, x87, x88, x89, x90, x91, x92, x93, x94, x95, x96, x97, x98, x99, x100, x101, x102, x103, x104, x105, x106, x107, x108, x109, x110, x111, x112, x113, x114, x115, x116, x117, x118, x119, x120, x121, x122, x123, x124, x125, x126, x127, x128, x129, x130, x131, x132, x133, x134, x135, x136, x137, x138, x139, x140, x141, x142, x143, x144, x145, x146, x147, x148, x149, x150, x151, x152, x153, x154, x155, x156, x157, x158, x159, x160, x161, x162, x163, x164, x165, x166, x167, x168, x169, x170, x171, x172, x173, x174, x175, x176, x177, x178, x179, x180, x181, x182, x183, x184, x185, x186, x187, x188, x189, x190, x191, x192, x193, x194, x195, x196, x197, x198, x199, x200, x201, x202, x203, x204, x205, x206, x207, x208, x209, x210, x211, x212, x213, x214, x215, x216, x217, x218, x219, x220, x221, x222, x223, x224, x225, x226, x227, x228, x229, x230, x231, x232, x233, x234, x235, x236, x237, x238, x239, x240, x241, x242, x243, x244, x245, x246, x247, x248, x249, x250, x251, x252, x253, x254, x255] T1] = some (.tup [], [.ints .i32 (chrW (segP [x0, x1, x2, x3, x4, x5, x6, x7, x8, x9, x10, x11, x12, x13, x14, x15, x16, x17, x18, x19, x20, x21, x22, x23, x24, x25, x26, x27, x28, x29, x30, x31, x32, x33, x34, x35, x36, x37, x38, x39, x40, x41, x42, x43, x44, x45, x46, x47, x48, x49, x50, x51, x52, x53, x54, x55, x56, x57, x58, x59, x60, x61, x62, x63, x64, x65, x66, x67, x68, x69, x70, x71, x72, x73, x74, x75, x76, x77, x78, x79, x80, x81, x82, x83, x84, x85, x86, x87, x88, x89, x90, x91, x92, x93, x94, x95, x96, x97, x98, x99, x100, x101, x102, x103, x104, x105, x106, x107, x108, x109, x110, x111, x112, x113, x114, x115, x116, x117, x118, x119, x120, x121, x122, x123, x124, x125, x126, x127, x128, x129, x130, x131, x132, x133, x134, x135, x136, x137, x138, x139, x140, x141, x142, x143, x144, x145, x146, x147, x148, x149, x150, x151, x152, x153, x154, x155, x156, x157, x158, x159, x160, x161, x162, x163, x164, x165, x166, x167, x168, x169, x170, x171, x172, x173, x174, x175, x176, x177, x178, x179, x180, x181, x182, x183, x184, x185, x186, x187, x188, x189, x190, x191, x192, x193, x194, x195, x196, x197, x198, x199, x200, x201, x202, x203, x204, x205, x206, x207, x208, x209, x210, x211, x212, x213, x214, x215, x216, x217, x218, x219, x220, x221, x222, x223, x224, x225, x226, x227, x228, x229, x230, x231, x232, x233, x234, x235, x236, x237, x238, x239, x240, x241, x242, x243, x244, x245, x246, x247, x248, x249, x250, x251, x252, x253, x254, x255])) T0, .ints .i32 [x0, x1, x2, x3, x4, x5, x6, x7, x8, x9, x10, x11, x12, x13, x14, x15, x16, x17, x18, x19, x20, x21, x22, x23, x24, x25, x26, x27, x28, x29, x30, x31, x32, x33, x34, x35, x36, x37, x38, x39, x40, x41, x42, x43, x44, x45, x46, x47, x48, x49, x50, x51, x52, x53, x54, x55, x56, x57, x58, x59, x60, x61, x62, x63, x64, x65, x66, x67, x68, x69, x70, x71, x72, x73, x74, x75, x76, x77, x78, x79, x80, x81, x82, x83, x84, x85, x86, x87, x88, x89, x90, x91, x92, x93, x94, x95, x96, x97, x98, x99, x100, x101, x102, x103, x104, x105, x106, x107, x108, x109, x110, x111, x112, x113, x114, x115, x116, x117, x118, x119, x120, x121, x122, x123, x124, x125, x126, x127, x128, x129, x130, x131, x132, x133, x134, x135, x136, x137, x138, x139, x140, x141, x142, x143, x144, x145, x146, x147, x148, x149, x150, x151, x152, x153, x154, x155, x156, x157, x158, x159, x160, x161, x162, x163, x164, x165, x166, x167, x168, x169, x170, x171, x172, x173, x174, x175, x176, x177, x178, x179, x180, x181, x182, x183, x184, x185, x186, x187, x188, x189, x190, x191, x192, x193, x194, x195, x196, x197, x198, x199, x200, x201, x202, x203, x204, x205, x206, x207, x208, x209, x210, x211, x212, x213, x214, x215, x216, x217, x218, x219, x220, x221, x222, x223, x224, x225, x226, x227, x228, x229, x230, x231, x232, x233, x234, x235, x236, x237, x238, x239, x240, x241, x242, x243, x244, x245, x246, x247, x248, x249, x250, x251, x252, x253, x254, x255] T1]) := by kernel_rfl
end Go.VM
end

section
set_option linter.unusedSimpArgs false
set_option maxRecDepth 100000
namespace Go.VM
open Go Go.Proofs Go.Bits

theorem callNone (C : Ctx) : CallOk C (fun _ _ _ => none) := by intro f vs M v M' h; cases h
theorem list256 (xs : List Int) (h : xs.length = 256) : [gI xs 0, gI xs 1, gI xs 2, gI xs 3, gI xs 4, gI xs 5, gI xs 6, gI xs 7, gI xs 8, gI xs 9, gI xs 10, gI xs 11, gI xs 12, gI xs 13, gI xs 14, gI xs 15, gI xs 16, gI xs 17, gI xs 18, gI xs 19, gI xs 20, gI xs 21, gI xs 22, gI xs 23, gI xs 24, gI xs 25, gI xs 26, gI xs 27, gI xs 28, gI xs 29, gI xs 30, gI xs 31, gI xs 32, gI xs 33, gI xs 34, gI xs 35, gI xs 36, gI xs 37, gI xs 38, gI xs 39, gI xs 40, gI xs 41, gI xs 42, gI xs 43, gI xs 44, gI xs 45, gI xs 46, gI xs 47, gI xs 48, gI xs 49, gI xs 50, gI xs 51, gI xs 52, gI xs 53, gI xs 54, gI xs 55, gI xs 56, gI xs 57, gI xs 58, gI xs 59, gI xs 60, gI xs 61, gI xs 62, gI xs 63, gI xs 64, gI xs 65, gI xs 66, gI xs 67, gI xs 68, gI xs 69, gI xs 70, gI xs 71, gI xs 72, gI xs 73, gI xs 74, gI xs 75, gI xs 76, gI xs 77, gI xs 78, gI xs 79, gI xs 80, gI xs 81, gI xs 82, gI xs 83, gI xs 84, gI xs 85, gI xs 86, gI xs 87, gI xs 88, gI xs 89, gI xs 90, gI xs 91, gI xs 92, gI xs 93, gI xs 94, gI xs 95, gI xs 96, gI xs 97, gI xs 98, gI xs 99, gI xs 100, gI xs 101, gI xs 102, gI xs 103, gI xs 104, gI xs 105, gI xs 106, gI xs 107, gI xs 108, gI xs 109, gI xs 110, gI xs 111, gI xs 112, gI xs 113, gI xs 114, gI xs 115, gI xs 116, gI xs 117, gI xs 118, gI xs 119, gI xs 120, gI xs 121, gI xs 122, gI xs 123, gI xs 124, gI xs 125, gI xs 126, gI xs 127, gI xs 128, gI xs 129, gI xs 130, gI xs 131, gI xs 132, gI xs 133, gI xs 134, gI xs 135, gI xs 136, gI xs 137, gI xs 138, gI xs 139, gI xs 140, gI xs 141, gI xs 142, gI xs 143, gI xs 144, gI xs 145, gI xs 146, gI xs 147, gI xs 148, gI xs 149, gI xs 150, gI xs 151, gI xs 152, gI xs 153, gI xs 154, gI xs 155, gI xs 156, gI xs 157, gI xs 158, gI xs 159, gI xs 160, gI xs 161, gI xs 162, gI xs 163, gI xs 164, gI xs 165, gI xs 166, gI xs 167, gI xs 168, gI xs 169, gI xs 170, gI xs 171, gI xs 172, gI xs 173, gI xs 174, gI xs 175, gI xs 176, gI xs 177, gI xs 178, gI xs 179, gI xs 180, gI xs 181, gI xs 182, gI xs 183, gI xs 184, gI xs 185, gI xs 186, gI xs 187, gI xs 188, gI xs 189, gI xs 190, gI xs 191, gI xs 192, gI xs 193, gI xs 194, gI xs 195, gI xs 196, gI xs 197, gI xs 198, gI xs 199, gI xs 200, gI xs 201, gI xs 202, gI xs 203, gI xs 204, gI xs 205, gI xs 206, gI xs 207, gI xs 208, gI xs 209, gI xs 210, gI xs 211, gI xs 212, gI xs 213, gI xs 214, gI xs 215, gI xs 216, gI xs 217, gI xs 218, gI xs 219, gI xs 220, gI xs 221, gI xs 222, gI xs 223, gI xs 224, gI xs 225, gI xs 226, gI xs 227, gI xs 228, gI xs 229, gI xs 230, gI xs 231, gI xs 232, gI xs 233, gI xs 234, gI xs 235, gI xs 236, gI xs 237, gI xs 238, gI xs 239, gI xs 240, gI xs 241, gI xs 242, gI xs 243, gI xs 244, gI xs 245, gI xs 246, gI xs 247, gI xs 248, gI xs 249, gI xs 250, gI xs 251, gI xs 252, gI xs 253, gI xs 254, gI xs 255] = xs := by
  have h1 : (List.range 256).map (gI xs) = xs := by
    apply List.ext_getElem?
    intro i
    simp only [List.getElem?_map]
    by_cases hi : i < 256
    · rw [List.getElem?_range hi, List.getElem?_eq_getElem (by omega)]
      simp [gI, List.getElem?_eq_getElem (show i < xs.length by omega)]
    · rw [List.getElem?_eq_none (by simpa using hi), List.getElem?_eq_none (by omega)]
      rfl
  exact h1
theorem chrW_eq (P : Nat → List Int) (h : ∀ k, k < 4 → BlkOk (P k)) : chrW P = chr P := by
  unfold chrW chr
  refine List.map_congr_left fun i hi => ?_
  have hr := (rank_ok i (by simpa using hi)).2.2.2
  unfold chrF avgW avgAt
  have hp := h (rankC i / 16) (by omega)
  generalize hj : rankC i % 16 = j
  have a0 := hp.b (j / 4 * 16 + j % 4 * 2) (by omega)
  have a1 := hp.b (j / 4 * 16 + j % 4 * 2 + 1) (by omega)
  have a8 := hp.b (j / 4 * 16 + j % 4 * 2 + 8) (by omega)
  have a9 := hp.b (j / 4 * 16 + j % 4 * 2 + 9) (by omega)
  unfold inB at a0 a1 a8 a9
  rw [w32_id (x := gI (P (rankC i / 16)) (j / 4 * 16 + j % 4 * 2) + gI (P (rankC i / 16)) (j / 4 * 16 + j % 4 * 2 + 1)) (by omega) (by omega), w32_id (x := _ + gI (P (rankC i / 16)) (j / 4 * 16 + j % 4 * 2 + 8)) (by omega) (by omega),
    w32_id (x := _ + gI (P (rankC i / 16)) (j / 4 * 16 + j % 4 * 2 + 9)) (by omega) (by omega), w32_id (x := _ + 2) (by omega) (by omega)]
  exact Int.fdiv_eq_ediv_of_nonneg _ (by decide)
theorem scale_spec (C : Ctx) (hP : C.P = Tryd.prog) (ds xs : List Int) (T0 T1 : Nat) (hd : ds.length = 64) (hx : xs.length = 256) (hb : ∀ k, k < 4 → BlkOk (segP xs k)) :
    VCalls C 65 [.ptr 0 0, .ptr 1 0] [.ints .i32 ds T0, .ints .i32 xs T1] [] (fun v M' => v = .tup [] ∧ M' = [.ints .i32 (chr (segP xs)) T0, .ints .i32 xs T1]) := by
  have h1 := list64 ds hd
  have h2 := list256 xs hx
  have r := scale_run C T0 T1 (gI ds 0) (gI ds 1) (gI ds 2) (gI ds 3) (gI ds 4) (gI ds 5) (gI ds 6) (gI ds 7) (gI ds 8) (gI ds 9) (gI ds 10) (gI ds 11) (gI ds 12) (gI ds 13) (gI ds 14) (gI ds 15) (gI ds 16) (gI ds 17) (gI ds 18) (gI ds 19) (gI ds 20) (gI ds 21) (gI ds 22) (gI ds 23) (gI ds 24) (gI ds 25) (gI ds 26) (gI ds 27) (gI ds 28) (gI ds 29) (gI ds 30) (gI ds 31) (gI ds 32) (gI ds 33) (gI ds 34) (gI ds 35) (gI ds 36) (gI ds 37) (gI ds 38) (gI ds 39) (gI ds 40) (gI ds 41) (gI ds 42) (gI ds 43) (gI ds 44) (gI ds 45) (gI ds 46) (gI ds 47) (gI ds 48) (gI ds 49) (gI ds 50) (gI ds 51) (gI ds 52) (gI ds 53) (gI ds 54) (gI ds 55) (gI ds 56) (gI ds 57) (gI ds 58) (gI ds 59) (gI ds 60) (gI ds 61) (gI ds 62) (gI ds 63) (gI xs 0) (gI xs 1) (gI xs 2) (gI xs 3) (gI xs 4) (gI xs 5) (gI xs 6) (gI xs 7) (gI xs 8) (gI xs 9) (gI xs 10) (gI xs 11) (gI xs 12) (gI xs 13) (gI xs 14) (gI xs 15) (gI xs 16) (gI xs 17) (gI xs 18) (gI xs 19) (gI xs 20) (gI xs 21) (gI xs 22) (gI xs 23) (gI xs 24) (gI xs 25) (gI xs 26) (gI xs 27) (gI xs 28) (gI xs 29) (gI xs 30) (gI xs 31) (gI xs 32) (gI xs 33) (gI xs 34) (gI xs 35) (gI xs 36) (gI xs 37) (gI xs 38) (gI xs 39) (gI xs 40) (gI xs 41) (gI xs 42) (gI xs 43) (gI xs 44) (gI xs 45) (gI xs 46) (gI xs 47) (gI xs 48) (gI xs 49) (gI xs 50) (gI xs 51) (gI xs 52) (gI xs 53) (gI xs 54) (gI xs 55) (gI xs 56) (gI xs 57) (gI xs 58) (gI xs 59) (gI xs 60) (gI xs 61) (gI xs 62) (gI xs 63) (gI xs 64) (gI xs 65) (gI xs 66) (gI xs 67) (gI xs 68) (gI xs 69) (gI xs 70) (gI xs 71) (gI xs 72) (gI xs 73) (gI xs 74) (gI xs 75) (gI xs 76) (gI xs 77) (gI xs 78) (gI xs 79) (gI xs 80) (gI xs 81) (gI xs 82) (gI xs 83) (gI xs 84) (gI xs 85) (gI xs 86) (gI xs 87) (gI xs 88) (gI xs 89) (gI xs 90) (gI xs 91) (gI xs 92) (gI xs 93) (gI xs 94) (gI xs 95) (gI xs 96) (gI xs 97) (gI xs 98) (gI xs 99) (gI xs 100) (gI xs 101) (gI xs 102) (gI xs 103) (gI xs 104) (gI xs 105) (gI xs 106) (gI xs 107) (gI xs 108) (gI xs 109) (gI xs 110) (gI xs 111) (gI xs 112) (gI xs 113) (gI xs 114) (gI xs 115) (gI xs 116) (gI xs 117) (gI xs 118) (gI xs 119) (gI xs 120) (gI xs 121) (gI xs 122) (gI xs 123) (gI xs 124) (gI xs 125) (gI xs 126) (gI xs 127) (gI xs 128) (gI xs 129) (gI xs 130) (gI xs 131) (gI xs 132) (gI xs 133) (gI xs 134) (gI xs 135) (gI xs 136) (gI xs 137) (gI xs 138) (gI xs 139) (gI xs 140) (gI xs 141) (gI xs 142) (gI xs 143) (gI xs 144) (gI xs 145) (gI xs 146) (gI xs 147) (gI xs 148) (gI xs 149) (gI xs 150) (gI xs 151) (gI xs 152) (gI xs 153) (gI xs 154) (gI xs 155) (gI xs 156) (gI xs 157) (gI xs 158) (gI xs 159) (gI xs 160) (gI xs 161) (gI xs 162) (gI xs 163) (gI xs 164) (gI xs 165) (gI xs 166) (gI xs 167) (gI xs 168) (gI xs 169) (gI xs 170) (gI xs 171) (gI xs 172) (gI xs 173) (gI xs 174) (gI xs 175) (gI xs 176) (gI xs 177) (gI xs 178) (gI xs 179) (gI xs 180) (gI xs 181) (gI xs 182) (gI xs 183) (gI xs 184) (gI xs 185) (gI xs 186) (gI xs 187) (gI xs 188) (gI xs 189) (gI xs 190) (gI xs 191) (gI xs 192) (gI xs 193) (gI xs 194) (gI xs 195) (gI xs 196) (gI xs 197) (gI xs 198) (gI xs 199) (gI xs 200) (gI xs 201) (gI xs 202) (gI xs 203) (gI xs 204) (gI xs 205) (gI xs 206) (gI xs 207) (gI xs 208) (gI xs 209) (gI xs 210) (gI xs 211) (gI xs 212) (gI xs 213) (gI xs 214) (gI xs 215) (gI xs 216) (gI xs 217) (gI xs 218) (gI xs 219) (gI xs 220) (gI xs 221) (gI xs 222) (gI xs 223) (gI xs 224) (gI xs 225) (gI xs 226) (gI xs 227) (gI xs 228) (gI xs 229) (gI xs 230) (gI xs 231) (gI xs 232) (gI xs 233) (gI xs 234) (gI xs 235) (gI xs 236) (gI xs 237) (gI xs 238) (gI xs 239) (gI xs 240) (gI xs 241) (gI xs 242) (gI xs 243) (gI xs 244) (gI xs 245) (gI xs 246) (gI xs 247) (gI xs 248) (gI xs 249) (gI xs 250) (gI xs 251) (gI xs 252) (gI xs 253) (gI xs 254) (gI xs 255)
  rw [h1, h2, chrW_eq _ hb] at r
  exact runFn_sound (callNone C) (hs := h65) (by rw [hP]; exact is65) (by simp [F65]) _ _ r
end Go.VM
end

section
set_option linter.unusedSimpArgs false
namespace Go.VM
open Go Go.Proofs Go.Bits

/-! The encoder's scan: gray. -/
theorem setAll_append : ∀ (is : List Nat) (bs : List Blk) (M : Mem) (is' : List Nat) (bs' : List Blk), is.length = bs.length → setAll M (is ++ is') (bs ++ bs') = setAll (setAll M is bs) is' bs'
  | [], [], _, _, _, _ => rfl
  | [], _ :: _, _, _, _, h => by simp at h
  | _ :: _, [], _, _, _, h => by simp at h
  | i :: is, b :: bs, M, is', bs', h => by
    simp only [List.cons_append, setAll]
    exact setAll_append is bs _ is' bs' (by simpa using h)

section
variable {C : Ctx} {n0 : Nat} {mv : List Nat}
/-- a call whose contract speaks of the memory's head and of one block more, which names none -/
theorem callK_pre1 {f : Nat} {vs vs0 : List V} {A A' : Mem} {B B' : Blk} {mv0 : List Nat} {v0 : V} {K : List Nat → V → Mem → Prop} (R : Mem) (k : Nat) (h : VCalls C f vs0 (A ++ [B]) mv0 fun v M' => v = v0 ∧ M' = A' ++ [B']) (hRk : R[k]? = some B) (hB : B.refs = []) (hB' : B'.refs = [])
    (hBr : ∀ σ, B.ren σ = B) (hBr' : ∀ σ, B'.ren σ = B')
    (hk : allKnown vs = true) (hl : A'.length = A.length) (hc0 : memCl A.length A = true) (hc1 : memCl A.length A' = true) (hv : v0.refs = []) (hvs0 : clB (A.length + 1) (V.refsL vs0) = true) (hvs : ∀ σ : Nat → Nat, (∀ i, i < A.length → σ i = i) → σ A.length = A.length + k → vs = V.renL σ vs0)
    (hmv : ∀ b ∈ mv0, n0 ≤ b ∨ b ∈ mv) (hml : clB A.length mv0 = true) (hR : (R.all fun B => B.refs.all fun r => !mv0.contains r) = true) (hK : K mv0 v0 (A' ++ R.set k B')) : callK C n0 mv f vs (A ++ R) K := by
  have hkl : k < R.length := (List.getElem?_eq_some_iff.1 hRk).1
  obtain ⟨σ, hσ⟩ : ∃ σ, σ = fpσ (List.range A.length ++ [A.length + k]) (A ++ R).length := ⟨_, rfl⟩
  have hs0 : ∀ i, i < A.length → σ i = i := by
    intro i hi
    rw [hσ]
    unfold fpσ
    rw [if_pos (by simp; omega), List.getD_eq_getElem?_getD, List.getElem?_append_left (by simpa using hi)]
    simp [hi]
  have hs1 : σ A.length = A.length + k := by
    rw [hσ]
    unfold fpσ
    rw [if_pos (by simp), List.getD_eq_getElem?_getD, List.getElem?_append_right (by simp)]
    simp
  have hmm : mv0.map σ = mv0 := by
    conv => rhs; rw [← List.map_id mv0]
    exact List.map_congr_left fun b hb => hs0 b (clB_iff hml b hb)
  refine ⟨hk, mv0, hmv, ?_⟩
  have := h.frame (List.range A.length ++ [A.length + k]) (A ++ R) vs (K mv0) (by simp) ?_ (fun i hi => ?_) (fun j b hb => ?_) (by rw [← hσ]; exact hvs σ hs0 hs1) (fun j b hb => ?_) (clB_iff (by simpa using hvs0)) ?_ ?_
  · rw [← hσ, hmm] at this
    exact this
  · rw [List.nodup_append]
    refine ⟨List.nodup_range, by simp, ?_⟩
    intro a ha b hb
    simp at ha hb
    omega
  · simp at hi ⊢
    omega
  · rw [← hσ]
    rcases Nat.lt_or_ge j A.length with hj | hj
    · rw [List.getElem?_append_left hj] at hb
      rw [hs0 j hj, List.getElem?_append_left hj, Blk.ren_cl hs0 (List.all_eq_true.1 hc0 b (List.mem_of_getElem? hb))]
      exact hb
    · rw [List.getElem?_append_right hj] at hb
      have hj0 : j = A.length := by
        have := (List.getElem?_eq_some_iff.1 hb).1
        simp at this
        omega
      subst hj0
      simp only [Nat.sub_self, List.getElem?_cons_zero, Option.some.injEq] at hb
      subst hb
      rw [hs1, List.getElem?_append_right (by omega), hBr]
      rw [show A.length + k - A.length = k by omega]
      exact hRk
  · intro r hr
    rcases Nat.lt_or_ge j A.length with hj | hj
    · rw [List.getElem?_append_left hj] at hb
      have := clB_iff (List.all_eq_true.1 hc0 b (List.mem_of_getElem? hb)) r hr
      simp
      omega
    · rw [List.getElem?_append_right hj] at hb
      have hj0 : j = A.length := by
        have := (List.getElem?_eq_some_iff.1 hb).1
        simp at this
        omega
      subst hj0
      simp only [Nat.sub_self, List.getElem?_cons_zero, Option.some.injEq] at hb
      subst hb
      rw [hB] at hr
      cases hr
  · intro i b hi hb r hr
    rw [← hσ, hmm]
    have hge : A.length ≤ i := by
      rcases Nat.lt_or_ge i A.length with hj | hj
      · exact absurd (List.mem_append_left _ (by simpa using hj)) hi
      · exact hj
    rw [List.getElem?_append_right hge] at hb
    have := List.all_eq_true.1 (List.all_eq_true.1 hR b (List.mem_of_getElem? hb)) r hr
    simpa using this
  · rintro v M' ⟨rfl, rfl⟩ -
    rw [← hσ]
    have hv' : v.ren σ = v := V.ren_of_nil hv σ
    have hmg : merge (A ++ R) (List.range A.length ++ [A.length + k]) (A' ++ [B']) = A' ++ R.set k B' := by
      unfold merge
      rw [← hσ, List.map_append, renMem_cl hs0 hc1]
      have hd : (A' ++ [B']).drop (List.range A.length ++ [A.length + k]).length = [] := List.drop_eq_nil_of_le (by simp; omega)
      rw [hd, setAll_append _ _ _ _ _ (by simp [hl]), List.range_eq_range']
      have := setAll_pre A A' R 0 [] rfl hl.symm
      simp only [List.nil_append] at this
      rw [this]
      simp only [List.map_cons, List.map_nil, setAll, hBr', List.append_nil]
      rw [List.set_append, if_neg (by omega)]
      congr 2
      omega
    rw [hv', hmg]
    exact hK

/-- the encoder writes a block that lies outside -/
theorem callK_wb (hP : C.P = Tryd.prog) (hG : GlobE C) {K : EncK} (hK : EncOk K) {buf : List Int} (hb : buf.length = 16) {xs : List Int} {T : Nat} (hx : BlkOk xs) {c : Nat} (hc : c < 2) {prev : Int} (hp1 : -1024 ≤ prev) (hp2 : prev ≤ 1020) {p : List Bool} (hp : p.length < 8) {out : List Int} (ho : out.length ≤ 12000000)
    {Kc : List Nat → V → Mem → Prop} (R : Mem) (k : Nat) (hRk : R[k]? = some (.ints .i32 xs T)) (hR : noRef 2 R = true) (hm : n0 ≤ 2 ∨ 2 ∈ mv)
    (hQ : Kc [2] (.int .i32 (quantF (fwd xs) K.q c 0)) (encP K buf (feed (p, out) (blkBits c prev (quantF (fwd xs) K.q c))).1 (feed (p, out) (blkBits c prev (quantF (fwd xs) K.q c))).2 ++ R.set k (.ints .i32 (fwd xs) T))) :
    callK C n0 mv 62 [.ptr 0 0, .ptr (7 + k) 0, .int .i64 c, .int .i32 prev] (encP K buf p out ++ R) Kc := by
  refine callK_pre1 R k (writeBlock_spec C hP hG K hK buf hb xs T hx.len hx.b c hc prev hp1 hp2 p hp out ho) hRk rfl rfl (fun _ => rfl) (fun _ => rfl) rfl rfl encM_cl encM_cl rfl rfl (fun σ h0 h7 => ?_) (by intro b hb; simp at hb; subst hb; exact hm) rfl hR hQ
  simp only [V.renL, V.ren, h0 0 (by rw [encP_len]; omega)]
  rw [show σ 7 = 7 + k from h7]
end

theorem methB91 : methT Tryd.prog 91 "Bounds" = some 67 := by kernel_rfl
theorem methB95 : methT Tryd.prog 95 "Bounds" = some 73 := by kernel_rfl
theorem methB99 : methT Tryd.prog 99 "Bounds" = some 75 := by kernel_rfl
theorem call67 : callable Tryd.prog 67 = true := by kernel_rfl
theorem call73 : callable Tryd.prog 73 = true := by kernel_rfl
theorem call75 : callable Tryd.prog 75 = true := by kernel_rfl

theorem pt_spec (C : Ctx) (hP : C.P = Tryd.prog) (M : Mem) (hM : memCl M.length M = true) (x y : Int) : VCalls C 60 [.int .i64 x, .int .i64 y] M [] (fun v M' => v = .agg [.int .i64 x, .int .i64 y] ∧ M' = M) := by
  refine VCalls.of_fn (hs := kz c60) (F := F60) (by rw [hP]; exact is60) (by simp [F60]) ?_
  have vf : vfill [(0, 1, .int .i64 x), (1, 1, .int .i64 y)] (.agg [.int .i64 0, .int .i64 0]) = some (.agg [.int .i64 x, .int .i64 y]) := rfl
  have l1 : ∀ B : Blk, (M ++ [B])[M.length]? = some B := fun B => by simp
  have st : ∀ B : Blk, (M ++ [B]).set M.length (.own [.int .i64 x, .int .i64 y] 87) = M ++ [.own [.int .i64 x, .int .i64 y] 87] := fun B => by simp
  have ao : (([.int .i64 x, .int .i64 y] : List V).all V.one) = true := rfl
  have rr : rangeB (some (.own [.int .i64 x, .int .i64 y] 87)) 0 2 = some (.agg [.int .i64 x, .int .i64 y]) := rfl
  simp -implicitDefEqProofs only [vms, ↓reduceIte, Nat.reduceEqDiff, Nat.reduceAdd, reduceCtorEq, F60, c60, vf, stGo_putA, putA_own, l1, ao, st, range_eqB, rr]
  exact retGo_take M.length (Nat.le_refl _) (by simp) rfl (by simpa using hM) ⟨rfl, by simp⟩

def ptB (x y : Nat) : Blk := .own [.int .i64 x, .int .i64 y] 87
def rcB (w h : Nat) : Blk := .own (imgR w h) 89
def GS (K : EncK) (buf : List Int) (st : ScS) (T n w h : Nat) (pix b : List Int) : Mem := encP K buf st.1.1 st.1.2 ++ [imgB T 8 n w h w, .vec .u8 pix 5, .ints .i32 b 146, rcB w h]

section
variable (C : Ctx) (K : EncK) (buf : List Int) (T w h : Nat) (pix : List Int)
theorem gs_cl (st : ScS) (n : Nat) (b : List Int) : memCl 11 (GS K buf st T n w h pix b) = true := by
  simp only [memCl, GS, encP, encM, List.cons_append, List.nil_append, List.all_cons, List.all_nil, Blk.refs, encBlk, enc_refs]
  rfl
structure PxOk (px : Nat → Nat → Nat → Int) : Prop where
  b : ∀ k x y, 0 ≤ px k x y ∧ px k x y ≤ 255

theorem sgray_x (hP : C.P = Tryd.prog) (hG : GlobE C) (hK : EncOk K) (hKl : K.q.length = 128) (hb : buf.length = 16) (hw : 0 < w ∧ w ≤ 40) (hh : 0 < h ∧ h ≤ 40) (hpl : pix.length = w * h) (px : Nat → Nat → Nat → Int) (hpb : PxOk px) (hpx : ∀ x y, x < w → y < h → px 0 x y = gI pix (y * w + x))
    (hpi : ∀ i, 0 ≤ gI pix i ∧ gI pix i ≤ 255) (y : Nat) (hy : y < 50) (Q : VX → Env → Mem → Prop) :
    ∀ (d x : Nat) (st : ScS) (n : Nat) (b : List Int), b.length = 64 → w ≤ x + 8 * d → x + 8 * d < 60 → Inv st n → n + d ≤ 900 →
      (∀ (l : Env) (b : List Int), b.length = 64 → Q (.exit 10) ((0, .ptr 0 0) :: (4, .ptr 9 0) :: (7, .int .i32 (gI (grayX K.q px w h y d x st).2 0)) :: (10, .ptr 10 0) :: (11, .ptr 7 0) :: (12, .int .i64 y) :: l)
        (GS K buf (grayX K.q px w h y d x st) T pix.length w h pix b)) →
      VRounds 9 (VWp C 9 [2] c47l0) (d + 1) [(0, .ptr 0 0), (4, .ptr 9 0), (7, .int .i32 (gI st.2 0)), (10, .ptr 10 0), (11, .ptr 7 0), (12, .int .i64 y), (13, .int .i64 x)]
        (GS K buf st T pix.length w h pix b) Q := by
  have ht : TabOk K.q := ⟨hKl, hK.q⟩
  intro d
  induction d with
  | zero =>
    intro x st n b hbl hx hx2 hi hn hQ
    refine round_gen fun K1 hK1 => ?_
    have hd : decide ((x : Int) < (w : Int)) = false := by simp; omega
    have m10 : (GS K buf st T pix.length w h pix b)[10]? = some (rcB w h) := rfl
    have c2 : cellB (some (rcB w h)) 2 = some (.int .i64 w) := rfl
    simp -implicitDefEqProofs only [vms, ↓reduceIte, Nat.reduceEqDiff, reduceCtorEq, c47l0, m10, c2, hd]
    rw [hK1]
    exact hQ _ b hbl
  | succ d ih =>
    intro x st n b hbl hx hx2 hi hn hQ
    refine round_gen fun K1 hK1 => ?_
    have m10 : (GS K buf st T pix.length w h pix b)[10]? = some (rcB w h) := rfl
    have c2 : cellB (some (rcB w h)) 2 = some (.int .i64 w) := rfl
    by_cases hxw : x < w
    · have hd : decide ((x : Int) < (w : Int)) = true := by simp; omega
      have hw8 : IntKind.i64.wrap ((x : Int) + 8) = ((x + 8 : Nat) : Int) := by rw [wrap_i64_id (by omega) (by omega)]; rfl
      have hbk := blkAt_ok hpb.b 0 w h x y
      obtain ⟨l1, l2⟩ := hi.l 0 (by omega)
      have ho := hi.out
      have st2 : ∀ B : Blk, stGo (GS K buf st T pix.length w h pix b ++ [B]) 2 (.agg [.int .i64 x, .int .i64 y]) (.ptr 11 0) = putA (GS K buf st T pix.length w h pix b ++ [B]) 2 11 [.int .i64 x, .int .i64 y] (some B) := fun B => by rw [stGo_putA (by simp)]; rfl
      have len : (GS K buf st T pix.length w h pix b).length = 11 := rfl
      have ao : (([.int .i64 x, .int .i64 y] : List V).all V.one) = true := rfl
      have sp : ∀ B : Blk, (GS K buf st T pix.length w h pix b ++ [B]).set 11 (.own [.int .i64 x, .int .i64 y] 87) = GS K buf st T pix.length w h pix b ++ [ptB x y] := fun _ => rfl
      have m11 : (GS K buf st T pix.length w h pix b ++ [ptB x y])[11]? = some (ptB x y) := rfl
      have rp : rangeB (some (ptB x y)) 0 2 = some (.agg [.int .i64 x, .int .i64 y]) := rfl
      simp -implicitDefEqProofs only [vms, ↓reduceIte, Nat.reduceEqDiff, reduceCtorEq, c47l0, m10, c2, hd]
      refine callK_of [] rfl (by simp) (pt_spec C hP _ (gs_cl K buf T w h pix st pix.length b) x y) ?_
      rintro _ _ ⟨rfl, rfl⟩
      simp -implicitDefEqProofs only [vms, ↓reduceIte, Nat.reduceEqDiff, Nat.reduceAdd, reduceCtorEq, callC, len, st2, putA_own, ao, sp, range_eqB, m11, rp]
      refine callK_fr [7, 8, 9] (grayToY_spec C w h hP T hw hh pix hpl px hpx hpi b hbl x y (by omega) (by omega)) rfl (by simp) rfl ⟨rfl, rfl, rfl, trivial⟩ rfl rfl rfl ?_
      rintro _ _ ⟨rfl, rfl⟩ -
      have mg : merge (GS K buf st T pix.length w h pix b ++ [ptB x y]) [7, 8, 9] [imgB T 1 pix.length w h w, .vec .u8 pix 5, .ints .i32 (blkAt px 0 w h x y) 146] = encP K buf st.1.1 st.1.2 ++ [imgB T 8 pix.length w h w, .vec .u8 pix 5, .ints .i32 (blkAt px 0 w h x y) 146, rcB w h, ptB x y] := rfl
      rw [mg]
      simp -implicitDefEqProofs only [vms, ↓reduceIte, Nat.reduceEqDiff, reduceCtorEq, callC]
      refine callK_wb hP hG hK hb hbk (c := 0) (by omega) l1 l2 hi.p (by omega) [imgB T 8 pix.length w h w, .vec .u8 pix 5, .ints .i32 (blkAt px 0 w h x y) 146, rcB w h, ptB x y] 2 rfl rfl (.inr (by simp)) ?_
      simp -implicitDefEqProofs only [vms, ↓reduceIte, Nat.reduceEqDiff, reduceCtorEq, callC, Nat.reduceBEq, hw8]
      rw [hK1, roundK_normal]
      have hgo : grayX K.q px w h y (d + 1) x st = grayX K.q px w h y d (x + 8) (stepB K.q 0 0 (blkAt px 0 w h x y) st) := by
        simp only [grayX, if_pos hxw]
      rw [hgo] at hQ
      have hl0 : quantF (fwd (blkAt px 0 w h x y)) K.q 0 0 = gI (stepB K.q 0 0 (blkAt px 0 w h x y) st).2 0 := by
        simp only [stepB]
        rw [gI_set _ _ _ _ (by rw [hi.l3]; omega), if_pos rfl]
      rw [hl0]
      refine VRounds_adj (adj_take 11 (by simp) (by simp [encP_len]) rfl (gs_cl K buf T w h pix (stepB K.q 0 0 (blkAt px 0 w h x y) st) pix.length (fwd (blkAt px 0 w h x y)))) ?_
      exact ih (x + 8) (stepB K.q 0 0 (blkAt px 0 w h x y) st) (n + 1) (fwd (blkAt px 0 w h x y)) (fwd_len _) (by omega) (by omega) (stepB_inv ht hbk hi (by omega) (by omega)) (by omega) hQ
    · have hd : decide ((x : Int) < (w : Int)) = false := by simp; omega
      simp -implicitDefEqProofs only [vms, ↓reduceIte, Nat.reduceEqDiff, reduceCtorEq, c47l0, m10, c2, hd]
      rw [hK1]
      have hgo : grayX K.q px w h y (d + 1) x st = st := by simp only [grayX, if_neg hxw]
      rw [hgo] at hQ
      exact hQ _ b hbl
end
end Go.VM
end
