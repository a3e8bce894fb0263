/-
  A part of a machine over the model and of a walk by it, proved right against the model; proved outright, under no condition but what each theorem names.
-/
import Derived.Test.YtahmhofnilgfgaaDoorFDLtoFL
import Derived.Test.YtahmhofnilgfgaaDoorFPtoFS
set_option linter.unusedVariables false
set_option linter.unusedSimpArgs false
set_option linter.unusedSimpArgs false
namespace Go.VM
open Go Go.Proofs Go.Bits

/-! The encoder's blocks of a picture: gray. -/
/-- a stretch of a row that is filled from its beginning -/
def curO (l : List Int) (o : Nat) (F : Nat → Int) (j : Nat) : List Int := (List.range l.length).map fun t => if o ≤ t ∧ t < o + j then F (t - o) else gI l t
theorem curO_len (l : List Int) (o : Nat) (F : Nat → Int) (j : Nat) : (curO l o F j).length = l.length := by simp [curO]
theorem curO_zero (l : List Int) (o : Nat) (F : Nat → Int) : curO l o F 0 = l := by
  apply List.ext_getElem
  · simp [curO]
  · intro i h1 h2
    have : ¬ (o ≤ i ∧ i < o + 0) := by omega
    simp only [curO, List.getElem_map, List.getElem_range, if_neg this]
    simp [gI, h2]
theorem curO_set (l : List Int) (o : Nat) (F : Nat → Int) (j : Nat) (h : o + j < l.length) : (curO l o F j).set (o + j) (F j) = curO l o F (j + 1) := by
  apply List.ext_getElem?
  intro i
  rw [List.getElem?_set]
  unfold curO
  by_cases hi : i < l.length
  · by_cases hij : o + j = i
    · subst hij
      rw [if_pos rfl, if_pos (by simpa using hi)]
      simp only [List.getElem?_map, List.getElem?_range hi, Option.map_some]
      rw [if_pos ⟨by omega, by omega⟩, show o + j - o = j by omega]
    · rw [if_neg hij]
      simp only [List.getElem?_map, List.getElem?_range hi, Option.map_some]
      congr 1
      by_cases h : o ≤ i ∧ i < o + j
      · rw [if_pos h, if_pos ⟨h.1, by omega⟩]
      · rw [if_neg h, if_neg (by omega)]
  · have h1 : (List.range l.length)[i]? = none := List.getElem?_eq_none (by simpa using hi)
    simp only [List.getElem?_map, h1, Option.map_none]
    split
    · rename_i hh; omega
    · rfl
theorem gI_curO (l : List Int) (o : Nat) (F : Nat → Int) (j t : Nat) (h : t < l.length) : gI (curO l o F j) t = if o ≤ t ∧ t < o + j then F (t - o) else gI l t := by
  unfold curO
  rw [gI_map h]
theorem curO_all (l : List Int) (F : Nat → Int) (n : Nat) (h : l.length = n) : curO l 0 F n = (List.range n).map F := by
  subst h
  unfold curO
  refine List.map_congr_left fun t ht => ?_
  have : t < l.length := by simpa using ht
  rw [if_pos ⟨by omega, by omega⟩]
  rfl

theorem idx_lt {w h x y : Nat} (hx : x < w) (hy : y < h) : y * w + x < w * h := by
  have h1 : y * w + x < (y + 1) * w := by rw [Nat.add_mul]; omega
  have h2 : (y + 1) * w ≤ h * w := Nat.mul_le_mul_right _ (by omega)
  rw [Nat.mul_comm w h]
  omega

def imgR (w h : Nat) : List V := [.int .i64 0, .int .i64 0, .int .i64 w, .int .i64 h]
/-- a picture of one plane -/
def imgB (T p n w h s : Nat) : Blk := .own (.vec p n :: .int .i64 s :: imgR w h) T

section
variable (C : Ctx) (w h : Nat)
theorem bounds1 (hP : C.P = Tryd.prog) (fn : Nat) (hfn : fn = 67 ∨ fn = 73) (M : Mem) (hM : memCl M.length M = true) (T p n s b : Nat) (hb : M[b]? = some (imgB T p n w h s)) :
    VCalls C fn [.ptr b 0] M [] (fun v M' => v = .agg (imgR w h) ∧ M' = M) := by
  have hlt : b < M.length := (List.getElem?_eq_some_iff.1 hb).1
  have hb2 : ∀ B : Blk, (M ++ [B])[b]? = some (imgB T p n w h s) := fun B => by rw [List.getElem?_append_left hlt, hb]
  have rr : rangeB (some (imgB T p n w h s)) 2 4 = some (.agg (imgR w h)) := rfl
  have rr2 : rangeB (some (.own (imgR w h) 89)) 0 4 = some (.agg (imgR w h)) := rfl
  have l1 : ∀ B : Blk, (M ++ [B])[M.length]? = some B := fun B => by simp
  have hst : stGo (M ++ [Blk.own [.int .i64 0, .int .i64 0, .int .i64 0, .int .i64 0] 89]) 4 (.agg (imgR w h)) (.ptr M.length 0) = some (.undef, M ++ [.own (imgR w h) 89]) := by
    rw [stGo_agg (n := 4) (vs := imgR w h) (T := 89) (cs := [.int .i64 0, .int .i64 0, .int .i64 0, .int .i64 0]) (l1 _) (by decide) rfl rfl rfl]
    simp
  rcases hfn with rfl | rfl
  · refine VCalls.of_fn (hs := kz c67) (F := F67) (by rw [hP]; exact is67) (by simp [F67]) ?_
    simp -implicitDefEqProofs only [vms, ↓reduceIte, Nat.reduceEqDiff, reduceCtorEq, F67, c67, range_eqB, hb2, rr, hst, l1, rr2]
    exact retGo_take M.length (Nat.le_refl _) (by simp) rfl (by simpa using hM) ⟨rfl, by simp⟩
  · refine VCalls.of_fn (hs := kz c73) (F := F73) (by rw [hP]; exact is73) (by simp [F73]) ?_
    simp -implicitDefEqProofs only [vms, ↓reduceIte, Nat.reduceEqDiff, reduceCtorEq, F73, c73, range_eqB, hb2, rr, hst, l1, rr2]
    exact retGo_take M.length (Nat.le_refl _) (by simp) rfl (by simpa using hM) ⟨rfl, by simp⟩

theorem pixoff (hP : C.P = Tryd.prog) (M : Mem) (T p n b : Nat) (hb : M[b]? = some (imgB T p n w h w)) (x y : Nat) (hw : w ≤ 40) (hh : h ≤ 40) (hx : x < w) (hy : y < h) :
    VCalls C 68 [.ptr b 0, .int .i64 x, .int .i64 y] M [] (fun v M' => v = .int .i64 (y * w + x : Nat) ∧ M' = M) := by
  refine VCalls.of_fn (hs := kz c68) (F := F68) (by rw [hP]; exact is68) (by simp [F68]) ?_
  have hlt : y * w + x < w * h := idx_lt hx hy
  have hwh : w * h ≤ 40 * 40 := Nat.mul_le_mul hw hh
  have e1 : IntKind.i64.wrap ((y : Int) - 0) = (y : Int) := by rw [wrap_i64_id (by omega) (by omega)]; omega
  have e2 : IntKind.i64.wrap ((x : Int) - 0) = (x : Int) := by rw [wrap_i64_id (by omega) (by omega)]; omega
  have e3 : IntKind.i64.wrap ((y : Int) * (w : Int)) = ((y * w : Nat) : Int) := by
    have : (y : Int) * (w : Int) = ((y * w : Nat) : Int) := by simp
    rw [this, wrap_i64_id (by omega) (by omega)]
  have e4 : IntKind.i64.wrap ((x : Int) * 1) = (x : Int) := by rw [Int.mul_one, wrap_i64_id (by omega) (by omega)]
  have e5 : IntKind.i64.wrap (((y * w : Nat) : Int) + (x : Int)) = ((y * w + x : Nat) : Int) := by rw [wrap_i64_id (by omega) (by omega)]; omega
  simp -implicitDefEqProofs only [vms, ↓reduceIte, Nat.reduceEqDiff, Nat.reduceAdd, reduceCtorEq, F68, c68, hb, imgB, imgR, e1, e2, e3, e4, e5]
  exact retGo_refl ⟨rfl, rfl⟩

def GM (T w h n : Nat) (pix blk : List Int) (x y : Nat) : Mem := [imgB T 1 n w h w, .vec .u8 pix 5, .ints .i32 blk 146, .own [.int .i64 x, .int .i64 y] 87, .own (imgR w h) 89]

theorem gray_in (hP : C.P = Tryd.prog) (T : Nat) (hw : 0 < w ∧ w ≤ 40) (hh : 0 < h ∧ h ≤ 40) (pix : List Int) (hpl : pix.length = w * h) (px : Nat → Nat → Nat → Int) (hpx : ∀ x y, x < w → y < h → px 0 x y = gI pix (y * w + x)) (hpb : ∀ i, 0 ≤ gI pix i ∧ gI pix i ≤ 255)
    (blk : List Int) (hbl : blk.length = 64) (x y : Nat) (hx : x < 60) (hy : y < 60) (j : Nat) (hj : j < 8) (Q : VX → Env → Mem → Prop) :
    ∀ (d i : Nat), i + d = 8 →
      (Q (.exit 2) [(0, .ptr 0 0), (2, .ptr 2 0), (4, .ptr 3 0), (7, .int .i64 (w - 1 : Nat)), (8, .int .i64 (h - 1 : Nat)), (9, .vec 1 pix.length), (10, .int .i64 j), (11, .int .i64 8), (32, .bool false)]
        (GM T w h pix.length pix (curO blk 0 (fun t => px 0 (mn (x + t % 8) (w - 1)) (mn (y + t / 8) (h - 1))) (8 * j + 8)) x y)) →
      VRounds 3 (VWp C 3 [] c61l0) (d + 1) [(0, .ptr 0 0), (2, .ptr 2 0), (4, .ptr 3 0), (7, .int .i64 (w - 1 : Nat)), (8, .int .i64 (h - 1 : Nat)), (9, .vec 1 pix.length), (10, .int .i64 j), (11, .int .i64 i)]
        (GM T w h pix.length pix (curO blk 0 (fun t => px 0 (mn (x + t % 8) (w - 1)) (mn (y + t / 8) (h - 1))) (8 * j + i)) x y) Q := by
  intro d
  generalize hF : (fun t => px 0 (mn (x + t % 8) (w - 1)) (mn (y + t / 8) (h - 1))) = F
  induction d with
  | zero =>
    intro i hi hQ
    refine round_gen fun K1 hK1 => ?_
    have h8 : i = 8 := by omega
    subst h8
    simp -implicitDefEqProofs only [vms, ↓reduceIte, Nat.reduceEqDiff, reduceCtorEq, natCast_lit, Int.reduceLT, c61l0]
    rw [hK1]
    exact hQ
  | succ d ih =>
    intro i hi hQ
    refine round_gen fun K1 hK1 => ?_
    have hd : decide ((i : Int) < 8) = true := by simp; omega
    have hwi : IntKind.i64.wrap ((i : Int) + 1) = ((i + 1 : Nat) : Int) := by rw [wrap_i64_id (by omega) (by omega)]; rfl
    have wx : IntKind.i64.wrap ((x : Int) + (i : Int)) = ((x + i : Nat) : Int) := by rw [wrap_i64_id (by omega) (by omega)]; omega
    have wy : IntKind.i64.wrap ((y : Int) + (j : Int)) = ((y + j : Nat) : Int) := by rw [wrap_i64_id (by omega) (by omega)]; omega
    have w8 : IntKind.i64.wrap (8 * (j : Int)) = ((8 * j : Nat) : Int) := by rw [wrap_i64_id (by omega) (by omega)]; omega
    have w9 : IntKind.i64.wrap (((8 * j : Nat) : Int) + (i : Int)) = ((8 * j + i : Nat) : Int) := by rw [wrap_i64_id (by omega) (by omega)]; omega
    have hxl := mn_le (x + i) (w - 1)
    have hyl := mn_le (y + j) (h - 1)
    simp -implicitDefEqProofs only [vms, ↓reduceIte, Nat.reduceEqDiff, reduceCtorEq, c61l0, hd, GM, wx, wy, min_nat]
    refine callK_of [] rfl (by simp) (pixoff C w h hP _ T 1 pix.length 0 rfl (mn (x + i) (w - 1)) (mn (y + j) (h - 1)) hw.2 hh.2 (by omega) (by omega)) ?_
    rintro _ _ ⟨rfl, rfl⟩
    have hFv : gI pix (mn (y + j) (h - 1) * w + mn (x + i) (w - 1)) = F (8 * j + i) := by
      rw [← hpx _ _ (by omega) (by omega), ← hF]
      simp only
      rw [show (8 * j + i) % 8 = i by omega, show (8 * j + i) / 8 = j by omega]
    have hlt : mn (y + j) (h - 1) * w + mn (x + i) (w - 1) < w * h := idx_lt (by omega) (by omega)
    obtain ⟨b1, b2⟩ := hpb (mn (y + j) (h - 1) * w + mn (x + i) (w - 1))
    rw [hFv] at b1 b2
    generalize hI : mn (y + j) (h - 1) * w + mn (x + i) (w - 1) = I at *
    have ix : ∀ A B D E : Blk, vidxS [A, .vec .u8 pix 5, B, D, E] 1 (.vec 1 pix.length) (.int .i64 (I : Int)) = some (.ptr 1 I) := fun A B D E => by
      rw [vidxS_vec rfl rfl (by omega) (by omega)]; simp
    have ld : cellB (some (.vec .u8 pix 5)) I = some (.int .u8 (F (8 * j + i))) := by rw [← hFv]; exact cellB_vec (gI_get _ _ (by omega))
    have c32 : IntKind.i32.wrap (F (8 * j + i)) = F (8 * j + i) := wrap_i32_id (by omega) (by omega)
    have ia : vidxA 64 1 (.ptr 2 0) (.int .i64 ((8 * j + i : Nat) : Int)) = some (.ptr 2 (8 * j + i)) := by rw [vidxA_ptr (by omega) (by omega), Int.toNat_natCast, Nat.mul_one, Nat.zero_add]
    have pb : ∀ N : Mem, putB N 2 (8 * j + i) (.int .i32 (F (8 * j + i))) (some (.ints .i32 (curO blk 0 F (8 * j + i)) 146)) = some (.undef, N.set 2 (.ints .i32 (curO blk 0 F (8 * j + i + 1)) 146)) := fun N => by
      rw [putB_ints (by rw [curO_len]; omega)]
      have := curO_set blk 0 F (8 * j + i) (by omega)
      rw [Nat.zero_add] at this
      rw [this]
    simp -implicitDefEqProofs only [vms, ↓reduceIte, Nat.reduceEqDiff, reduceCtorEq, callC, w8, w9, ix, ld, c32, ia, pb, hwi]
    rw [hK1, roundK_normal]
    exact ih (i + 1) (by omega) hQ

theorem gray_out (hP : C.P = Tryd.prog) (T : Nat) (hw : 0 < w ∧ w ≤ 40) (hh : 0 < h ∧ h ≤ 40) (pix : List Int) (hpl : pix.length = w * h) (px : Nat → Nat → Nat → Int) (hpx : ∀ x y, x < w → y < h → px 0 x y = gI pix (y * w + x)) (hpb : ∀ i, 0 ≤ gI pix i ∧ gI pix i ≤ 255)
    (blk : List Int) (hbl : blk.length = 64) (x y : Nat) (hx : x < 60) (hy : y < 60) (Q : VX → Env → Mem → Prop) :
    ∀ (d j : Nat), j + d = 8 →
      (∀ l : Env, Q (.exit 0) l (GM T w h pix.length pix (curO blk 0 (fun t => px 0 (mn (x + t % 8) (w - 1)) (mn (y + t / 8) (h - 1))) 64) x y)) →
      VRounds 3 (VWp C 3 [] c61l1) (d + 1) [(0, .ptr 0 0), (2, .ptr 2 0), (4, .ptr 3 0), (7, .int .i64 (w - 1 : Nat)), (8, .int .i64 (h - 1 : Nat)), (9, .vec 1 pix.length), (10, .int .i64 j)]
        (GM T w h pix.length pix (curO blk 0 (fun t => px 0 (mn (x + t % 8) (w - 1)) (mn (y + t / 8) (h - 1))) (8 * j)) x y) Q := by
  intro d
  induction d with
  | zero =>
    intro i hi hQ
    refine round_gen fun K1 hK1 => ?_
    have h8 : i = 8 := by omega
    subst h8
    simp -implicitDefEqProofs only [vms, ↓reduceIte, Nat.reduceEqDiff, reduceCtorEq, natCast_lit, Int.reduceLT, Nat.reduceMul, c61l1]
    rw [hK1]
    exact hQ _
  | succ d ih =>
    intro j hi hQ
    refine round_gen fun K1 hK1 => ?_
    have hd : decide ((j : Int) < 8) = true := by simp; omega
    have hwi : IntKind.i64.wrap ((j : Int) + 1) = ((j + 1 : Nat) : Int) := by rw [wrap_i64_id (by omega) (by omega)]; rfl
    simp -implicitDefEqProofs only [vms, ↓reduceIte, Nat.reduceEqDiff, reduceCtorEq, c61l1, hd]
    apply VWp_loop_of (k := 9)
    refine gray_in C w h hP T hw hh pix hpl px hpx hpb blk hbl x y hx hy j (by omega) _ 8 0 rfl ?_
    simp -implicitDefEqProofs only [vms, ↓reduceIte, Nat.reduceEqDiff, reduceCtorEq, hwi]
    rw [hK1, roundK_normal]
    have := ih (j + 1) (by omega) hQ
    rwa [show 8 * (j + 1) = 8 * j + 8 by omega] at this

theorem grayToY_spec (hP : C.P = Tryd.prog) (T : Nat) (hw : 0 < w ∧ w ≤ 40) (hh : 0 < h ∧ h ≤ 40) (pix : List Int) (hpl : pix.length = w * h) (px : Nat → Nat → Nat → Int) (hpx : ∀ x y, x < w → y < h → px 0 x y = gI pix (y * w + x)) (hpb : ∀ i, 0 ≤ gI pix i ∧ gI pix i ≤ 255)
    (blk : List Int) (hbl : blk.length = 64) (x y : Nat) (hx : x < 60) (hy : y < 60) :
    VCalls C 61 [.ptr 0 0, .agg [.int .i64 x, .int .i64 y], .ptr 2 0] [imgB T 1 pix.length w h w, .vec .u8 pix 5, .ints .i32 blk 146] []
      (fun v M' => v = .tup [] ∧ M' = [imgB T 1 pix.length w h w, .vec .u8 pix 5, .ints .i32 (blkAt px 0 w h x y) 146]) := by
  refine VCalls.of_fn (hs := h61) (F := F61) (by rw [hP]; exact is61) (by simp [F61]) ?_
  have vb : vbox 87 (.agg [.int .i64 x, .int .i64 y]) = some (.own [.int .i64 x, .int .i64 y] 87) := rfl
  have ao : ((imgR w h).all V.one) = true := rfl
  have il : (imgR w h).length = 4 := rfl
  have i2 : (imgR w h)[2]? = some (.int .i64 w) := rfl
  have i3 : (imgR w h)[3]? = some (.int .i64 h) := rfl
  have ww : IntKind.i64.wrap ((w : Int) - 1) = ((w - 1 : Nat) : Int) := by rw [wrap_i64_id (by omega) (by omega)]; omega
  have wh : IntKind.i64.wrap ((h : Int) - 1) = ((h - 1 : Nat) : Int) := by rw [wrap_i64_id (by omega) (by omega)]; omega
  have ic : cellB (some (imgB T 1 pix.length w h w)) 0 = some (.vec 1 pix.length) := rfl
  simp -implicitDefEqProofs only [vms, ↓reduceIte, Nat.reduceEqDiff, Nat.reduceAdd, reduceCtorEq, F61, c61, vb]
  refine callK_of [] rfl (by simp) (bounds1 C w h hP 67 (.inl rfl) _ rfl T 1 pix.length w 0 rfl) ?_
  rintro _ _ ⟨rfl, rfl⟩
  simp -implicitDefEqProofs only [vms, ↓reduceIte, Nat.reduceEqDiff, Nat.reduceAdd, reduceCtorEq, callC, stGo_putA, putA_own, ao, il, i2, i3, ww, wh, ic]
  apply VWp_loop_of (k := 9)
  have := gray_out C w h hP T hw hh pix hpl px hpx hpb blk hbl x y hx hy
  have t := this (blockK 0 (fnPost 3 [] fun v M' => v = .tup [] ∧ M' = [imgB T 1 pix.length w h w, .vec .u8 pix 5, .ints .i32 (blkAt px 0 w h x y) 146])) 8 0 rfl ?_
  · rw [Nat.mul_zero, curO_zero] at t
    exact t
  · intro l
    rw [curO_all _ _ _ hbl]
    simp -implicitDefEqProofs only [vms, vres_nil]
    exact retGo_take 3 (Nat.le_refl _) (by simp [GM]) rfl rfl ⟨rfl, rfl⟩
end
end Go.VM
