/-
  A part of a machine over the model and of a walk by it, proved right against the model; proved outright, under no condition but what each theorem names.
-/
import Derived.Test.YtahmhofnilgfgaaDoorGGtoFT
set_option linter.unusedVariables false
set_option linter.unusedSimpArgs false
set_option linter.unusedSimpArgs false
set_option maxRecDepth 10000
namespace Go.VM
open Go Go.Proofs Go.Bits

/-! The encoder's writeSOS: three components. -/
/-- chroma's four blocks -/
def cbl (px : Nat → Nat → Nat → Int) (c w h x y : Nat) (l : List Int) : Nat → List Int
  | 0 => l
  | i + 1 => curO (cbl px c w h x y l i) (64 * i) (FB px w h (x + i % 2 * 8) (y + i / 2 * 8) c) 64
theorem cbl_len (px : Nat → Nat → Nat → Int) (c w h x y : Nat) (l : List Int) : ∀ i, (cbl px c w h x y l i).length = l.length
  | 0 => rfl
  | i + 1 => by simp only [cbl, curO_len, cbl_len px c w h x y l i]
theorem cbl_get (px : Nat → Nat → Nat → Int) (c w h x y : Nat) (l : List Int) (hl : l.length = 256) (k j : Nat) (hk : k < 4) (hj : j < 64) : ∀ i, i ≤ 4 → gI (cbl px c w h x y l i) (64 * k + j) = if k < i then FB px w h (x + k % 2 * 8) (y + k / 2 * 8) c j else gI l (64 * k + j)
  | 0, _ => by simp [cbl]
  | i + 1, hi => by
    simp only [cbl]
    rw [gI_curO _ _ _ _ _ (by rw [cbl_len, hl]; omega)]
    by_cases hki : k = i
    · subst hki
      rw [if_pos ⟨by omega, by omega⟩, if_pos (by omega), show 64 * k + j - 64 * k = j by omega]
    · rw [if_neg (by omega), cbl_get px c w h x y l hl k j hk hj i (by omega)]
      by_cases h : k < i
      · rw [if_pos h, if_pos (by omega)]
      · rw [if_neg h, if_neg (by omega)]
theorem seg_cbl (px : Nat → Nat → Nat → Int) (c w h x y : Nat) (l : List Int) (hl : l.length = 256) (k : Nat) (hk : k < 4) : segP (cbl px c w h x y l 4) k = chrP px w h c x y k := by
  unfold segP chrP blkAt
  refine List.map_congr_left fun j hj => ?_
  rw [cbl_get px c w h x y l hl k j hk (by simpa using hj) 4 (by omega), if_pos hk]
  rfl
theorem chr_congr {P P' : Nat → List Int} (h : ∀ k, k < 4 → P k = P' k) : chr P = chr P' := by
  unfold chr
  refine List.map_congr_left fun i hi => ?_
  have hr := (rank_ok i (by simpa using hi)).2.2.2
  unfold chrF
  rw [h _ (by omega)]

section
variable (w h : Nat) {tabs : List Int} {px : Nat → Nat → Nat → Int}
theorem lumK_inv2 (hpb : PxOk px) (ht : TabOk tabs) (x y : Nat) : ∀ (d k : Nat) (st : ScS) (n : Nat), Inv st n → Inv (lumK tabs px w h x y d k st) (n + d)
  | 0, _, _, _, hi => hi
  | d + 1, k, st, n, hi => by
    simp only [lumK]
    have := lumK_inv2 hpb ht x y d (k + 1) _ _ (stepB_inv ht (blkAt_ok hpb.b 0 w h (x + k % 2 * 8) (y + k / 2 * 8)) hi (part := 0) (c := 0) (by omega) (by omega))
    rwa [show n + 1 + d = n + (d + 1) by omega] at this
theorem mcu_inv2 (hpb : PxOk px) (ht : TabOk tabs) (x y : Nat) (st : ScS) (n : Nat) (hi : Inv st n) : Inv (mcu tabs px w h x y st) (n + 6) :=
  stepB_inv ht (chr_ok fun k _ => blkAt_ok hpb.b 2 w h _ _) (stepB_inv ht (chr_ok fun k _ => blkAt_ok hpb.b 1 w h _ _) (lumK_inv2 w h hpb ht x y 4 0 st n hi) (by omega) (by omega)) (by omega) (by omega)
theorem colX_inv2 (hpb : PxOk px) (ht : TabOk tabs) (y : Nat) : ∀ (d x : Nat) (st : ScS) (n : Nat), Inv st n → Inv (colX tabs px w h y d x st) (n + 6 * d)
  | 0, _, _, _, hi => hi
  | d + 1, x, st, n, hi => by
    simp only [colX]
    split
    · have := colX_inv2 hpb ht y d (x + 16) _ _ (mcu_inv2 w h hpb ht x y st n hi)
      rwa [show n + 6 + 6 * d = n + 6 * (d + 1) by omega] at this
    · exact ⟨hi.p, by have := hi.out; omega, hi.l3, hi.l⟩
theorem colY_inv2 (hpb : PxOk px) (ht : TabOk tabs) : ∀ (d y : Nat) (st : ScS) (n : Nat), Inv st n → Inv (colY tabs px w h d y st) (n + 18 * d)
  | 0, _, _, _, hi => hi
  | d + 1, y, st, n, hi => by
    simp only [colY]
    split
    · have := colY_inv2 hpb ht d (y + 16) _ _ (colX_inv2 w h hpb ht y 3 0 st n hi)
      rwa [show n + 18 + 18 * d = n + 18 * (d + 1) by omega] at this
    · exact ⟨hi.p, by have := hi.out; omega, hi.l3, hi.l⟩
end

/-! rgba -/
section
variable (C : Ctx) (K : EncK) (buf : List Int) (T w h : Nat) (pix : List Int)
def CSrgba (st : ScS) (b cb cr : List Int) : Mem := encP K buf st.1.1 st.1.2 ++ [imgB T 8 pix.length w h (4 * w), .vec .u8 pix 5, .ints .i32 b 146, .ints .i32 cb 147, .ints .i32 cr 147, rcB w h]
theorem CSrgba_cl (st : ScS) (b cb cr : List Int) : memCl 13 (CSrgba K buf T w h pix st b cb cr) = true := by
  simp only [memCl, CSrgba, encP, encM, List.cons_append, List.nil_append, List.all_cons, List.all_nil, Blk.refs, encBlk, enc_refs]
  rfl

theorem slum_rgba (hP : C.P = Tryd.prog) (hG : GlobE C) (hK : EncOk K) (hKl : K.q.length = 128) (hb : buf.length = 16) (hw : 0 < w ∧ w ≤ 40) (hh : 0 < h ∧ h ≤ 40) (px : Nat → Nat → Nat → Int) (hpb : PxOk px) (hpx : RgbOk w h pix px) (x y : Nat) (hx : x < 44) (hy : y < 44) (cb0 cr0 : List Int) (hcb0 : cb0.length = 256) (hcr0 : cr0.length = 256) (Q : VX → Env → Mem → Prop) :
    ∀ (d i : Nat) (st : ScS) (n : Nat) (b : List Int), b.length = 64 → i + d = 4 → Inv st n → n + d ≤ 900 →
      (∀ (l : Env) (b : List Int) (st' : ScS), b.length = 64 → st' = lumK K.q px w h x y d i st → gI st'.2 1 = gI st.2 1 → gI st'.2 2 = gI st.2 2 → Q (.exit 6) ((0, .ptr 0 0) :: (4, .ptr 9 0) :: (5, .ptr 10 0) :: (6, .ptr 11 0) :: (7, .int .i32 (gI st'.2 0)) :: (8, .int .i32 (gI st'.2 1)) :: (9, .int .i32 (gI st'.2 2)) :: (10, .ptr 12 0) :: (16, .ptr 7 0) :: (18, .nilp) :: (20, .int .i64 y) :: (21, .int .i64 x) :: l)
        (CSrgba K buf T w h pix st' b (cbl px 1 w h x y cb0 4) (cbl px 2 w h x y cr0 4))) →
      VRounds 9 (VWp C 9 [2] c47l2) (d + 1) [(0, .ptr 0 0), (4, .ptr 9 0), (5, .ptr 10 0), (6, .ptr 11 0), (7, .int .i32 (gI st.2 0)), (8, .int .i32 (gI st.2 1)), (9, .int .i32 (gI st.2 2)), (10, .ptr 12 0), (16, .ptr 7 0), (18, .nilp), (20, .int .i64 y), (21, .int .i64 x), (22, .int .i64 i)]
        (CSrgba K buf T w h pix st b (cbl px 1 w h x y cb0 i) (cbl px 2 w h x y cr0 i)) Q := by
  have ht : TabOk K.q := ⟨hKl, hK.q⟩
  intro d
  induction d with
  | zero =>
    intro i st n b hbl hi4 hi hn hQ
    refine round_gen fun K1 hK1 => ?_
    have h4 : i = 4 := by omega
    subst h4
    simp -implicitDefEqProofs only [vms, ↓reduceIte, Nat.reduceEqDiff, reduceCtorEq, natCast_lit, Int.reduceLT, c47l2]
    rw [hK1]
    exact hQ _ b st hbl rfl rfl rfl
  | succ d ih =>
    intro i st n b hbl hi4 hi hn hQ
    refine round_gen fun K1 hK1 => ?_
    have hd : decide ((i : Int) < 4) = true := by simp; omega
    have hwi : IntKind.i64.wrap ((i : Int) + 1) = ((i + 1 : Nat) : Int) := wn (by omega) (by omega)
    have hic : i = 0 ∨ i = 1 ∨ i = 2 ∨ i = 3 := by omega
    have ba : Go.bits .and .i64 (i : Int) 1 = ((i % 2 : Nat) : Int) := by rcases hic with rfl | rfl | rfl | rfl <;> decide
    have bb : Go.bits .and .i64 (i : Int) 2 = ((i / 2 * 2 : Nat) : Int) := by rcases hic with rfl | rfl | rfl | rfl <;> decide
    have w1 : IntKind.i64.wrap (((i % 2 : Nat) : Int) * 8) = ((i % 2 * 8 : Nat) : Int) := wn (by omega) (by omega)
    have w2 : IntKind.i64.wrap (((i / 2 * 2 : Nat) : Int) * 4) = ((i / 2 * 8 : Nat) : Int) := wn (by omega) (by omega)
    have w3 : IntKind.i64.wrap ((x : Int) + ((i % 2 * 8 : Nat) : Int)) = ((x + i % 2 * 8 : Nat) : Int) := wn (by omega) (by omega)
    have w4 : IntKind.i64.wrap ((y : Int) + ((i / 2 * 8 : Nat) : Int)) = ((y + i / 2 * 8 : Nat) : Int) := wn (by omega) (by omega)
    obtain ⟨l1, l2⟩ := hi.l 0 (by omega)
    have ho := hi.out
    have hc1 := cbl_len px 1 w h x y cb0 i
    have hc2 := cbl_len px 2 w h x y cr0 i
    have cs1 : curO (cbl px 1 w h x y cb0 i) (64 * i) (FB px w h (x + i % 2 * 8) (y + i / 2 * 8) 1) 64 = cbl px 1 w h x y cb0 (i + 1) := rfl
    have cs2 : curO (cbl px 2 w h x y cr0 i) (64 * i) (FB px w h (x + i % 2 * 8) (y + i / 2 * 8) 2) 64 = cbl px 2 w h x y cr0 (i + 1) := rfl
    have sp := rgba_spec C w h hP T hw hh pix px hpx b (cbl px 1 w h x y cb0 i) (cbl px 2 w h x y cr0 i) hbl (by rw [hc1, hcb0]) (by rw [hc2, hcr0]) (64 * i) (by omega) (x + i % 2 * 8) (y + i / 2 * 8) (by omega) (by omega)
    rw [cs1, cs2] at sp
    generalize cbl px 1 w h x y cb0 i = cbi at *
    generalize cbl px 2 w h x y cr0 i = cri at *
    generalize hX : x + i % 2 * 8 = x' at *
    generalize hY : y + i / 2 * 8 = y' at *
    have hbk := blkAt_ok hpb.b 0 w h x' y'
    have st2 : ∀ BB : Blk, stGo (CSrgba K buf T w h pix st b cbi cri ++ [BB]) 2 (.agg [.int .i64 x', .int .i64 y']) (.ptr 13 0) = putA (CSrgba K buf T w h pix st b cbi cri ++ [BB]) 2 13 [.int .i64 x', .int .i64 y'] (some BB) := fun BB => by rw [stGo_putA (by simp)]; rfl
    have len : (CSrgba K buf T w h pix st b cbi cri).length = 13 := rfl
    have ao : (([.int .i64 x', .int .i64 y'] : List V).all V.one) = true := rfl
    have sp2 : ∀ BB : Blk, (CSrgba K buf T w h pix st b cbi cri ++ [BB]).set 13 (.own [.int .i64 x', .int .i64 y'] 87) = CSrgba K buf T w h pix st b cbi cri ++ [ptB x' y'] := fun _ => rfl
    have mN : (CSrgba K buf T w h pix st b cbi cri ++ [ptB x' y'])[13]? = some (ptB x' y') := rfl
    have rp : rangeB (some (ptB x' y')) 0 2 = some (.agg [.int .i64 x', .int .i64 y']) := rfl
    have ia : ∀ p : Nat, vidxA 4 64 (.ptr p 0) (.int .i64 (i : Int)) = some (.ptr p (64 * i)) := fun p => by
      rw [vidxA_ptr (by omega) (by omega), Int.toNat_natCast, Nat.zero_add, Nat.mul_comm]
    simp -implicitDefEqProofs only [vms, ↓reduceIte, Nat.reduceEqDiff, reduceCtorEq, c47l2, hd, ba, bb, w1, w2, w3, w4]
    refine callK_of [] rfl (by simp) (pt_spec C hP _ (CSrgba_cl K buf T w h pix st b cbi cri) x' y') ?_
    rintro _ _ ⟨rfl, rfl⟩
    simp -implicitDefEqProofs only [vms, ↓reduceIte, Nat.reduceEqDiff, Nat.reduceAdd, reduceCtorEq, callC, len, st2, putA_own, ao, sp2, range_eqB, mN, rp, ia]
    refine callK_fr [7, 8, 9, 10, 11] sp rfl (by simp) rfl ⟨rfl, rfl, rfl, rfl, rfl, trivial⟩ rfl rfl rfl ?_
    rintro _ _ ⟨rfl, rfl⟩ -
    have mg : merge (CSrgba K buf T w h pix st b cbi cri ++ [ptB x' y']) [7, 8, 9, 10, 11] (RV T w h pix (blkAt px 0 w h x' y') (cbl px 1 w h x y cb0 (i + 1)) (cbl px 2 w h x y cr0 (i + 1))) = encP K buf st.1.1 st.1.2 ++ [imgB T 8 pix.length w h (4 * w), .vec .u8 pix 5, .ints .i32 (blkAt px 0 w h x' y') 146, .ints .i32 (cbl px 1 w h x y cb0 (i + 1)) 147, .ints .i32 (cbl px 2 w h x y cr0 (i + 1)) 147, rcB w h, ptB x' y'] := rfl
    rw [mg]
    simp -implicitDefEqProofs only [vms, ↓reduceIte, Nat.reduceEqDiff, reduceCtorEq, callC]
    refine callK_wb hP hG hK hb hbk (c := 0) (by omega) l1 l2 hi.p (by omega) [imgB T 8 pix.length w h (4 * w), .vec .u8 pix 5, .ints .i32 (blkAt px 0 w h x' y') 146, .ints .i32 (cbl px 1 w h x y cb0 (i + 1)) 147, .ints .i32 (cbl px 2 w h x y cr0 (i + 1)) 147, rcB w h, ptB x' y'] 2 rfl rfl (.inr (by simp)) ?_
    simp -implicitDefEqProofs only [vms, ↓reduceIte, Nat.reduceEqDiff, reduceCtorEq, callC, Nat.reduceBEq, hwi]
    rw [hK1, roundK_normal]
    have e0 : quantF (fwd (blkAt px 0 w h x' y')) K.q 0 0 = gI (stepB K.q 0 0 (blkAt px 0 w h x' y') st).2 0 := by
      simp only [stepB]
      rw [gI_set _ _ _ _ (by rw [hi.l3]; omega), if_pos rfl]
    have e1 : gI (stepB K.q 0 0 (blkAt px 0 w h x' y') st).2 1 = gI st.2 1 := by
      simp only [stepB]
      rw [gI_set _ _ _ _ (by rw [hi.l3]; omega), if_neg (by omega)]
    have e2 : gI (stepB K.q 0 0 (blkAt px 0 w h x' y') st).2 2 = gI st.2 2 := by
      simp only [stepB]
      rw [gI_set _ _ _ _ (by rw [hi.l3]; omega), if_neg (by omega)]
    rw [e0, ← e1, ← e2]
    refine VRounds_adj (adj_take 13 (by simp) (by simp [encP_len]) rfl (CSrgba_cl K buf T w h pix (stepB K.q 0 0 (blkAt px 0 w h x' y') st) (fwd (blkAt px 0 w h x' y')) _ _)) ?_
    refine ih (i + 1) (stepB K.q 0 0 (blkAt px 0 w h x' y') st) (n + 1) (fwd (blkAt px 0 w h x' y')) (fwd_len _) (by omega) (stepB_inv ht hbk hi (by omega) (by omega)) (by omega) ?_
    intro l b st' hbl' hs h1 h2
    refine hQ l b st' hbl' ?_ (h1.trans e1) (h2.trans e2)
    rw [hs]
    simp only [lumK, hX, hY]

theorem scol_x_rgba (hP : C.P = Tryd.prog) (hG : GlobE C) (hK : EncOk K) (hKl : K.q.length = 128) (hb : buf.length = 16) (hw : 0 < w ∧ w ≤ 40) (hh : 0 < h ∧ h ≤ 40) (px : Nat → Nat → Nat → Int) (hpb : PxOk px) (hpx : RgbOk w h pix px) (y : Nat) (hy : y < 44) (Q : VX → Env → Mem → Prop) :
    ∀ (d x : Nat) (st : ScS) (n : Nat) (b cb cr : List Int), b.length = 64 → cb.length = 256 → cr.length = 256 → w ≤ x + 16 * d → x + 16 * d < 60 → Inv st n → n + 6 * d ≤ 700 →
      (∀ (l : Env) (b cb cr : List Int) (st' : ScS), b.length = 64 → cb.length = 256 → cr.length = 256 → st' = colX K.q px w h y d x st → Q (.exit 4) ((0, .ptr 0 0) :: (4, .ptr 9 0) :: (5, .ptr 10 0) :: (6, .ptr 11 0) :: (7, .int .i32 (gI st'.2 0)) :: (8, .int .i32 (gI st'.2 1)) :: (9, .int .i32 (gI st'.2 2)) :: (10, .ptr 12 0) :: (16, .ptr 7 0) :: (18, .nilp) :: (20, .int .i64 y) :: l)
        (CSrgba K buf T w h pix st' b cb cr)) →
      VRounds 9 (VWp C 9 [2] c47l3) (d + 1) [(0, .ptr 0 0), (4, .ptr 9 0), (5, .ptr 10 0), (6, .ptr 11 0), (7, .int .i32 (gI st.2 0)), (8, .int .i32 (gI st.2 1)), (9, .int .i32 (gI st.2 2)), (10, .ptr 12 0), (16, .ptr 7 0), (18, .nilp), (20, .int .i64 y), (21, .int .i64 x)]
        (CSrgba K buf T w h pix st b cb cr) Q := by
  have ht : TabOk K.q := ⟨hKl, hK.q⟩
  intro d
  induction d with
  | zero =>
    intro x st n b cb cr hbl hcb hcr hx hx2 hi hn hQ
    refine round_gen fun K1 hK1 => ?_
    have hd : decide ((x : Int) < (w : Int)) = false := by simp; omega
    have mR : (CSrgba K buf T w h pix st b cb cr)[12]? = some (rcB w h) := rfl
    have c2 : cellB (some (rcB w h)) 2 = some (.int .i64 w) := rfl
    simp -implicitDefEqProofs only [vms, ↓reduceIte, Nat.reduceEqDiff, reduceCtorEq, c47l3, mR, c2, hd]
    rw [hK1]
    exact hQ _ b cb cr st hbl hcb hcr rfl
  | succ d ih =>
    intro x st n b cb cr hbl hcb hcr hx hx2 hi hn hQ
    refine round_gen fun K1 hK1 => ?_
    have mR : (CSrgba K buf T w h pix st b cb cr)[12]? = some (rcB w h) := rfl
    have c2 : cellB (some (rcB w h)) 2 = some (.int .i64 w) := rfl
    by_cases hxw : x < w
    · have hd : decide ((x : Int) < (w : Int)) = true := by simp; omega
      have hw8 : IntKind.i64.wrap ((x : Int) + 16) = ((x + 16 : Nat) : Int) := wn (by omega) (by omega)
      simp -implicitDefEqProofs only [vms, ↓reduceIte, Nat.reduceEqDiff, reduceCtorEq, c47l3, mR, c2, hd]
      apply VWp_loop_of (k := 5)
      refine slum_rgba C K buf T w h pix hP hG hK hKl hb hw hh px hpb hpx x y (by omega) hy cb cr hcb hcr _ 4 0 st n b hbl rfl hi (by omega) ?_
      intro l b st1 hbl hs1 g1 g2
      have i1 : Inv st1 (n + 4) := by rw [hs1]; exact lumK_inv2 w h hpb ht x y 4 0 st n hi
      have hs1' : st1 = lumK K.q px w h x y 4 0 st := hs1
      have lc1 : (cbl px 1 w h x y cb 4).length = 256 := by rw [cbl_len, hcb]
      have lc2 : (cbl px 2 w h x y cr 4).length = 256 := by rw [cbl_len, hcr]
      have sg1 := seg_cbl px 1 w h x y cb hcb
      have sg2 := seg_cbl px 2 w h x y cr hcr
      generalize cbl px 1 w h x y cb 4 = cb4 at *
      generalize cbl px 2 w h x y cr 4 = cr4 at *
      have k1 : BlkOk (chr (chrP px w h 1 x y)) := chr_ok fun k _ => blkAt_ok hpb.b 1 w h _ _
      have k2 : BlkOk (chr (chrP px w h 2 x y)) := chr_ok fun k _ => blkAt_ok hpb.b 2 w h _ _
      have q1 : chr (segP cb4) = chr (chrP px w h 1 x y) := chr_congr sg1
      have q2 : chr (segP cr4) = chr (chrP px w h 2 x y) := chr_congr sg2
      have sc1 := scale_spec C hP b cb4 146 147 hbl lc1 (fun k hk => by rw [sg1 k hk]; exact blkAt_ok hpb.b 1 w h _ _)
      have sc2 := scale_spec C hP (fwd (chr (chrP px w h 1 x y))) cr4 146 147 (fwd_len _) lc2 (fun k hk => by rw [sg2 k hk]; exact blkAt_ok hpb.b 2 w h _ _)
      rw [q1] at sc1
      rw [q2] at sc2
      obtain ⟨a1, a2⟩ := i1.l 1 (by omega)
      have ho1 := i1.out
      simp -implicitDefEqProofs only [vms, ↓reduceIte, Nat.reduceEqDiff, reduceCtorEq]
      refine callK_fr [9, 10] sc1 rfl (by simp) rfl ⟨rfl, rfl, trivial⟩ rfl rfl rfl ?_
      rintro _ _ ⟨rfl, rfl⟩ -
      have mg1 : merge (CSrgba K buf T w h pix st1 b cb4 cr4) [9, 10] [.ints .i32 (chr (chrP px w h 1 x y)) 146, .ints .i32 cb4 147] = CSrgba K buf T w h pix st1 (chr (chrP px w h 1 x y)) cb4 cr4 := rfl
      rw [mg1]
      simp -implicitDefEqProofs only [vms, ↓reduceIte, Nat.reduceEqDiff, reduceCtorEq, callC, CSrgba]
      refine callK_wb hP hG hK hb k1 (c := 1) (by omega) a1 a2 i1.p (by omega) [imgB T 8 pix.length w h (4 * w), .vec .u8 pix 5, .ints .i32 (chr (chrP px w h 1 x y)) 146, .ints .i32 cb4 147, .ints .i32 cr4 147, rcB w h] 2 rfl rfl (.inr (by simp)) ?_
      have i2 : Inv (stepB K.q 1 1 (chr (chrP px w h 1 x y)) st1) (n + 4 + 1) := stepB_inv ht k1 i1 (by omega) (by omega)
      have f0 : quantF (fwd (chr (chrP px w h 1 x y))) K.q 1 0 = gI (stepB K.q 1 1 (chr (chrP px w h 1 x y)) st1).2 1 := by
        simp only [stepB]
        rw [gI_set _ _ _ _ (by rw [i1.l3]; omega), if_pos rfl]
      have f1 : gI (stepB K.q 1 1 (chr (chrP px w h 1 x y)) st1).2 0 = gI st1.2 0 := by
        simp only [stepB]
        rw [gI_set _ _ _ _ (by rw [i1.l3]; omega), if_neg (by omega)]
      have f2 : gI (stepB K.q 1 1 (chr (chrP px w h 1 x y)) st1).2 2 = gI st1.2 2 := by
        simp only [stepB]
        rw [gI_set _ _ _ _ (by rw [i1.l3]; omega), if_neg (by omega)]
      have eB : ∀ R : Mem, encP K buf (feed (st1.1.1, st1.1.2) (blkBits 1 (gI st1.2 1) (quantF (fwd (chr (chrP px w h 1 x y))) K.q 1))).1 (feed (st1.1.1, st1.1.2) (blkBits 1 (gI st1.2 1) (quantF (fwd (chr (chrP px w h 1 x y))) K.q 1))).2 ++ R = encP K buf (stepB K.q 1 1 (chr (chrP px w h 1 x y)) st1).1.1 (stepB K.q 1 1 (chr (chrP px w h 1 x y)) st1).1.2 ++ R := fun _ => rfl
      rw [eB, f0]
      generalize hs2 : stepB K.q 1 1 (chr (chrP px w h 1 x y)) st1 = st2 at *
      obtain ⟨b1, b2⟩ := i2.l 2 (by omega)
      have ho2 := i2.out
      simp -implicitDefEqProofs only [vms, ↓reduceIte, Nat.reduceEqDiff, reduceCtorEq, callC, Nat.reduceBEq]
      refine callK_fr [9, 11] sc2 rfl (by simp) rfl ⟨rfl, rfl, trivial⟩ rfl rfl rfl ?_
      rintro _ _ ⟨rfl, rfl⟩ -
      have mg2 : merge (encP K buf st2.1.1 st2.1.2 ++ [imgB T 8 pix.length w h (4 * w), .vec .u8 pix 5, .ints .i32 (fwd (chr (chrP px w h 1 x y))) 146, .ints .i32 cb4 147, .ints .i32 cr4 147, rcB w h]) [9, 11] [.ints .i32 (chr (chrP px w h 2 x y)) 146, .ints .i32 cr4 147] = encP K buf st2.1.1 st2.1.2 ++ [imgB T 8 pix.length w h (4 * w), .vec .u8 pix 5, .ints .i32 (chr (chrP px w h 2 x y)) 146, .ints .i32 cb4 147, .ints .i32 cr4 147, rcB w h] := rfl
      rw [mg2]
      rw [← f2] at *
      simp -implicitDefEqProofs only [vms, ↓reduceIte, Nat.reduceEqDiff, reduceCtorEq, callC]
      refine callK_wb hP hG hK hb k2 (c := 1) (by omega) b1 b2 i2.p (by omega) [imgB T 8 pix.length w h (4 * w), .vec .u8 pix 5, .ints .i32 (chr (chrP px w h 2 x y)) 146, .ints .i32 cb4 147, .ints .i32 cr4 147, rcB w h] 2 rfl rfl (.inr (by simp)) ?_
      have i3 : Inv (stepB K.q 2 1 (chr (chrP px w h 2 x y)) st2) (n + 4 + 1 + 1) := stepB_inv ht k2 i2 (by omega) (by omega)
      have h0 : quantF (fwd (chr (chrP px w h 2 x y))) K.q 1 0 = gI (stepB K.q 2 1 (chr (chrP px w h 2 x y)) st2).2 2 := by
        simp only [stepB]
        rw [gI_set _ _ _ _ (by rw [i2.l3]; omega), if_pos rfl]
      have h1 : gI (stepB K.q 2 1 (chr (chrP px w h 2 x y)) st2).2 0 = gI st2.2 0 := by
        simp only [stepB]
        rw [gI_set _ _ _ _ (by rw [i2.l3]; omega), if_neg (by omega)]
      have h2 : gI (stepB K.q 2 1 (chr (chrP px w h 2 x y)) st2).2 1 = gI st2.2 1 := by
        simp only [stepB]
        rw [gI_set _ _ _ _ (by rw [i2.l3]; omega), if_neg (by omega)]
      have eC : ∀ R : Mem, encP K buf (feed (st2.1.1, st2.1.2) (blkBits 1 (gI st2.2 2) (quantF (fwd (chr (chrP px w h 2 x y))) K.q 1))).1 (feed (st2.1.1, st2.1.2) (blkBits 1 (gI st2.2 2) (quantF (fwd (chr (chrP px w h 2 x y))) K.q 1))).2 ++ R = encP K buf (stepB K.q 2 1 (chr (chrP px w h 2 x y)) st2).1.1 (stepB K.q 2 1 (chr (chrP px w h 2 x y)) st2).1.2 ++ R := fun _ => rfl
      rw [eC, h0]
      have hst3 : stepB K.q 2 1 (chr (chrP px w h 2 x y)) st2 = mcu K.q px w h x y st := by
        rw [← hs2, hs1']; rfl
      simp -implicitDefEqProofs only [vms, ↓reduceIte, Nat.reduceEqDiff, reduceCtorEq, callC, Nat.reduceBEq, hw8]
      rw [hK1, roundK_normal, ← f1, ← h1, ← h2]
      rw [hst3] at i3 ⊢
      have hgo : colX K.q px w h y (d + 1) x st = colX K.q px w h y d (x + 16) (mcu K.q px w h x y st) := by
        simp only [colX, if_pos hxw]
      rw [hgo] at hQ
      exact ih (x + 16) (mcu K.q px w h x y st) (n + 6) (fwd (chr (chrP px w h 2 x y))) cb4 cr4 (fwd_len _) lc1 lc2 (by omega) (by omega) i3 (by omega) hQ
    · have hd : decide ((x : Int) < (w : Int)) = false := by simp; omega
      simp -implicitDefEqProofs only [vms, ↓reduceIte, Nat.reduceEqDiff, reduceCtorEq, c47l3, mR, c2, hd]
      rw [hK1]
      have hgo : colX K.q px w h y (d + 1) x st = st := by simp only [colX, if_neg hxw]
      rw [hgo] at hQ
      exact hQ _ b cb cr st hbl hcb hcr rfl

theorem scol_y_rgba (hP : C.P = Tryd.prog) (hG : GlobE C) (hK : EncOk K) (hKl : K.q.length = 128) (hb : buf.length = 16) (hw : 0 < w ∧ w ≤ 40) (hh : 0 < h ∧ h ≤ 40) (px : Nat → Nat → Nat → Int) (hpb : PxOk px) (hpx : RgbOk w h pix px) (Q : VX → Env → Mem → Prop) :
    ∀ (d y : Nat) (st : ScS) (n : Nat) (b cb cr : List Int), b.length = 64 → cb.length = 256 → cr.length = 256 → h ≤ y + 16 * d → y + 16 * d < 60 → Inv st n → n + 18 * d ≤ 600 →
      (∀ (l : Env) (b cb cr : List Int), b.length = 64 → Q (.exit 2) ((0, .ptr 0 0) :: l)
        (CSrgba K buf T w h pix (colY K.q px w h d y st) b cb cr)) →
      VRounds 9 (VWp C 9 [2] c47l4) (d + 1) [(0, .ptr 0 0), (4, .ptr 9 0), (5, .ptr 10 0), (6, .ptr 11 0), (7, .int .i32 (gI st.2 0)), (8, .int .i32 (gI st.2 1)), (9, .int .i32 (gI st.2 2)), (10, .ptr 12 0), (16, .ptr 7 0), (18, .nilp), (20, .int .i64 y)]
        (CSrgba K buf T w h pix st b cb cr) Q := by
  have ht : TabOk K.q := ⟨hKl, hK.q⟩
  intro d
  induction d with
  | zero =>
    intro y st n b cb cr hbl hcb hcr hx hx2 hi hn hQ
    refine round_gen fun K1 hK1 => ?_
    have hd : decide ((y : Int) < (h : Int)) = false := by simp; omega
    have mR : (CSrgba K buf T w h pix st b cb cr)[12]? = some (rcB w h) := rfl
    have c3 : cellB (some (rcB w h)) 3 = some (.int .i64 h) := rfl
    simp -implicitDefEqProofs only [vms, ↓reduceIte, Nat.reduceEqDiff, Nat.reduceAdd, reduceCtorEq, c47l4, mR, c3, hd]
    rw [hK1]
    exact hQ _ b cb cr hbl
  | succ d ih =>
    intro y st n b cb cr hbl hcb hcr hx hx2 hi hn hQ
    refine round_gen fun K1 hK1 => ?_
    have mR : (CSrgba K buf T w h pix st b cb cr)[12]? = some (rcB w h) := rfl
    have c3 : cellB (some (rcB w h)) 3 = some (.int .i64 h) := rfl
    have c0 : cellB (some (rcB w h)) 0 = some (.int .i64 0) := rfl
    by_cases hxw : y < h
    · have hd : decide ((y : Int) < (h : Int)) = true := by simp; omega
      have hw8 : IntKind.i64.wrap ((y : Int) + 16) = ((y + 16 : Nat) : Int) := wn (by omega) (by omega)
      simp -implicitDefEqProofs only [vms, ↓reduceIte, Nat.reduceEqDiff, Nat.reduceAdd, reduceCtorEq, c47l4, mR, c3, c0, hd]
      apply VWp_loop_of (k := 4)
      refine scol_x_rgba C K buf T w h pix hP hG hK hKl hb hw hh px hpb hpx y (by omega) _ 3 0 st n b cb cr hbl hcb hcr (by omega) (by omega) hi (by omega) ?_
      intro l b cb cr st' hbl hcb hcr hs
      simp -implicitDefEqProofs only [vms, ↓reduceIte, Nat.reduceEqDiff, reduceCtorEq, hw8]
      rw [hK1, roundK_normal]
      have hgo : colY K.q px w h (d + 1) y st = colY K.q px w h d (y + 16) (colX K.q px w h y 3 0 st) := by
        simp only [colY, if_pos hxw]
      rw [hgo, ← hs] at hQ
      exact ih (y + 16) st' (n + 18) b cb cr hbl hcb hcr (by omega) (by omega) (by rw [hs]; exact colX_inv2 w h hpb ht y 3 0 st n hi) (by omega) hQ
    · have hd : decide ((y : Int) < (h : Int)) = false := by simp; omega
      simp -implicitDefEqProofs only [vms, ↓reduceIte, Nat.reduceEqDiff, Nat.reduceAdd, reduceCtorEq, c47l4, mR, c3, hd]
      rw [hK1]
      have hgo : colY K.q px w h (d + 1) y st = st := by simp only [colY, if_neg hxw]
      rw [hgo] at hQ
      exact hQ _ b cb cr hbl

def MHrgba (out : List Int) : Mem := encM K buf 0 0 out ++ [imgB T 8 pix.length w h (4 * w), .vec .u8 pix 5, .vec .u8 sosCL 5, .ints .i32 (List.replicate 64 0) 146, .ints .i32 (List.replicate 256 0) 147, .ints .i32 (List.replicate 256 0) 147]
theorem mhrgba_cl (out : List Int) : memCl 13 (MHrgba K buf T w h pix out) = true := by
  simp only [memCl, MHrgba, encM, List.cons_append, List.nil_append, List.all_cons, List.all_nil, Blk.refs, encBlk, enc_refs]
  rfl

set_option maxHeartbeats 1000000 in
theorem sos_rgba (hP : C.P = Tryd.prog) (hG : GlobE C) (hK : EncOk K) (hKl : K.q.length = 128) (hb : buf.length = 16) (hw : 0 < w ∧ w ≤ 40) (hh : 0 < h ∧ h ≤ 40) (px : Nat → Nat → Nat → Int) (hpb : PxOk px) (hpx : RgbOk w h pix px) (out : List Int) (ho : out.length ≤ 10000) :
    VCalls C 47 [.ptr 0 0, .iface 95 (.ptr 7 0)] (encP K buf [] out ++ [imgB T 8 pix.length w h (4 * w), .vec .u8 pix 5]) [2]
      (fun v M' => v = .tup [] ∧ M' = encP K buf (scanE w h false K.q px (out ++ sosCL)).1 (scanE w h false K.q px (out ++ sosCL)).2 ++ [imgB T 8 pix.length w h (4 * w), .vec .u8 pix 5]) := by
  rw [encP_nil]
  refine VCalls.of_fn (hs := h47) (F := F47) (by rw [hP]; exact is47) (by simp [F47]) ?_
  have ht : TabOk K.q := ⟨hKl, hK.q⟩
  have l9 : (encM K buf 0 0 out ++ ([imgB T 8 pix.length w h (4 * w), .vec .u8 pix 5] : Mem)).length = 9 := rfl
  have n91 : (95 = 91) = False := by simp
  have ta : ∀ t v, ((95 : Nat) = t) = False → vtas t .nilp (.iface 95 v) = some (.tup [.nilp, .bool false]) := fun t v h => vtas_other h
  have t91 := ta 91 (.ptr 7 0) (by simp)
  have tn := ta 99 (.ptr 7 0) (by simp)
  have t1 : ∀ u : V, tupGo 1 (.tup [u, .bool false]) = some (.bool false) := fun _ => rfl
  have t0 : tupGo 0 (.tup [.nilp, .bool false]) = some .nilp := rfl
  have s1 : tupGo 1 (.tup [.ptr 7 0, .bool true]) = some (.bool true) := rfl
  have s0 : tupGo 0 (.tup [.ptr 7 0, .bool true]) = some (.ptr 7 0) := rfl
  have hos : (out ++ sosCL).length ≤ 12000 := by simp [sosCL]; omega
  simp -implicitDefEqProofs only [vms, ↓reduceIte, Nat.reduceEqDiff, Nat.reduceAdd, reduceCtorEq, F47, c47, l9, t91, t1, t0]
  refine callK_new (sosC_spec C hP) rfl rfl (.vec 9 14) [.vec .u8 sosCL 5] rfl rfl ?_
  simp -implicitDefEqProofs only [vms, ↓reduceIte, Nat.reduceEqDiff, reduceCtorEq, callC]
  refine callK_of [2] rfl (by simp) (write_any C hP K buf hb 0 0 out [imgB T 8 pix.length w h (4 * w), .vec .u8 pix 5, .vec .u8 sosCL 5] rfl (.vec 9 14) sosCL rfl (fun M hM => by simp only [vlen, hM 9 (by omega)]; rfl) rfl rfl (by simp [sosCL]; omega)) ?_
  rintro _ _ ⟨rfl, rfl⟩
  generalize hout' : out ++ sosCL = out' at *
  have ao : ((imgR w h).all V.one) = true := rfl
  have il : (imgR w h).length = 4 := rfl
  have i1 : (imgR w h)[1]? = some (.int .i64 0) := rfl
  simp -implicitDefEqProofs only [vms, ↓reduceIte, Nat.reduceEqDiff, Nat.reduceAdd, reduceCtorEq, callC, Nat.reduceBEq, encM, hP, methB95, call73]
  refine ⟨rfl, ?_⟩
  refine callK_of [] rfl (by simp) (bounds1 C w h hP 73 (.inr rfl) (MHrgba K buf T w h pix out') (mhrgba_cl K buf T w h pix out') T 8 pix.length (4 * w) 7 rfl) ?_
  rintro _ _ ⟨rfl, rfl⟩
  simp -implicitDefEqProofs only [vms, ↓reduceIte, Nat.reduceEqDiff, Nat.reduceAdd, reduceCtorEq, callC, MHrgba, encM, stGo_putA, putA_own, ao, il, i1, t91, tn, t1, t0, s1, s0]
  apply VWp_loop_of (k := 4)
  refine VRounds_adj (adj_pickN [0, 1, 2, 3, 4, 5, 6, 7, 8, 10, 11, 12, 13] [(0, .ptr 0 0), (4, .ptr 9 0), (5, .ptr 10 0), (6, .ptr 11 0), (7, .int .i32 0), (8, .int .i32 0), (9, .int .i32 0), (10, .ptr 12 0), (16, .ptr 7 0), (18, .nilp), (20, .int .i64 0)] (CSrgba K buf T w h pix (([], out'), [0, 0, 0]) (List.replicate 64 0) (List.replicate 256 0) (List.replicate 256 0)) rfl (by simp [CSrgba, encP_len]) rfl (by decide) ?_ rfl rfl (CSrgba_cl K buf T w h pix _ _ _ _)) ?_
  · simp only [CSrgba, encP_nil, encM, encBlk_eq, List.cons_append, List.nil_append, List.map_cons, List.map_nil, encBlkG_ren]
    rfl
  have hi1 := invO out' hos
  refine scol_y_rgba C K buf T w h pix hP hG hK hKl hb hw hh px hpb hpx _ 3 0 (([], out'), [0, 0, 0]) 1 _ _ _ rfl rfl rfl (by omega) (by omega) hi1 (by omega) ?_
  intro l b cb cr hbl
  have hi := colY_inv2 w h hpb ht 3 0 _ _ hi1
  have hsc : colY K.q px w h 3 0 (([], out'), [0, 0, 0]) = scan K.q px w h false (([], out'), [0, 0, 0]) := rfl
  rw [hsc] at hi ⊢
  generalize hS : scan K.q px w h false (([], out'), [0, 0, 0]) = S at hi ⊢
  have hout := hi.out
  simp -implicitDefEqProofs only [vms, ↓reduceIte, reduceCtorEq, CSrgba]
  have em := emit_spec C hP K buf hb S.1.1 hi.p S.1.2 (by omega) 127 7 (by omega) (by decide)
  have h7 : bitsOf 127 7 = List.replicate 7 true := rfl
  have hfe : feed (S.1.1, S.1.2) (bitsOf 127 7) = scanE w h false K.q px out' := by unfold scanE; rw [hS, h7]
  rw [hfe] at em
  simp only [natCast_lit] at em
  generalize scanE w h false K.q px out' = E at em ⊢
  refine callK_pre [imgB T 8 pix.length w h (4 * w), .vec .u8 pix 5, .ints .i32 b 146, .ints .i32 cb 147, .ints .i32 cr 147, rcB w h] em rfl rfl encM_cl encM_cl rfl rfl (by simp) rfl rfl ?_
  simp -implicitDefEqProofs only [vms, ↓reduceIte, callC, Nat.reduceBEq, vres_nil]
  refine retGo_take 9 (Nat.le_refl _) (by simp [encP_len]) rfl ?_ ⟨rfl, rfl⟩
  simp only [memCl, encP, encM, List.cons_append, List.nil_append, List.take_succ_cons, List.take_zero, List.all_cons, List.all_nil, Blk.refs, encBlk, enc_refs]
  rfl
end
end Go.VM
