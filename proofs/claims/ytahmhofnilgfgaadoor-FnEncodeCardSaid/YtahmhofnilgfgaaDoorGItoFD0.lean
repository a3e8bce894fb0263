/-
  A part of a machine over the model and of a walk by it, proved right against the model; proved outright, under no condition but what each theorem names.
-/
import Derived.Test.YtahmhofnilgfgaaDoorGH
import Derived.Test.YtahmhofnilgfgaaDoorGGtoFT
import Derived.Test.YtahmhofnilgfgaaDoorETtoFG
import Derived.Test.YtahmhofnilgfgaaDoorFFtoFJ
import Derived.Test.YtahmhofnilgfgaaDoorFDLtoFL
set_option linter.unusedVariables false
set_option linter.unusedSimpArgs false
section
set_option linter.unusedSimpArgs false
set_option maxRecDepth 10000
namespace Go.VM
open Go Go.Proofs Go.Bits

/-! The encoder's writeSOS: luma and chroma. -/

/-! ycc -/
section
variable (C : Ctx) (K : EncK) (buf : List Int) (T w h : Nat) (Y B R : List Int)
def CSycc (st : ScS) (b cb cr : List Int) : Mem := encP K buf st.1.1 st.1.2 ++ [yccImg T 8 (w * h) w h, .vec .u8 Y 5, .vec .u8 B 5, .vec .u8 R 5, .ints .i32 b 146, .ints .i32 cb 147, .ints .i32 cr 147, rcB w h]
theorem CSycc_cl (st : ScS) (b cb cr : List Int) : memCl 15 (CSycc K buf T w h Y B R st b cb cr) = true := by
  simp only [memCl, CSycc, encP, encM, List.cons_append, List.nil_append, List.all_cons, List.all_nil, Blk.refs, encBlk, enc_refs]
  rfl

theorem slum_ycc (hP : C.P = Tryd.prog) (hG : GlobE C) (hK : EncOk K) (hKl : K.q.length = 128) (hb : buf.length = 16) (hw : 0 < w ∧ w ≤ 40) (hh : 0 < h ∧ h ≤ 40) (px : Nat → Nat → Nat → Int) (hpb : PxOk px) (hpx : YccOk w h Y B R px) (x y : Nat) (hx : x < 44) (hy : y < 44) (cb0 cr0 : List Int) (hcb0 : cb0.length = 256) (hcr0 : cr0.length = 256) (Q : VX → Env → Mem → Prop) :
    ∀ (d i : Nat) (st : ScS) (n : Nat) (b : List Int), b.length = 64 → i + d = 4 → Inv st n → n + d ≤ 900 →
      (∀ (l : Env) (b : List Int) (st' : ScS), b.length = 64 → st' = lumK K.q px w h x y d i st → gI st'.2 1 = gI st.2 1 → gI st'.2 2 = gI st.2 2 → Q (.exit 6) ((0, .ptr 0 0) :: (4, .ptr 11 0) :: (5, .ptr 12 0) :: (6, .ptr 13 0) :: (7, .int .i32 (gI st'.2 0)) :: (8, .int .i32 (gI st'.2 1)) :: (9, .int .i32 (gI st'.2 2)) :: (10, .ptr 14 0) :: (16, .nilp) :: (18, .ptr 7 0) :: (20, .int .i64 y) :: (21, .int .i64 x) :: l)
        (CSycc K buf T w h Y B R st' b (cbl px 1 w h x y cb0 4) (cbl px 2 w h x y cr0 4))) →
      VRounds 11 (VWp C 11 [2] c47l2) (d + 1) [(0, .ptr 0 0), (4, .ptr 11 0), (5, .ptr 12 0), (6, .ptr 13 0), (7, .int .i32 (gI st.2 0)), (8, .int .i32 (gI st.2 1)), (9, .int .i32 (gI st.2 2)), (10, .ptr 14 0), (16, .nilp), (18, .ptr 7 0), (20, .int .i64 y), (21, .int .i64 x), (22, .int .i64 i)]
        (CSycc K buf T w h Y B R st b (cbl px 1 w h x y cb0 i) (cbl px 2 w h x y cr0 i)) Q := by
  have ht : TabOk K.q := ⟨hKl, hK.q⟩
  intro d
  induction d with
  | zero =>
    intro i st n b hbl hi4 hi hn hQ
    refine round_gen fun K1 hK1 => ?_
    have h4 : i = 4 := by omega
    subst h4
    simp -implicitDefEqProofs only [vms, ↓reduceIte, Nat.reduceEqDiff, reduceCtorEq, natCast_lit, Int.reduceLT, c47l2]
    rw [hK1]
    exact hQ _ b st hbl rfl rfl rfl
  | succ d ih =>
    intro i st n b hbl hi4 hi hn hQ
    refine round_gen fun K1 hK1 => ?_
    have hd : decide ((i : Int) < 4) = true := by simp; omega
    have hwi : IntKind.i64.wrap ((i : Int) + 1) = ((i + 1 : Nat) : Int) := wn (by omega) (by omega)
    have hic : i = 0 ∨ i = 1 ∨ i = 2 ∨ i = 3 := by omega
    have ba : Go.bits .and .i64 (i : Int) 1 = ((i % 2 : Nat) : Int) := by rcases hic with rfl | rfl | rfl | rfl <;> decide
    have bb : Go.bits .and .i64 (i : Int) 2 = ((i / 2 * 2 : Nat) : Int) := by rcases hic with rfl | rfl | rfl | rfl <;> decide
    have w1 : IntKind.i64.wrap (((i % 2 : Nat) : Int) * 8) = ((i % 2 * 8 : Nat) : Int) := wn (by omega) (by omega)
    have w2 : IntKind.i64.wrap (((i / 2 * 2 : Nat) : Int) * 4) = ((i / 2 * 8 : Nat) : Int) := wn (by omega) (by omega)
    have w3 : IntKind.i64.wrap ((x : Int) + ((i % 2 * 8 : Nat) : Int)) = ((x + i % 2 * 8 : Nat) : Int) := wn (by omega) (by omega)
    have w4 : IntKind.i64.wrap ((y : Int) + ((i / 2 * 8 : Nat) : Int)) = ((y + i / 2 * 8 : Nat) : Int) := wn (by omega) (by omega)
    obtain ⟨l1, l2⟩ := hi.l 0 (by omega)
    have ho := hi.out
    have hc1 := cbl_len px 1 w h x y cb0 i
    have hc2 := cbl_len px 2 w h x y cr0 i
    have cs1 : curO (cbl px 1 w h x y cb0 i) (64 * i) (FB px w h (x + i % 2 * 8) (y + i / 2 * 8) 1) 64 = cbl px 1 w h x y cb0 (i + 1) := rfl
    have cs2 : curO (cbl px 2 w h x y cr0 i) (64 * i) (FB px w h (x + i % 2 * 8) (y + i / 2 * 8) 2) 64 = cbl px 2 w h x y cr0 (i + 1) := rfl
    have sp := yccb_spec C w h hP T hw hh Y B R px hpx b (cbl px 1 w h x y cb0 i) (cbl px 2 w h x y cr0 i) hbl (by rw [hc1, hcb0]) (by rw [hc2, hcr0]) (64 * i) (by omega) (x + i % 2 * 8) (y + i / 2 * 8) (by omega) (by omega)
    rw [cs1, cs2] at sp
    generalize cbl px 1 w h x y cb0 i = cbi at *
    generalize cbl px 2 w h x y cr0 i = cri at *
    generalize hX : x + i % 2 * 8 = x' at *
    generalize hY : y + i / 2 * 8 = y' at *
    have hbk := blkAt_ok hpb.b 0 w h x' y'
    have st2 : ∀ BB : Blk, stGo (CSycc K buf T w h Y B R st b cbi cri ++ [BB]) 2 (.agg [.int .i64 x', .int .i64 y']) (.ptr 15 0) = putA (CSycc K buf T w h Y B R st b cbi cri ++ [BB]) 2 15 [.int .i64 x', .int .i64 y'] (some BB) := fun BB => by rw [stGo_putA (by simp)]; rfl
    have len : (CSycc K buf T w h Y B R st b cbi cri).length = 15 := rfl
    have ao : (([.int .i64 x', .int .i64 y'] : List V).all V.one) = true := rfl
    have sp2 : ∀ BB : Blk, (CSycc K buf T w h Y B R st b cbi cri ++ [BB]).set 15 (.own [.int .i64 x', .int .i64 y'] 87) = CSycc K buf T w h Y B R st b cbi cri ++ [ptB x' y'] := fun _ => rfl
    have mN : (CSycc K buf T w h Y B R st b cbi cri ++ [ptB x' y'])[15]? = some (ptB x' y') := rfl
    have rp : rangeB (some (ptB x' y')) 0 2 = some (.agg [.int .i64 x', .int .i64 y']) := rfl
    have ia : ∀ p : Nat, vidxA 4 64 (.ptr p 0) (.int .i64 (i : Int)) = some (.ptr p (64 * i)) := fun p => by
      rw [vidxA_ptr (by omega) (by omega), Int.toNat_natCast, Nat.zero_add, Nat.mul_comm]
    simp -implicitDefEqProofs only [vms, ↓reduceIte, Nat.reduceEqDiff, reduceCtorEq, c47l2, hd, ba, bb, w1, w2, w3, w4]
    refine callK_of [] rfl (by simp) (pt_spec C hP _ (CSycc_cl K buf T w h Y B R st b cbi cri) x' y') ?_
    rintro _ _ ⟨rfl, rfl⟩
    simp -implicitDefEqProofs only [vms, ↓reduceIte, Nat.reduceEqDiff, Nat.reduceAdd, reduceCtorEq, callC, len, st2, putA_own, ao, sp2, range_eqB, mN, rp, ia]
    refine callK_fr [7, 8, 9, 10, 11, 12, 13] sp rfl (by simp) rfl ⟨rfl, rfl, rfl, rfl, rfl, rfl, rfl, trivial⟩ rfl rfl rfl ?_
    rintro _ _ ⟨rfl, rfl⟩ -
    have mg : merge (CSycc K buf T w h Y B R st b cbi cri ++ [ptB x' y']) [7, 8, 9, 10, 11, 12, 13] ((YM T w h Y B R (blkAt px 0 w h x' y') (cbl px 1 w h x y cb0 (i + 1)) (cbl px 2 w h x y cr0 (i + 1)) x' y').take 7) = encP K buf st.1.1 st.1.2 ++ [yccImg T 8 (w * h) w h, .vec .u8 Y 5, .vec .u8 B 5, .vec .u8 R 5, .ints .i32 (blkAt px 0 w h x' y') 146, .ints .i32 (cbl px 1 w h x y cb0 (i + 1)) 147, .ints .i32 (cbl px 2 w h x y cr0 (i + 1)) 147, rcB w h, ptB x' y'] := rfl
    rw [mg]
    simp -implicitDefEqProofs only [vms, ↓reduceIte, Nat.reduceEqDiff, reduceCtorEq, callC]
    refine callK_wb hP hG hK hb hbk (c := 0) (by omega) l1 l2 hi.p (by omega) [yccImg T 8 (w * h) w h, .vec .u8 Y 5, .vec .u8 B 5, .vec .u8 R 5, .ints .i32 (blkAt px 0 w h x' y') 146, .ints .i32 (cbl px 1 w h x y cb0 (i + 1)) 147, .ints .i32 (cbl px 2 w h x y cr0 (i + 1)) 147, rcB w h, ptB x' y'] 4 rfl rfl (.inr (by simp)) ?_
    simp -implicitDefEqProofs only [vms, ↓reduceIte, Nat.reduceEqDiff, reduceCtorEq, callC, Nat.reduceBEq, hwi]
    rw [hK1, roundK_normal]
    have e0 : quantF (fwd (blkAt px 0 w h x' y')) K.q 0 0 = gI (stepB K.q 0 0 (blkAt px 0 w h x' y') st).2 0 := by
      simp only [stepB]
      rw [gI_set _ _ _ _ (by rw [hi.l3]; omega), if_pos rfl]
    have e1 : gI (stepB K.q 0 0 (blkAt px 0 w h x' y') st).2 1 = gI st.2 1 := by
      simp only [stepB]
      rw [gI_set _ _ _ _ (by rw [hi.l3]; omega), if_neg (by omega)]
    have e2 : gI (stepB K.q 0 0 (blkAt px 0 w h x' y') st).2 2 = gI st.2 2 := by
      simp only [stepB]
      rw [gI_set _ _ _ _ (by rw [hi.l3]; omega), if_neg (by omega)]
    rw [e0, ← e1, ← e2]
    refine VRounds_adj (adj_take 15 (by simp) (by simp [encP_len]) rfl (CSycc_cl K buf T w h Y B R (stepB K.q 0 0 (blkAt px 0 w h x' y') st) (fwd (blkAt px 0 w h x' y')) _ _)) ?_
    refine ih (i + 1) (stepB K.q 0 0 (blkAt px 0 w h x' y') st) (n + 1) (fwd (blkAt px 0 w h x' y')) (fwd_len _) (by omega) (stepB_inv ht hbk hi (by omega) (by omega)) (by omega) ?_
    intro l b st' hbl' hs h1 h2
    refine hQ l b st' hbl' ?_ (h1.trans e1) (h2.trans e2)
    rw [hs]
    simp only [lumK, hX, hY]

theorem scol_x_ycc (hP : C.P = Tryd.prog) (hG : GlobE C) (hK : EncOk K) (hKl : K.q.length = 128) (hb : buf.length = 16) (hw : 0 < w ∧ w ≤ 40) (hh : 0 < h ∧ h ≤ 40) (px : Nat → Nat → Nat → Int) (hpb : PxOk px) (hpx : YccOk w h Y B R px) (y : Nat) (hy : y < 44) (Q : VX → Env → Mem → Prop) :
    ∀ (d x : Nat) (st : ScS) (n : Nat) (b cb cr : List Int), b.length = 64 → cb.length = 256 → cr.length = 256 → w ≤ x + 16 * d → x + 16 * d < 60 → Inv st n → n + 6 * d ≤ 700 →
      (∀ (l : Env) (b cb cr : List Int) (st' : ScS), b.length = 64 → cb.length = 256 → cr.length = 256 → st' = colX K.q px w h y d x st → Q (.exit 4) ((0, .ptr 0 0) :: (4, .ptr 11 0) :: (5, .ptr 12 0) :: (6, .ptr 13 0) :: (7, .int .i32 (gI st'.2 0)) :: (8, .int .i32 (gI st'.2 1)) :: (9, .int .i32 (gI st'.2 2)) :: (10, .ptr 14 0) :: (16, .nilp) :: (18, .ptr 7 0) :: (20, .int .i64 y) :: l)
        (CSycc K buf T w h Y B R st' b cb cr)) →
      VRounds 11 (VWp C 11 [2] c47l3) (d + 1) [(0, .ptr 0 0), (4, .ptr 11 0), (5, .ptr 12 0), (6, .ptr 13 0), (7, .int .i32 (gI st.2 0)), (8, .int .i32 (gI st.2 1)), (9, .int .i32 (gI st.2 2)), (10, .ptr 14 0), (16, .nilp), (18, .ptr 7 0), (20, .int .i64 y), (21, .int .i64 x)]
        (CSycc K buf T w h Y B R st b cb cr) Q := by
  have ht : TabOk K.q := ⟨hKl, hK.q⟩
  intro d
  induction d with
  | zero =>
    intro x st n b cb cr hbl hcb hcr hx hx2 hi hn hQ
    refine round_gen fun K1 hK1 => ?_
    have hd : decide ((x : Int) < (w : Int)) = false := by simp; omega
    have mR : (CSycc K buf T w h Y B R st b cb cr)[14]? = some (rcB w h) := rfl
    have c2 : cellB (some (rcB w h)) 2 = some (.int .i64 w) := rfl
    simp -implicitDefEqProofs only [vms, ↓reduceIte, Nat.reduceEqDiff, reduceCtorEq, c47l3, mR, c2, hd]
    rw [hK1]
    exact hQ _ b cb cr st hbl hcb hcr rfl
  | succ d ih =>
    intro x st n b cb cr hbl hcb hcr hx hx2 hi hn hQ
    refine round_gen fun K1 hK1 => ?_
    have mR : (CSycc K buf T w h Y B R st b cb cr)[14]? = some (rcB w h) := rfl
    have c2 : cellB (some (rcB w h)) 2 = some (.int .i64 w) := rfl
    by_cases hxw : x < w
    · have hd : decide ((x : Int) < (w : Int)) = true := by simp; omega
      have hw8 : IntKind.i64.wrap ((x : Int) + 16) = ((x + 16 : Nat) : Int) := wn (by omega) (by omega)
      simp -implicitDefEqProofs only [vms, ↓reduceIte, Nat.reduceEqDiff, reduceCtorEq, c47l3, mR, c2, hd]
      apply VWp_loop_of (k := 5)
      refine slum_ycc C K buf T w h Y B R hP hG hK hKl hb hw hh px hpb hpx x y (by omega) hy cb cr hcb hcr _ 4 0 st n b hbl rfl hi (by omega) ?_
      intro l b st1 hbl hs1 g1 g2
      have i1 : Inv st1 (n + 4) := by rw [hs1]; exact lumK_inv2 w h hpb ht x y 4 0 st n hi
      have hs1' : st1 = lumK K.q px w h x y 4 0 st := hs1
      have lc1 : (cbl px 1 w h x y cb 4).length = 256 := by rw [cbl_len, hcb]
      have lc2 : (cbl px 2 w h x y cr 4).length = 256 := by rw [cbl_len, hcr]
      have sg1 := seg_cbl px 1 w h x y cb hcb
      have sg2 := seg_cbl px 2 w h x y cr hcr
      generalize cbl px 1 w h x y cb 4 = cb4 at *
      generalize cbl px 2 w h x y cr 4 = cr4 at *
      have k1 : BlkOk (chr (chrP px w h 1 x y)) := chr_ok fun k _ => blkAt_ok hpb.b 1 w h _ _
      have k2 : BlkOk (chr (chrP px w h 2 x y)) := chr_ok fun k _ => blkAt_ok hpb.b 2 w h _ _
      have q1 : chr (segP cb4) = chr (chrP px w h 1 x y) := chr_congr sg1
      have q2 : chr (segP cr4) = chr (chrP px w h 2 x y) := chr_congr sg2
      have sc1 := scale_spec C hP b cb4 146 147 hbl lc1 (fun k hk => by rw [sg1 k hk]; exact blkAt_ok hpb.b 1 w h _ _)
      have sc2 := scale_spec C hP (fwd (chr (chrP px w h 1 x y))) cr4 146 147 (fwd_len _) lc2 (fun k hk => by rw [sg2 k hk]; exact blkAt_ok hpb.b 2 w h _ _)
      rw [q1] at sc1
      rw [q2] at sc2
      obtain ⟨a1, a2⟩ := i1.l 1 (by omega)
      have ho1 := i1.out
      simp -implicitDefEqProofs only [vms, ↓reduceIte, Nat.reduceEqDiff, reduceCtorEq]
      refine callK_fr [11, 12] sc1 rfl (by simp) rfl ⟨rfl, rfl, trivial⟩ rfl rfl rfl ?_
      rintro _ _ ⟨rfl, rfl⟩ -
      have mg1 : merge (CSycc K buf T w h Y B R st1 b cb4 cr4) [11, 12] [.ints .i32 (chr (chrP px w h 1 x y)) 146, .ints .i32 cb4 147] = CSycc K buf T w h Y B R st1 (chr (chrP px w h 1 x y)) cb4 cr4 := rfl
      rw [mg1]
      simp -implicitDefEqProofs only [vms, ↓reduceIte, Nat.reduceEqDiff, reduceCtorEq, callC, CSycc]
      refine callK_wb hP hG hK hb k1 (c := 1) (by omega) a1 a2 i1.p (by omega) [yccImg T 8 (w * h) w h, .vec .u8 Y 5, .vec .u8 B 5, .vec .u8 R 5, .ints .i32 (chr (chrP px w h 1 x y)) 146, .ints .i32 cb4 147, .ints .i32 cr4 147, rcB w h] 4 rfl rfl (.inr (by simp)) ?_
      have i2 : Inv (stepB K.q 1 1 (chr (chrP px w h 1 x y)) st1) (n + 4 + 1) := stepB_inv ht k1 i1 (by omega) (by omega)
      have f0 : quantF (fwd (chr (chrP px w h 1 x y))) K.q 1 0 = gI (stepB K.q 1 1 (chr (chrP px w h 1 x y)) st1).2 1 := by
        simp only [stepB]
        rw [gI_set _ _ _ _ (by rw [i1.l3]; omega), if_pos rfl]
      have f1 : gI (stepB K.q 1 1 (chr (chrP px w h 1 x y)) st1).2 0 = gI st1.2 0 := by
        simp only [stepB]
        rw [gI_set _ _ _ _ (by rw [i1.l3]; omega), if_neg (by omega)]
      have f2 : gI (stepB K.q 1 1 (chr (chrP px w h 1 x y)) st1).2 2 = gI st1.2 2 := by
        simp only [stepB]
        rw [gI_set _ _ _ _ (by rw [i1.l3]; omega), if_neg (by omega)]
      have eB : ∀ R : Mem, encP K buf (feed (st1.1.1, st1.1.2) (blkBits 1 (gI st1.2 1) (quantF (fwd (chr (chrP px w h 1 x y))) K.q 1))).1 (feed (st1.1.1, st1.1.2) (blkBits 1 (gI st1.2 1) (quantF (fwd (chr (chrP px w h 1 x y))) K.q 1))).2 ++ R = encP K buf (stepB K.q 1 1 (chr (chrP px w h 1 x y)) st1).1.1 (stepB K.q 1 1 (chr (chrP px w h 1 x y)) st1).1.2 ++ R := fun _ => rfl
      rw [eB, f0]
      generalize hs2 : stepB K.q 1 1 (chr (chrP px w h 1 x y)) st1 = st2 at *
      obtain ⟨b1, b2⟩ := i2.l 2 (by omega)
      have ho2 := i2.out
      simp -implicitDefEqProofs only [vms, ↓reduceIte, Nat.reduceEqDiff, reduceCtorEq, callC, Nat.reduceBEq]
      refine callK_fr [11, 13] sc2 rfl (by simp) rfl ⟨rfl, rfl, trivial⟩ rfl rfl rfl ?_
      rintro _ _ ⟨rfl, rfl⟩ -
      have mg2 : merge (encP K buf st2.1.1 st2.1.2 ++ [yccImg T 8 (w * h) w h, .vec .u8 Y 5, .vec .u8 B 5, .vec .u8 R 5, .ints .i32 (fwd (chr (chrP px w h 1 x y))) 146, .ints .i32 cb4 147, .ints .i32 cr4 147, rcB w h]) [11, 13] [.ints .i32 (chr (chrP px w h 2 x y)) 146, .ints .i32 cr4 147] = encP K buf st2.1.1 st2.1.2 ++ [yccImg T 8 (w * h) w h, .vec .u8 Y 5, .vec .u8 B 5, .vec .u8 R 5, .ints .i32 (chr (chrP px w h 2 x y)) 146, .ints .i32 cb4 147, .ints .i32 cr4 147, rcB w h] := rfl
      rw [mg2]
      rw [← f2] at *
      simp -implicitDefEqProofs only [vms, ↓reduceIte, Nat.reduceEqDiff, reduceCtorEq, callC]
      refine callK_wb hP hG hK hb k2 (c := 1) (by omega) b1 b2 i2.p (by omega) [yccImg T 8 (w * h) w h, .vec .u8 Y 5, .vec .u8 B 5, .vec .u8 R 5, .ints .i32 (chr (chrP px w h 2 x y)) 146, .ints .i32 cb4 147, .ints .i32 cr4 147, rcB w h] 4 rfl rfl (.inr (by simp)) ?_
      have i3 : Inv (stepB K.q 2 1 (chr (chrP px w h 2 x y)) st2) (n + 4 + 1 + 1) := stepB_inv ht k2 i2 (by omega) (by omega)
      have h0 : quantF (fwd (chr (chrP px w h 2 x y))) K.q 1 0 = gI (stepB K.q 2 1 (chr (chrP px w h 2 x y)) st2).2 2 := by
        simp only [stepB]
        rw [gI_set _ _ _ _ (by rw [i2.l3]; omega), if_pos rfl]
      have h1 : gI (stepB K.q 2 1 (chr (chrP px w h 2 x y)) st2).2 0 = gI st2.2 0 := by
        simp only [stepB]
        rw [gI_set _ _ _ _ (by rw [i2.l3]; omega), if_neg (by omega)]
      have h2 : gI (stepB K.q 2 1 (chr (chrP px w h 2 x y)) st2).2 1 = gI st2.2 1 := by
        simp only [stepB]
        rw [gI_set _ _ _ _ (by rw [i2.l3]; omega), if_neg (by omega)]
      have eC : ∀ R : Mem, encP K buf (feed (st2.1.1, st2.1.2) (blkBits 1 (gI st2.2 2) (quantF (fwd (chr (chrP px w h 2 x y))) K.q 1))).1 (feed (st2.1.1, st2.1.2) (blkBits 1 (gI st2.2 2) (quantF (fwd (chr (chrP px w h 2 x y))) K.q 1))).2 ++ R = encP K buf (stepB K.q 2 1 (chr (chrP px w h 2 x y)) st2).1.1 (stepB K.q 2 1 (chr (chrP px w h 2 x y)) st2).1.2 ++ R := fun _ => rfl
      rw [eC, h0]
      have hst3 : stepB K.q 2 1 (chr (chrP px w h 2 x y)) st2 = mcu K.q px w h x y st := by
        rw [← hs2, hs1']; rfl
      simp -implicitDefEqProofs only [vms, ↓reduceIte, Nat.reduceEqDiff, reduceCtorEq, callC, Nat.reduceBEq, hw8]
      rw [hK1, roundK_normal, ← f1, ← h1, ← h2]
      rw [hst3] at i3 ⊢
      have hgo : colX K.q px w h y (d + 1) x st = colX K.q px w h y d (x + 16) (mcu K.q px w h x y st) := by
        simp only [colX, if_pos hxw]
      rw [hgo] at hQ
      exact ih (x + 16) (mcu K.q px w h x y st) (n + 6) (fwd (chr (chrP px w h 2 x y))) cb4 cr4 (fwd_len _) lc1 lc2 (by omega) (by omega) i3 (by omega) hQ
    · have hd : decide ((x : Int) < (w : Int)) = false := by simp; omega
      simp -implicitDefEqProofs only [vms, ↓reduceIte, Nat.reduceEqDiff, reduceCtorEq, c47l3, mR, c2, hd]
      rw [hK1]
      have hgo : colX K.q px w h y (d + 1) x st = st := by simp only [colX, if_neg hxw]
      rw [hgo] at hQ
      exact hQ _ b cb cr st hbl hcb hcr rfl

theorem scol_y_ycc (hP : C.P = Tryd.prog) (hG : GlobE C) (hK : EncOk K) (hKl : K.q.length = 128) (hb : buf.length = 16) (hw : 0 < w ∧ w ≤ 40) (hh : 0 < h ∧ h ≤ 40) (px : Nat → Nat → Nat → Int) (hpb : PxOk px) (hpx : YccOk w h Y B R px) (Q : VX → Env → Mem → Prop) :
    ∀ (d y : Nat) (st : ScS) (n : Nat) (b cb cr : List Int), b.length = 64 → cb.length = 256 → cr.length = 256 → h ≤ y + 16 * d → y + 16 * d < 60 → Inv st n → n + 18 * d ≤ 600 →
      (∀ (l : Env) (b cb cr : List Int), b.length = 64 → Q (.exit 2) ((0, .ptr 0 0) :: l)
        (CSycc K buf T w h Y B R (colY K.q px w h d y st) b cb cr)) →
      VRounds 11 (VWp C 11 [2] c47l4) (d + 1) [(0, .ptr 0 0), (4, .ptr 11 0), (5, .ptr 12 0), (6, .ptr 13 0), (7, .int .i32 (gI st.2 0)), (8, .int .i32 (gI st.2 1)), (9, .int .i32 (gI st.2 2)), (10, .ptr 14 0), (16, .nilp), (18, .ptr 7 0), (20, .int .i64 y)]
        (CSycc K buf T w h Y B R st b cb cr) Q := by
  have ht : TabOk K.q := ⟨hKl, hK.q⟩
  intro d
  induction d with
  | zero =>
    intro y st n b cb cr hbl hcb hcr hx hx2 hi hn hQ
    refine round_gen fun K1 hK1 => ?_
    have hd : decide ((y : Int) < (h : Int)) = false := by simp; omega
    have mR : (CSycc K buf T w h Y B R st b cb cr)[14]? = some (rcB w h) := rfl
    have c3 : cellB (some (rcB w h)) 3 = some (.int .i64 h) := rfl
    simp -implicitDefEqProofs only [vms, ↓reduceIte, Nat.reduceEqDiff, Nat.reduceAdd, reduceCtorEq, c47l4, mR, c3, hd]
    rw [hK1]
    exact hQ _ b cb cr hbl
  | succ d ih =>
    intro y st n b cb cr hbl hcb hcr hx hx2 hi hn hQ
    refine round_gen fun K1 hK1 => ?_
    have mR : (CSycc K buf T w h Y B R st b cb cr)[14]? = some (rcB w h) := rfl
    have c3 : cellB (some (rcB w h)) 3 = some (.int .i64 h) := rfl
    have c0 : cellB (some (rcB w h)) 0 = some (.int .i64 0) := rfl
    by_cases hxw : y < h
    · have hd : decide ((y : Int) < (h : Int)) = true := by simp; omega
      have hw8 : IntKind.i64.wrap ((y : Int) + 16) = ((y + 16 : Nat) : Int) := wn (by omega) (by omega)
      simp -implicitDefEqProofs only [vms, ↓reduceIte, Nat.reduceEqDiff, Nat.reduceAdd, reduceCtorEq, c47l4, mR, c3, c0, hd]
      apply VWp_loop_of (k := 4)
      refine scol_x_ycc C K buf T w h Y B R hP hG hK hKl hb hw hh px hpb hpx y (by omega) _ 3 0 st n b cb cr hbl hcb hcr (by omega) (by omega) hi (by omega) ?_
      intro l b cb cr st' hbl hcb hcr hs
      simp -implicitDefEqProofs only [vms, ↓reduceIte, Nat.reduceEqDiff, reduceCtorEq, hw8]
      rw [hK1, roundK_normal]
      have hgo : colY K.q px w h (d + 1) y st = colY K.q px w h d (y + 16) (colX K.q px w h y 3 0 st) := by
        simp only [colY, if_pos hxw]
      rw [hgo, ← hs] at hQ
      exact ih (y + 16) st' (n + 18) b cb cr hbl hcb hcr (by omega) (by omega) (by rw [hs]; exact colX_inv2 w h hpb ht y 3 0 st n hi) (by omega) hQ
    · have hd : decide ((y : Int) < (h : Int)) = false := by simp; omega
      simp -implicitDefEqProofs only [vms, ↓reduceIte, Nat.reduceEqDiff, Nat.reduceAdd, reduceCtorEq, c47l4, mR, c3, hd]
      rw [hK1]
      have hgo : colY K.q px w h (d + 1) y st = st := by simp only [colY, if_neg hxw]
      rw [hgo] at hQ
      exact hQ _ b cb cr hbl

def MHycc (out : List Int) : Mem := encM K buf 0 0 out ++ [yccImg T 8 (w * h) w h, .vec .u8 Y 5, .vec .u8 B 5, .vec .u8 R 5, .vec .u8 sosCL 5, .ints .i32 (List.replicate 64 0) 146, .ints .i32 (List.replicate 256 0) 147, .ints .i32 (List.replicate 256 0) 147]
theorem mhycc_cl (out : List Int) : memCl 15 (MHycc K buf T w h Y B R out) = true := by
  simp only [memCl, MHycc, encM, List.cons_append, List.nil_append, List.all_cons, List.all_nil, Blk.refs, encBlk, enc_refs]
  rfl

set_option maxHeartbeats 1000000 in
theorem sos_ycc (hP : C.P = Tryd.prog) (hG : GlobE C) (hK : EncOk K) (hKl : K.q.length = 128) (hb : buf.length = 16) (hw : 0 < w ∧ w ≤ 40) (hh : 0 < h ∧ h ≤ 40) (px : Nat → Nat → Nat → Int) (hpb : PxOk px) (hpx : YccOk w h Y B R px) (out : List Int) (ho : out.length ≤ 10000) :
    VCalls C 47 [.ptr 0 0, .iface 99 (.ptr 7 0)] (encP K buf [] out ++ [yccImg T 8 (w * h) w h, .vec .u8 Y 5, .vec .u8 B 5, .vec .u8 R 5]) [2]
      (fun v M' => v = .tup [] ∧ M' = encP K buf (scanE w h false K.q px (out ++ sosCL)).1 (scanE w h false K.q px (out ++ sosCL)).2 ++ [yccImg T 8 (w * h) w h, .vec .u8 Y 5, .vec .u8 B 5, .vec .u8 R 5]) := by
  rw [encP_nil]
  refine VCalls.of_fn (hs := h47) (F := F47) (by rw [hP]; exact is47) (by simp [F47]) ?_
  have ht : TabOk K.q := ⟨hKl, hK.q⟩
  have l9 : (encM K buf 0 0 out ++ ([yccImg T 8 (w * h) w h, .vec .u8 Y 5, .vec .u8 B 5, .vec .u8 R 5] : Mem)).length = 11 := rfl
  have n91 : (99 = 91) = False := by simp
  have ta : ∀ t v, ((99 : Nat) = t) = False → vtas t .nilp (.iface 99 v) = some (.tup [.nilp, .bool false]) := fun t v h => vtas_other h
  have t91 := ta 91 (.ptr 7 0) (by simp)
  have tn := ta 95 (.ptr 7 0) (by simp)
  have t1 : ∀ u : V, tupGo 1 (.tup [u, .bool false]) = some (.bool false) := fun _ => rfl
  have t0 : tupGo 0 (.tup [.nilp, .bool false]) = some .nilp := rfl
  have s1 : tupGo 1 (.tup [.ptr 7 0, .bool true]) = some (.bool true) := rfl
  have s0 : tupGo 0 (.tup [.ptr 7 0, .bool true]) = some (.ptr 7 0) := rfl
  have hos : (out ++ sosCL).length ≤ 12000 := by simp [sosCL]; omega
  simp -implicitDefEqProofs only [vms, ↓reduceIte, Nat.reduceEqDiff, Nat.reduceAdd, reduceCtorEq, F47, c47, l9, t91, t1, t0]
  refine callK_new (sosC_spec C hP) rfl rfl (.vec 11 14) [.vec .u8 sosCL 5] rfl rfl ?_
  simp -implicitDefEqProofs only [vms, ↓reduceIte, Nat.reduceEqDiff, reduceCtorEq, callC]
  refine callK_of [2] rfl (by simp) (write_any C hP K buf hb 0 0 out [yccImg T 8 (w * h) w h, .vec .u8 Y 5, .vec .u8 B 5, .vec .u8 R 5, .vec .u8 sosCL 5] rfl (.vec 11 14) sosCL rfl (fun M hM => by simp only [vlen, hM 11 (by omega)]; rfl) rfl rfl (by simp [sosCL]; omega)) ?_
  rintro _ _ ⟨rfl, rfl⟩
  generalize hout' : out ++ sosCL = out' at *
  have ao : ((imgR w h).all V.one) = true := rfl
  have il : (imgR w h).length = 4 := rfl
  have i1 : (imgR w h)[1]? = some (.int .i64 0) := rfl
  simp -implicitDefEqProofs only [vms, ↓reduceIte, Nat.reduceEqDiff, Nat.reduceAdd, reduceCtorEq, callC, Nat.reduceBEq, encM, hP, methB99, call75]
  refine ⟨rfl, ?_⟩
  refine callK_of [] rfl (by simp) (bounds2 C w h hP (MHycc K buf T w h Y B R out') (mhycc_cl K buf T w h Y B R out') T 8 (w * h) 7 rfl) ?_
  rintro _ _ ⟨rfl, rfl⟩
  simp -implicitDefEqProofs only [vms, ↓reduceIte, Nat.reduceEqDiff, Nat.reduceAdd, reduceCtorEq, callC, MHycc, encM, stGo_putA, putA_own, ao, il, i1, t91, tn, t1, t0, s1, s0]
  apply VWp_loop_of (k := 4)
  refine VRounds_adj (adj_pickN [0, 1, 2, 3, 4, 5, 6, 7, 8, 9, 10, 12, 13, 14, 15] [(0, .ptr 0 0), (4, .ptr 11 0), (5, .ptr 12 0), (6, .ptr 13 0), (7, .int .i32 0), (8, .int .i32 0), (9, .int .i32 0), (10, .ptr 14 0), (16, .nilp), (18, .ptr 7 0), (20, .int .i64 0)] (CSycc K buf T w h Y B R (([], out'), [0, 0, 0]) (List.replicate 64 0) (List.replicate 256 0) (List.replicate 256 0)) rfl (by simp [CSycc, encP_len]) rfl (by decide) ?_ rfl rfl (CSycc_cl K buf T w h Y B R _ _ _ _)) ?_
  · simp only [CSycc, encP_nil, encM, encBlk_eq, List.cons_append, List.nil_append, List.map_cons, List.map_nil, encBlkG_ren]
    rfl
  have hi1 := invO out' hos
  refine scol_y_ycc C K buf T w h Y B R hP hG hK hKl hb hw hh px hpb hpx _ 3 0 (([], out'), [0, 0, 0]) 1 _ _ _ rfl rfl rfl (by omega) (by omega) hi1 (by omega) ?_
  intro l b cb cr hbl
  have hi := colY_inv2 w h hpb ht 3 0 _ _ hi1
  have hsc : colY K.q px w h 3 0 (([], out'), [0, 0, 0]) = scan K.q px w h false (([], out'), [0, 0, 0]) := rfl
  rw [hsc] at hi ⊢
  generalize hS : scan K.q px w h false (([], out'), [0, 0, 0]) = S at hi ⊢
  have hout := hi.out
  simp -implicitDefEqProofs only [vms, ↓reduceIte, reduceCtorEq, CSycc]
  have em := emit_spec C hP K buf hb S.1.1 hi.p S.1.2 (by omega) 127 7 (by omega) (by decide)
  have h7 : bitsOf 127 7 = List.replicate 7 true := rfl
  have hfe : feed (S.1.1, S.1.2) (bitsOf 127 7) = scanE w h false K.q px out' := by unfold scanE; rw [hS, h7]
  rw [hfe] at em
  simp only [natCast_lit] at em
  generalize scanE w h false K.q px out' = E at em ⊢
  refine callK_pre [yccImg T 8 (w * h) w h, .vec .u8 Y 5, .vec .u8 B 5, .vec .u8 R 5, .ints .i32 b 146, .ints .i32 cb 147, .ints .i32 cr 147, rcB w h] em rfl rfl encM_cl encM_cl rfl rfl (by simp) rfl rfl ?_
  simp -implicitDefEqProofs only [vms, ↓reduceIte, callC, Nat.reduceBEq, vres_nil]
  refine retGo_take 11 (Nat.le_refl _) (by simp [encP_len]) rfl ?_ ⟨rfl, rfl⟩
  simp only [memCl, encP, encM, List.cons_append, List.nil_append, List.take_succ_cons, List.take_zero, List.all_cons, List.all_nil, Blk.refs, encBlk, enc_refs]
  rfl
end
end Go.VM
end

section
set_option linter.unusedSimpArgs false
namespace Go.VM
open Go Go.Proofs Go.Bits

/-! The reference's scan of three components. -/
section
variable (C : Ctx) (px : Nat → Nat → Nat → Int) (w h f : Nat) (caps : List V) (b tabs : List Int)

def SK (w h f : Nat) (caps : List V) (b tabs : List Int) (st : ScS) (n : List Int) : Mem := SM w h f caps b tabs st ++ [.ints .i32 n 79]
theorem sk_21 (st : ScS) (n : List Int) : (SK w h f caps b tabs st n)[21]? = some (.ints .i32 n 79) := rfl
theorem sk_len (st : ScS) (n : List Int) : (SK w h f caps b tabs st n).length = 22 := rfl
theorem sk_cl (hcap : V.refsL caps = []) (st : ScS) (n : List Int) : memCl 22 (SK w h f caps b tabs st n) = true := by
  have hcl := fn_cl f caps hcap
  simp only [memCl, SK, SM, SR, MB, outMem, spT, RB, List.cons_append, List.nil_append, List.all_cons, List.all_nil, cB_refs, hcl]
  rfl
theorem sc_take (st : ScS) (n p : List Int) : (SC w h f caps b tabs st n p).take 22 = SK w h f caps b tabs st n := rfl
theorem skr_noRef (hcap : V.refsL caps = []) (n : List Int) : noRef 1 (SR w h f caps b ++ [.ints .i32 n 79]) = true := by
  simp [noRef, SR, Blk.refs, V.refsL, V.refs, hcap]

theorem chr_k (hP : C.P = Tryd.prog) (hcap : V.refsL caps = []) (hat : AtOk C px w h f caps) (hw : 0 < w ∧ w ≤ 40) (hh : 0 < h ∧ h ≤ 40) (x y c : Nat) (hx : x < 60) (hy : y < 60) (hc : c < 3) (st : ScS) (Q : VX → Env → Mem → Prop) :
    ∀ (d k : Nat), k + d = 4 →
      (Q (.exit 18) [(2, .bool false), (6, .ptr 17 0), (7, .ptr 18 0), (14, .vec 20 b.length), (27, .ptr 2 0), (31, .fn 25 [.ptr 16 0, .ptr 12 0, .ptr 13 0, .ptr 14 0, .ptr 15 0]), (32, .fn 29 [.ptr 19 0, .ptr 17 0, .ptr 18 0]), (33, .int .i64 16), (34, .int .i64 y), (35, .int .i64 x), (37, .int .i64 c), (38, .ptr 21 0), (219, .int .i64 4), (220, .bool false)]
        (SK w h f caps b tabs st (chr (chrP px w h c x y)))) →
      VRounds 0 (VWp C 0 [] c11l7) (d + 1) [(2, .bool false), (6, .ptr 17 0), (7, .ptr 18 0), (14, .vec 20 b.length), (27, .ptr 2 0), (31, .fn 25 [.ptr 16 0, .ptr 12 0, .ptr 13 0, .ptr 14 0, .ptr 15 0]), (32, .fn 29 [.ptr 19 0, .ptr 17 0, .ptr 18 0]), (33, .int .i64 16), (34, .int .i64 y), (35, .int .i64 x), (37, .int .i64 c), (38, .ptr 21 0), (219, .int .i64 k)]
        (SK w h f caps b tabs st (curC (chrF (chrP px w h c x y)) (16 * k))) Q := by
  intro d
  induction d with
  | zero =>
    intro k hk hQ
    refine round_gen fun K1 hK1 => ?_
    have hk4 : k = 4 := by omega
    subst hk4
    simp -implicitDefEqProofs only [vms, ↓reduceIte, Nat.reduceEqDiff, natCast_lit, Int.reduceLT, Nat.reduceMul, c11l7]
    rw [hK1, curC_full]
    exact hQ
  | succ d ih =>
    intro k hk hQ
    refine round_gen fun K1 hK1 => ?_
    have hd : decide ((k : Int) < 4) = true := by simp; omega
    have hwk : IntKind.i64.wrap ((k : Int) + 1) = ((k + 1 : Nat) : Int) := wn (by omega) (by omega)
    have r2 : vbin .rem (.int .i64 (k : Int)) (.int .i64 2) = some (.int .i64 ((k % 2 : Nat) : Int)) := by
      rw [vbin_rem (by decide), Int.tmod_eq_emod_of_nonneg (by omega)]; rfl
    have q2 : vbin .quo (.int .i64 (k : Int)) (.int .i64 2) = some (.int .i64 ((k / 2 : Nat) : Int)) := by
      rw [vbin_quo (by decide), Int.tdiv_eq_ediv_of_nonneg (by omega), wrap_i64_id (by omega) (by omega)]; rfl
    have w1 : IntKind.i64.wrap (((k % 2 : Nat) : Int) * 8) = ((k % 2 * 8 : Nat) : Int) := wn (by omega) (by omega)
    have w2 : IntKind.i64.wrap (((k / 2 : Nat) : Int) * 8) = ((k / 2 * 8 : Nat) : Int) := wn (by omega) (by omega)
    have w3 : IntKind.i64.wrap ((x : Int) + ((k % 2 * 8 : Nat) : Int)) = ((x + k % 2 * 8 : Nat) : Int) := wn (by omega) (by omega)
    have w4 : IntKind.i64.wrap ((y : Int) + ((k / 2 * 8 : Nat) : Int)) = ((y + k / 2 * 8 : Nat) : Int) := wn (by omega) (by omega)
    simp -implicitDefEqProofs only [vms, ↓reduceIte, Nat.reduceEqDiff, c11l7, hd, r2, q2, w1, w2, w3, w4, hP, call29]
    refine callK_of [] rfl (by simp) (part_spec C px w h f caps hP hat hw hh _ (sk_cl w h f caps b tabs hcap st _) 17 18 19 rfl rfl rfl (x + k % 2 * 8) (y + k / 2 * 8) c (by omega) (by omega) hc) ?_
    rintro _ _ ⟨rfl, rfl⟩
    have hP0 : blkAt px c w h (x + k % 2 * 8) (y + k / 2 * 8) = chrP px w h c x y k := rfl
    rw [hP0]
    have hPk : BlkOk (chrP px w h c x y k) := blkAt_ok hat.pxb c w h _ _
    have hst : ∀ n, stGo (SK w h f caps b tabs st n ++ [Blk.ints .i32 (List.replicate 64 0) 79]) 64 (.ints .i32 (chrP px w h c x y k)) (.ptr 22 0) = some (.undef, SC w h f caps b tabs st n (chrP px w h c x y k)) := fun n => by
      rw [stGo_all (n := 64) (k := .i32) (xs := List.replicate 64 0) (T := 79) rfl hPk.len.symm (by rw [hPk.len]; rfl)]
      rfl
    simp -implicitDefEqProofs only [vms, ↓reduceIte, Nat.reduceEqDiff, callC, sk_len, hst]
    apply VWp_loop_of (k := 17)
    refine chr_j C w h f caps b tabs x y c k (by omega) st (chrP px w h c x y) hPk _ 16 0 rfl ?_
    simp -implicitDefEqProofs only [vms, ↓reduceIte, Nat.reduceEqDiff, hwk]
    rw [hK1, roundK_normal]
    refine VRounds_adj (adj_take 22 (by simp) (by simp [SC, SM, SR, MB, outMem, spT, RB]) rfl ?_) ?_
    · rw [sc_take]; exact sk_cl w h f caps b tabs hcap st _
    rw [sc_take]
    have := ih (k + 1) (by omega) hQ
    rwa [show 16 * (k + 1) = 16 * k + 16 by omega] at this

theorem chr_c (hP : C.P = Tryd.prog) (hcap : V.refsL caps = []) (hat : AtOk C px w h f caps) (hw : 0 < w ∧ w ≤ 40) (hh : 0 < h ∧ h ≤ 40) (ht : TabOk tabs) (x y : Nat) (hx : x < 60) (hy : y < 60) (c : Nat) (hc : 0 < c ∧ c < 3) (st : ScS) (n : Nat) (hi : Inv st n) (hn : n ≤ 800) (d : Nat) (Q : VX → Env → Mem → Prop)
    (hQ : VRounds 0 (VWp C 0 [] c11l8) (d + 1) [(2, .bool false), (6, .ptr 17 0), (7, .ptr 18 0), (14, .vec 20 b.length), (27, .ptr 2 0), (31, .fn 25 [.ptr 16 0, .ptr 12 0, .ptr 13 0, .ptr 14 0, .ptr 15 0]), (32, .fn 29 [.ptr 19 0, .ptr 17 0, .ptr 18 0]), (33, .int .i64 16), (34, .int .i64 y), (35, .int .i64 x), (37, .int .i64 (c + 1 : Nat))] (SM w h f caps b tabs (stepB tabs c 1 (chr (chrP px w h c x y)) st)) Q) :
    VRounds 0 (VWp C 0 [] c11l8) (d + 1 + 1) [(2, .bool false), (6, .ptr 17 0), (7, .ptr 18 0), (14, .vec 20 b.length), (27, .ptr 2 0), (31, .fn 25 [.ptr 16 0, .ptr 12 0, .ptr 13 0, .ptr 14 0, .ptr 15 0]), (32, .fn 29 [.ptr 19 0, .ptr 17 0, .ptr 18 0]), (33, .int .i64 16), (34, .int .i64 y), (35, .int .i64 x), (37, .int .i64 c)] (SM w h f caps b tabs st) Q := by
  refine round_gen fun K1 hK1 => ?_
  have hd : decide ((c : Int) < 3) = true := by simp; omega
  have hwk : IntKind.i64.wrap ((c : Int) + 1) = ((c + 1 : Nat) : Int) := wn (by omega) (by omega)
  have hst : stGo (SM w h f caps b tabs st ++ [Blk.ints .i32 (List.replicate 64 0) 79]) 64 (.ints .i32 (List.replicate 64 0)) (.ptr 21 0) = some (.undef, SK w h f caps b tabs st (curC (chrF (chrP px w h c x y)) (16 * 0))) := by
    rw [curC_zero, stGo_all (n := 64) (k := .i32) (xs := List.replicate 64 0) (T := 79) rfl rfl rfl]
    rfl
  have hck : BlkOk (chr (chrP px w h c x y)) := chr_ok fun k _ => blkAt_ok hat.pxb c w h _ _
  have r1 : rangeB (some (.ints .i32 (chr (chrP px w h c x y)) 79)) 0 64 = some (.ints .i32 (chr (chrP px w h c x y))) := rangeB_ints hck.len.symm
  simp -implicitDefEqProofs only [vms, ↓reduceIte, Nat.reduceEqDiff, Nat.reduceMul, c11l8, hd, sm_len, hst]
  apply VWp_loop_of (k := 5)
  refine chr_k C px w h f caps b tabs hP hcap hat hw hh x y c hx hy hc.2 st _ 4 0 rfl ?_
  simp -implicitDefEqProofs only [vms, ↓reduceIte, Nat.reduceEqDiff, range_eqB, sk_21, r1, hP, call25]
  obtain ⟨l1, l2⟩ := hi.l c hc.2
  have ho := hi.out
  refine callK_pre (SR w h f caps b ++ [Blk.ints .i32 (chr (chrP px w h c x y)) 79]) (block_cl C hP tabs st.2 (chr (chrP px w h c x y)) 1 (by omega) c hc.2 hi.l3 ⟨l1, l2⟩ hck.len hck.b ht.len ht.q st.1.1 hi.p st.1.2 (by omega)) rfl rfl mb_cl mb_cl rfl rfl (by simp) rfl (skr_noRef w h f caps b hcap _) ?_
  simp -implicitDefEqProofs only [vms, ↓reduceIte, Nat.reduceEqDiff, callC, Nat.reduceBEq, db25, db29, hwk]
  rw [hK1, roundK_normal]
  exact VRounds_adj (adj_take 21 (by simp) (by simp [SR, MB, outMem, spT, RB]) rfl (sm_cl w h f caps b tabs hcap (stepB tabs c 1 (chr (chrP px w h c x y)) st))) hQ

theorem mcu_inv (hat : AtOk C px w h f caps) (ht : TabOk tabs) (x y : Nat) (st : ScS) (n : Nat) (hi : Inv st n) : Inv (mcu tabs px w h x y st) (n + 6) :=
  stepB_inv ht (chr_ok fun k _ => blkAt_ok hat.pxb 2 w h _ _) (stepB_inv ht (chr_ok fun k _ => blkAt_ok hat.pxb 1 w h _ _) (lumK_inv C px w h f caps tabs hat ht x y 4 0 st n hi) (by omega) (by omega)) (by omega) (by omega)

theorem col_x (hP : C.P = Tryd.prog) (hcap : V.refsL caps = []) (hat : AtOk C px w h f caps) (hw : 0 < w ∧ w ≤ 40) (hh : 0 < h ∧ h ≤ 40) (ht : TabOk tabs) (y : Nat) (hy : y < 60) (Q : VX → Env → Mem → Prop) :
    ∀ (d x : Nat) (st : ScS) (n : Nat), w ≤ x + 16 * d → x + 16 * d < 76 → Inv st n → n + 6 * d ≤ 700 →
      (∀ (x' : Nat) e185, Q (.exit 12) [(2, .bool false), (6, .ptr 17 0), (7, .ptr 18 0), (14, .vec 20 b.length), (27, .ptr 2 0), (31, .fn 25 [.ptr 16 0, .ptr 12 0, .ptr 13 0, .ptr 14 0, .ptr 15 0]), (32, .fn 29 [.ptr 19 0, .ptr 17 0, .ptr 18 0]), (33, .int .i64 16), (34, .int .i64 y), (35, .int .i64 x'), (185, e185)]
        (SM w h f caps b tabs (colX tabs px w h y d x st))) →
      VRounds 0 (VWp C 0 [] c11l9) (d + 1) [(2, .bool false), (6, .ptr 17 0), (7, .ptr 18 0), (14, .vec 20 b.length), (27, .ptr 2 0), (31, .fn 25 [.ptr 16 0, .ptr 12 0, .ptr 13 0, .ptr 14 0, .ptr 15 0]), (32, .fn 29 [.ptr 19 0, .ptr 17 0, .ptr 18 0]), (33, .int .i64 16), (34, .int .i64 y), (35, .int .i64 x)]
        (SM w h f caps b tabs st) Q := by
  intro d
  induction d with
  | zero =>
    intro x st n hx hx2 hi hn hQ
    refine round_gen fun K1 hK1 => ?_
    have hd : decide ((x : Int) < (w : Int)) = false := by simp; omega
    simp -implicitDefEqProofs only [vms, ↓reduceIte, Nat.reduceEqDiff, c11l9, sm17, hd]
    rw [hK1]
    exact hQ _ _
  | succ d ih =>
    intro x st n hx hx2 hi hn hQ
    refine round_gen fun K1 hK1 => ?_
    by_cases hxw : x < w
    · have hd : decide ((x : Int) < (w : Int)) = true := by simp; omega
      have hw8 : IntKind.i64.wrap ((x : Int) + 16) = ((x + 16 : Nat) : Int) := wn (by omega) (by omega)
      simp -implicitDefEqProofs only [vms, ↓reduceIte, Nat.reduceEqDiff, c11l9, sm17, hd]
      apply VWp_loop_of (k := 5)
      refine lum_loop C px w h f caps b tabs hP hcap hat hw hh ht x y (by omega) hy _ 4 0 st n rfl hi (by omega) ?_
      simp -implicitDefEqProofs only [vms, ↓reduceIte, Nat.reduceEqDiff]
      apply VWp_loop_of (k := 3)
      have i1 := lumK_inv C px w h f caps tabs hat ht x y 4 0 st n hi
      have i2 : Inv (stepB tabs 1 1 (chr (chrP px w h 1 x y)) (lumK tabs px w h x y 4 0 st)) (n + 4 + 1) := stepB_inv ht (chr_ok fun k _ => blkAt_ok hat.pxb 1 w h _ _) i1 (by omega) (by omega)
      refine chr_c C px w h f caps b tabs hP hcap hat hw hh ht x y (by omega) hy 1 (by omega) _ _ i1 (by omega) 1 _ ?_
      refine chr_c C px w h f caps b tabs hP hcap hat hw hh ht x y (by omega) hy 2 (by omega) _ _ i2 (by omega) 0 _ ?_
      refine round_gen fun K2 hK2 => ?_
      simp -implicitDefEqProofs only [vms, ↓reduceIte, Nat.reduceEqDiff, Nat.reduceAdd, natCast_lit, Int.reduceLT, c11l8]
      rw [hK2]
      simp -implicitDefEqProofs only [vms, ↓reduceIte, Nat.reduceEqDiff, hw8]
      rw [hK1, roundK_normal]
      have hgo : colX tabs px w h y (d + 1) x st = colX tabs px w h y d (x + 16) (mcu tabs px w h x y st) := by
        simp only [colX, if_pos hxw]
      rw [hgo] at hQ
      exact ih (x + 16) (mcu tabs px w h x y st) (n + 6) (by omega) (by omega) (mcu_inv C px w h f caps tabs hat ht x y st n hi) (by omega) hQ
    · have hd : decide ((x : Int) < (w : Int)) = false := by simp; omega
      simp -implicitDefEqProofs only [vms, ↓reduceIte, Nat.reduceEqDiff, c11l9, sm17, hd]
      rw [hK1]
      have hgo : colX tabs px w h y (d + 1) x st = st := by simp only [colX, if_neg hxw]
      rw [hgo] at hQ
      exact hQ _ _

theorem colX_inv (hat : AtOk C px w h f caps) (ht : TabOk tabs) (y : Nat) : ∀ (d x : Nat) (st : ScS) (n : Nat), Inv st n → Inv (colX tabs px w h y d x st) (n + 6 * d)
  | 0, _, _, _, hi => hi
  | d + 1, x, st, n, hi => by
    simp only [colX]
    split
    · have := colX_inv hat ht y d (x + 16) _ _ (mcu_inv C px w h f caps tabs hat ht x y st n hi)
      rwa [show n + 6 + 6 * d = n + 6 * (d + 1) by omega] at this
    · exact ⟨hi.p, by have := hi.out; omega, hi.l3, hi.l⟩

theorem col_y (hP : C.P = Tryd.prog) (hcap : V.refsL caps = []) (hat : AtOk C px w h f caps) (hw : 0 < w ∧ w ≤ 40) (hh : 0 < h ∧ h ≤ 40) (ht : TabOk tabs) (Q : VX → Env → Mem → Prop) :
    ∀ (d y : Nat) (st : ScS) (n : Nat), h ≤ y + 16 * d → y + 16 * d < 76 → Inv st n → n + 18 * d ≤ 600 →
      (∀ (y' : Nat) e179, Q (.exit 10) [(2, .bool false), (6, .ptr 17 0), (7, .ptr 18 0), (14, .vec 20 b.length), (27, .ptr 2 0), (31, .fn 25 [.ptr 16 0, .ptr 12 0, .ptr 13 0, .ptr 14 0, .ptr 15 0]), (32, .fn 29 [.ptr 19 0, .ptr 17 0, .ptr 18 0]), (33, .int .i64 16), (34, .int .i64 y'), (179, e179)]
        (SM w h f caps b tabs (colY tabs px w h d y st))) →
      VRounds 0 (VWp C 0 [] c11l10) (d + 1) [(2, .bool false), (6, .ptr 17 0), (7, .ptr 18 0), (14, .vec 20 b.length), (27, .ptr 2 0), (31, .fn 25 [.ptr 16 0, .ptr 12 0, .ptr 13 0, .ptr 14 0, .ptr 15 0]), (32, .fn 29 [.ptr 19 0, .ptr 17 0, .ptr 18 0]), (33, .int .i64 16), (34, .int .i64 y)]
        (SM w h f caps b tabs st) Q := by
  intro d
  induction d with
  | zero =>
    intro y st n hx hx2 hi hn hQ
    refine round_gen fun K1 hK1 => ?_
    have hd : decide ((y : Int) < (h : Int)) = false := by simp; omega
    simp -implicitDefEqProofs only [vms, ↓reduceIte, Nat.reduceEqDiff, c11l10, sm18, hd]
    rw [hK1]
    exact hQ _ _
  | succ d ih =>
    intro y st n hx hx2 hi hn hQ
    refine round_gen fun K1 hK1 => ?_
    by_cases hxw : y < h
    · have hd : decide ((y : Int) < (h : Int)) = true := by simp; omega
      have hw8 : IntKind.i64.wrap ((y : Int) + 16) = ((y + 16 : Nat) : Int) := wn (by omega) (by omega)
      simp -implicitDefEqProofs only [vms, ↓reduceIte, Nat.reduceEqDiff, c11l10, sm18, hd]
      apply VWp_loop_of (k := 4)
      refine col_x C px w h f caps b tabs hP hcap hat hw hh ht y (by omega) _ 3 0 st n (by omega) (by omega) hi (by omega) ?_
      intro x' e185
      simp -implicitDefEqProofs only [vms, ↓reduceIte, Nat.reduceEqDiff, hw8]
      rw [hK1, roundK_normal]
      have hgo : colY tabs px w h (d + 1) y st = colY tabs px w h d (y + 16) (colX tabs px w h y 3 0 st) := by
        simp only [colY, if_pos hxw]
      rw [hgo] at hQ
      exact ih (y + 16) _ (n + 18) (by omega) (by omega) (colX_inv C px w h f caps tabs hat ht y 3 0 st n hi) (by omega) hQ
    · have hd : decide ((y : Int) < (h : Int)) = false := by simp; omega
      simp -implicitDefEqProofs only [vms, ↓reduceIte, Nat.reduceEqDiff, c11l10, sm18, hd]
      rw [hK1]
      have hgo : colY tabs px w h (d + 1) y st = st := by simp only [colY, if_neg hxw]
      rw [hgo] at hQ
      exact hQ _ _
end
end Go.VM
end

section
set_option linter.unusedSimpArgs false
namespace Go.VM
open Go Go.Proofs Go.Bits

/-- the frame's header -/
def sof (w h : Int) (n : Int) : List Int := [8, h / 256, h % 256, w / 256, w % 256, n] ++ (if n = 1 then [1, 17, 0] else [1, 34, 0, 2, 17, 1, 3, 17, 1])
def bufSOF (buf : List Int) (w h : Int) (n : Int) : List Int := sof w h n ++ buf.drop (sof w h n).length

theorem sof0_spec (C : Ctx) (hP : C.P = Tryd.prog) (K : EncK) (buf : List Int) (hb : buf.length = 16) (bits nb : Int) (bytes : List Int) (w h : Int) (hw : 0 ≤ w ∧ w < 65536) (hh : 0 ≤ h ∧ h < 65536) (n : Int) (hn : n = 1 ∨ n = 3) (ho : bytes.length ≤ 14000000) :
    VCalls C 44 [.ptr 0 0, .agg [.int .i64 w, .int .i64 h], .int .i64 n] (encM K buf bits nb bytes) [2] (fun v M' => v = .tup [] ∧ M' = encM K (bufSOF buf w h n) bits nb (bytes ++ [255, 192, 0, 8 + 3 * n] ++ sof w h n)) := by
  refine VCalls.of_fn (hs := kz c44) (F := F44) (by rw [hP]; exact is44) (by simp [F44]) ?_
  have hbx : vbox 87 (.agg [.int .i64 w, .int .i64 h]) = some (.own [.int .i64 w, .int .i64 h] 87) := rfl
  have hA : ∀ B : Blk, [encBlk K buf bits nb, .own [.vec 2 bytes.length] 55, .vec .u8 bytes 5, .vec .u32 K.l0 43, .vec .u32 K.l1 43, .vec .u32 K.l2 43, .vec .u32 K.l3 43, B] = encM K buf bits nb bytes ++ [B] := fun _ => rfl
  have e1 : IntKind.u8.wrap (h / 256) = h / 256 := wrap_u8_id (by omega) (by omega)
  have e2 : IntKind.u8.wrap (h % 256) = h % 256 := wrap_u8_id (by omega) (by omega)
  have e3 : IntKind.u8.wrap (w / 256) = w / 256 := wrap_u8_id (by omega) (by omega)
  have e4 : IntKind.u8.wrap (w % 256) = w % 256 := wrap_u8_id (by omega) (by omega)
  rcases hn with rfl | rfl
  · simp -implicitDefEqProofs only [vms, ↓reduceIte, Nat.reduceEqDiff, Nat.reduceAdd, reduceCtorEq, Int.reduceLE, Int.reduceMul, Int.reduceAdd, Int.reduceNeg, wl64, F44, c44, encM, hbx]
    refine callK_pre [.own [.int .i64 w, .int .i64 h] 87] (wmh_spec C hP K buf hb bits nb bytes 192 11 (by omega) (by omega)) rfl rfl encM_cl encM_cl rfl rfl (by simp) rfl rfl ?_
    have hbl : (bufMH buf 192 11).length = 16 := by simp [bufMH, hb]
    have hd : (bufMH buf 192 11).drop 9 = buf.drop 9 := by
      match buf, hb with
      | [_, _, _, _, _, _, _, _, _, _, _, _, _, _, _, _], _ => rfl
    have hbs : bufSOF buf w h 1 = [8, h / 256, h % 256, w / 256, w % 256, 1, 1, 17, 0] ++ (bufMH buf 192 11).drop 9 := by rw [hd]; rfl
    rw [hbs]
    generalize bufMH buf 192 11 = buf at hbl ⊢
    match buf, hbl with
    | [a0, a1, a2, a3, a4, a5, a6, a7, a8, a9, a10, a11, a12, a13, a14, a15], hbl =>
      have pb : ∀ (M : Mem) (b0 b1 b2 b3 b4 b5 b6 b7 b8 b9 b10 b11 b12 b13 b14 b15 v : Int) (o : Nat), 2 ≤ o → o < 18 → putB M 0 o (.int .u8 v) (some (encBlk K [b0, b1, b2, b3, b4, b5, b6, b7, b8, b9, b10, b11, b12, b13, b14, b15] bits nb)) =
          some (.undef, M.set 0 (encBlk K ([b0, b1, b2, b3, b4, b5, b6, b7, b8, b9, b10, b11, b12, b13, b14, b15].set (o - 2) v) bits nb)) := fun M b0 b1 b2 b3 b4 b5 b6 b7 b8 b9 b10 b11 b12 b13 b14 b15 v o h1 h2 => putB_buf rfl o h1 h2
      have hsl : vslice 16 1 none (some (.int .i64 9)) none (.ptr 0 2) = some (.slice 0 2 9 16) := rfl
      simp -implicitDefEqProofs only [vms, ↓reduceIte, Nat.reduceEqDiff, Nat.reduceAdd, reduceCtorEq, Nat.min_def, IntKind.bits, Nat.reduceLeDiff, Int.reducePow, Int.reduceToNat, Int.reduceLE, Int.reduceMul, Int.reduceAdd, Int.reduceSub, Int.reduceNeg, callC, Nat.reduceBEq, Nat.reduceLT, wl8, wl64, vidxA_lit, Nat.reduceMul, Nat.reduceSub, Int.reduceDiv, Int.reduceMod, encM, pb, i64_and255, e1, e2, e3, e4, hsl]
      refine callK_pre [.own [.int .i64 w, .int .i64 h] 87] (write_own C hP K [8, h / 256, h % 256, w / 256, w % 256, 1, 1, 17, 0, a9, a10, a11, a12, a13, a14, a15] rfl bits nb (bytes ++ [255, 192, 0, 11]) 2 9 16 _ rfl (own_buf 9 (by omega) rfl) (by simp; omega)) rfl rfl encM_cl encM_cl rfl rfl (by simp) rfl rfl ?_
      simp -implicitDefEqProofs only [vms, ↓reduceIte, callC, Nat.reduceBEq, vres_nil]
      exact retGo_take 7 (Nat.le_refl _) (by simp [encM]) rfl encM_cl ⟨rfl, rfl⟩
  · simp -implicitDefEqProofs only [vms, ↓reduceIte, Nat.reduceEqDiff, Nat.reduceAdd, reduceCtorEq, Int.reduceLE, Int.reduceMul, Int.reduceAdd, Int.reduceNeg, wl64, F44, c44, encM, hbx]
    refine callK_pre [.own [.int .i64 w, .int .i64 h] 87] (wmh_spec C hP K buf hb bits nb bytes 192 17 (by omega) (by omega)) rfl rfl encM_cl encM_cl rfl rfl (by simp) rfl rfl ?_
    have hbl : (bufMH buf 192 17).length = 16 := by simp [bufMH, hb]
    have hd : (bufMH buf 192 17).drop 15 = buf.drop 15 := by
      match buf, hb with
      | [_, _, _, _, _, _, _, _, _, _, _, _, _, _, _, _], _ => rfl
    have hbs : bufSOF buf w h 3 = [8, h / 256, h % 256, w / 256, w % 256, 3, 1, 34, 0, 2, 17, 1, 3, 17, 1] ++ (bufMH buf 192 17).drop 15 := by rw [hd]; rfl
    rw [hbs]
    generalize bufMH buf 192 17 = buf at hbl ⊢
    match buf, hbl with
    | [a0, a1, a2, a3, a4, a5, a6, a7, a8, a9, a10, a11, a12, a13, a14, a15], hbl =>
      have pb : ∀ (M : Mem) (b0 b1 b2 b3 b4 b5 b6 b7 b8 b9 b10 b11 b12 b13 b14 b15 v : Int) (o : Nat), 2 ≤ o → o < 18 → putB M 0 o (.int .u8 v) (some (encBlk K [b0, b1, b2, b3, b4, b5, b6, b7, b8, b9, b10, b11, b12, b13, b14, b15] bits nb)) =
          some (.undef, M.set 0 (encBlk K ([b0, b1, b2, b3, b4, b5, b6, b7, b8, b9, b10, b11, b12, b13, b14, b15].set (o - 2) v) bits nb)) := fun M b0 b1 b2 b3 b4 b5 b6 b7 b8 b9 b10 b11 b12 b13 b14 b15 v o h1 h2 => putB_buf rfl o h1 h2
      have hsl : vslice 16 1 none (some (.int .i64 15)) none (.ptr 0 2) = some (.slice 0 2 15 16) := rfl
      have s0 : vidxStr (.str ⟨#[34, 17, 17]⟩) (.int .i64 0) = some (.int .u8 34) := rfl
      have s1 : vidxStr (.str ⟨#[34, 17, 17]⟩) (.int .i64 1) = some (.int .u8 17) := rfl
      have s2 : vidxStr (.str ⟨#[34, 17, 17]⟩) (.int .i64 2) = some (.int .u8 17) := rfl
      have t0 : vidxStr (.str ⟨#[0, 1, 1]⟩) (.int .i64 0) = some (.int .u8 0) := rfl
      have t1 : vidxStr (.str ⟨#[0, 1, 1]⟩) (.int .i64 1) = some (.int .u8 1) := rfl
      have t2 : vidxStr (.str ⟨#[0, 1, 1]⟩) (.int .i64 2) = some (.int .u8 1) := rfl
      simp -implicitDefEqProofs only [vms, ↓reduceIte, Nat.reduceEqDiff, Nat.reduceAdd, reduceCtorEq, Nat.min_def, IntKind.bits, Nat.reduceLeDiff, Int.reducePow, Int.reduceToNat, Int.reduceLE, callC, Nat.reduceBEq, Nat.reduceLT, wl8, vidxA_lit, Int.reduceEq, Nat.reduceMul, Nat.reduceSub, Int.reduceDiv, Int.reduceMod, encM, pb, i64_and255, e1, e2, e3, e4]
      apply VWp_loop_of (k := 4)
      refine round_gen fun K1 hK1 => ?_
      simp -implicitDefEqProofs only [vms, ↓reduceIte, Nat.reduceEqDiff, Nat.reduceAdd, reduceCtorEq, Nat.reduceLeDiff, Int.reduceToNat, Int.reduceLE, Int.reduceMul, Int.reduceAdd, Int.reduceNeg, Nat.reduceLT, wl8, wl64, vidxA_lit, Int.reduceLT, Nat.reduceMul, Nat.reduceSub, c44l0, pb, s0, t0]
      rw [hK1, roundK_normal]
      refine round_gen fun K1 hK1 => ?_
      simp -implicitDefEqProofs only [vms, ↓reduceIte, Nat.reduceEqDiff, Nat.reduceAdd, reduceCtorEq, Nat.reduceLeDiff, Int.reduceToNat, Int.reduceLE, Int.reduceMul, Int.reduceAdd, Int.reduceNeg, Nat.reduceLT, wl8, wl64, vidxA_lit, Int.reduceLT, Nat.reduceMul, Nat.reduceSub, c44l0, pb, s1, t1]
      rw [hK1, roundK_normal]
      refine round_gen fun K1 hK1 => ?_
      simp -implicitDefEqProofs only [vms, ↓reduceIte, Nat.reduceEqDiff, Nat.reduceAdd, reduceCtorEq, Nat.reduceLeDiff, Int.reduceToNat, Int.reduceLE, Int.reduceMul, Int.reduceAdd, Int.reduceNeg, Nat.reduceLT, wl8, wl64, vidxA_lit, Int.reduceLT, Nat.reduceMul, Nat.reduceSub, c44l0, pb, s2, t2]
      rw [hK1, roundK_normal]
      refine round_gen fun K1 hK1 => ?_
      simp -implicitDefEqProofs only [vms, ↓reduceIte, Nat.reduceEqDiff, reduceCtorEq, Int.reduceLT, c44l0]
      rw [hK1]
      simp -implicitDefEqProofs only [vms, ↓reduceIte, Nat.reduceEqDiff, reduceCtorEq, Int.reduceLE, Int.reduceMul, Int.reduceAdd, Int.reduceSub, Int.reduceNeg, wl64, hsl]
      refine callK_pre [.own [.int .i64 w, .int .i64 h] 87] (write_own C hP K [8, h / 256, h % 256, w / 256, w % 256, 3, 1, 34, 0, 2, 17, 1, 3, 17, 1, a15] rfl bits nb (bytes ++ [255, 192, 0, 17]) 2 15 16 _ rfl (own_buf 15 (by omega) rfl) (by simp; omega)) rfl rfl encM_cl encM_cl rfl rfl (by simp) rfl rfl ?_
      simp -implicitDefEqProofs only [vms, ↓reduceIte, callC, Nat.reduceBEq, vres_nil]
      exact retGo_take 7 (Nat.le_refl _) (by simp [encM]) rfl encM_cl ⟨rfl, rfl⟩
end Go.VM
end

section
set_option maxRecDepth 100000
set_option maxHeartbeats 0
namespace Go.VM
open Go Go.Proofs

/-! A table of the reference's codes. -/
theorem st0_spec (C : Ctx) (hP : C.P = Tryd.prog) : VCalls C 21 [(.int .i64 0), (.bool false)] [] [] fun v M' => v = .ptr 0 0 ∧ M' = [.own (intVs .i64 stC0 ++ (.vec 1 12 :: (intVs .i64 stK0 ++ intVs .i64 stW0))) 71, .vec .i64 stS0 3] :=
  VCalls.pick (cd_any C hP) _ _ [13, 15] rfl (by decide) (by kernel_rfl) (by kernel_rfl) (by kernel_rfl)
end Go.VM
end
