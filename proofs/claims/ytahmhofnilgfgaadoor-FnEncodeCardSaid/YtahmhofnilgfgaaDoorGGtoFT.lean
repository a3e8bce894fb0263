/-
  A part of a machine over the model and of a walk by it, proved right against the model; proved outright, under no condition but what each theorem names.
-/
import Derived.Test.YtahmhofnilgfgaaDoorGCtoGF
import Derived.Test.YtahmhofnilgfgaaDoorFPtoFS
set_option linter.unusedVariables false
set_option linter.unusedSimpArgs false
section
set_option linter.unusedSimpArgs false
set_option maxRecDepth 10000
namespace Go.VM
open Go Go.Proofs Go.Bits

/-! The encoder's writeSOS: gray. -/
theorem adj_pickN {n0 : Nat} {e : Env} {M : Mem} (idx : List Nat) (e' : Env) (M' : Mem) (h0 : ((List.range n0).all fun j => idxσ idx j == j) = true) (hn : n0 ≤ M'.length) (hl : idx.length = M'.length) (hnd : idx.Nodup) (hM : idx.map (M[·]?) = M'.map (fun b => some (b.ren (idxσ idx)))) (he : e = e'.map fun p => (p.1, p.2.ren (idxσ idx)))
    (hce : envClB M'.length e' = true) (hcM : memCl M'.length M' = true) : Adj n0 e M e' M' := by
  have hA := adj_pick (e := e) (M := M) idx e' M' hl hnd hM he hce hcM
  refine .ren e M e' M' (idxσ idx) (fun j hj => by simpa using List.all_eq_true.1 h0 j (by simpa using hj)) hn (fun i j hi hj h => ?_) (fun j b hb => ?_) (fun j => .inr ?_) (envCl_of hce) (fun j b hb => clB_iff (List.all_eq_true.1 hcM b (List.mem_of_getElem? hb)))
  · have hi' : i < idx.length := by omega
    have hj' : j < idx.length := by omega
    unfold idxσ at h
    rw [List.getD_eq_getElem?_getD, List.getD_eq_getElem?_getD, List.getElem?_eq_getElem hi', List.getElem?_eq_getElem hj'] at h
    exact (List.getElem_inj hnd).1 h
  · have hj : j < idx.length := by rw [hl]; exact (List.getElem?_eq_some_iff.1 hb).1
    have h1 := congrArg (·[j]?) hM
    simp only [List.getElem?_map, List.getElem?_eq_getElem hj, hb, Option.map_some, Option.some.injEq] at h1
    unfold idxσ
    rw [List.getD_eq_getElem?_getD, List.getElem?_eq_getElem hj]
    exact h1
  · subst he
    clear hce hA
    induction e' with
    | nil => rfl
    | cons p r ih =>
      obtain ⟨k, v⟩ := p
      simp only [List.map_cons, get_cons]
      split
      · rfl
      · exact ih

section
variable (C : Ctx) (K : EncK) (buf : List Int) (T w h : Nat) (pix : List Int)

theorem grayX_inv2 {tabs : List Int} {px : Nat → Nat → Nat → Int} (hpb : PxOk px) (ht : TabOk tabs) (y : Nat) : ∀ (d x : Nat) (st : ScS) (n : Nat), Inv st n → Inv (grayX tabs px w h y d x st) (n + d)
  | 0, _, _, _, hi => hi
  | d + 1, x, st, n, hi => by
    simp only [grayX]
    split
    · have := grayX_inv2 hpb ht y d (x + 8) _ _ (stepB_inv ht (blkAt_ok hpb.b 0 w h x y) hi (part := 0) (c := 0) (by omega) (by omega))
      rwa [show n + 1 + d = n + (d + 1) by omega] at this
    · exact ⟨hi.p, by have := hi.out; omega, hi.l3, hi.l⟩
theorem grayY_inv2 {tabs : List Int} {px : Nat → Nat → Nat → Int} (hpb : PxOk px) (ht : TabOk tabs) : ∀ (d y : Nat) (st : ScS) (n : Nat), Inv st n → Inv (grayY tabs px w h d y st) (n + 5 * d)
  | 0, _, _, _, hi => hi
  | d + 1, y, st, n, hi => by
    simp only [grayY]
    split
    · have := grayY_inv2 hpb ht d (y + 8) _ _ (grayX_inv2 w h hpb ht y 5 0 st n hi)
      rwa [show n + 5 + 5 * d = n + 5 * (d + 1) by omega] at this
    · exact ⟨hi.p, by have := hi.out; omega, hi.l3, hi.l⟩

theorem sgray_y (hP : C.P = Tryd.prog) (hG : GlobE C) (hK : EncOk K) (hKl : K.q.length = 128) (hb : buf.length = 16) (hw : 0 < w ∧ w ≤ 40) (hh : 0 < h ∧ h ≤ 40) (hpl : pix.length = w * h) (px : Nat → Nat → Nat → Int) (hpb : PxOk px) (hpx : ∀ x y, x < w → y < h → px 0 x y = gI pix (y * w + x))
    (hpi : ∀ i, 0 ≤ gI pix i ∧ gI pix i ≤ 255) (Q : VX → Env → Mem → Prop) :
    ∀ (d y : Nat) (st : ScS) (n : Nat) (b : List Int), b.length = 64 → h ≤ y + 8 * d → y + 8 * d < 50 → Inv st n → n + 5 * d ≤ 800 →
      (∀ (l : Env) (b : List Int), b.length = 64 → Q (.exit 8) ((0, .ptr 0 0) :: l) (GS K buf (grayY K.q px w h d y st) T pix.length w h pix b)) →
      VRounds 9 (VWp C 9 [2] c47l1) (d + 1) [(0, .ptr 0 0), (4, .ptr 9 0), (7, .int .i32 (gI st.2 0)), (10, .ptr 10 0), (11, .ptr 7 0), (12, .int .i64 y)]
        (GS K buf st T pix.length w h pix b) Q := by
  have ht : TabOk K.q := ⟨hKl, hK.q⟩
  intro d
  induction d with
  | zero =>
    intro y st n b hbl hx hx2 hi hn hQ
    refine round_gen fun K1 hK1 => ?_
    have hd : decide ((y : Int) < (h : Int)) = false := by simp; omega
    have m10 : (GS K buf st T pix.length w h pix b)[10]? = some (rcB w h) := rfl
    have c3 : cellB (some (rcB w h)) 3 = some (.int .i64 h) := rfl
    simp -implicitDefEqProofs only [vms, ↓reduceIte, Nat.reduceEqDiff, Nat.reduceAdd, reduceCtorEq, c47l1, m10, c3, hd]
    rw [hK1]
    exact hQ _ b hbl
  | succ d ih =>
    intro y st n b hbl hx hx2 hi hn hQ
    refine round_gen fun K1 hK1 => ?_
    have m10 : (GS K buf st T pix.length w h pix b)[10]? = some (rcB w h) := rfl
    have c3 : cellB (some (rcB w h)) 3 = some (.int .i64 h) := rfl
    have c0 : cellB (some (rcB w h)) 0 = some (.int .i64 0) := rfl
    by_cases hxw : y < h
    · have hd : decide ((y : Int) < (h : Int)) = true := by simp; omega
      have hw8 : IntKind.i64.wrap ((y : Int) + 8) = ((y + 8 : Nat) : Int) := by rw [wrap_i64_id (by omega) (by omega)]; rfl
      simp -implicitDefEqProofs only [vms, ↓reduceIte, Nat.reduceEqDiff, Nat.reduceAdd, reduceCtorEq, c47l1, m10, c3, c0, hd]
      apply VWp_loop_of (k := 6)
      refine sgray_x C K buf T w h pix hP hG hK hKl hb hw hh hpl px hpb hpx hpi y (by omega) _ 5 0 st n b hbl (by omega) (by omega) hi (by omega) ?_
      intro l b hbl
      simp -implicitDefEqProofs only [vms, ↓reduceIte, Nat.reduceEqDiff, reduceCtorEq, hw8]
      rw [hK1, roundK_normal]
      have hgo : grayY K.q px w h (d + 1) y st = grayY K.q px w h d (y + 8) (grayX K.q px w h y 5 0 st) := by
        simp only [grayY, if_pos hxw]
      rw [hgo] at hQ
      exact ih (y + 8) _ (n + 5) b hbl (by omega) (by omega) (grayX_inv2 w h hpb ht y 5 0 st n hi) (by omega) hQ
    · have hd : decide ((y : Int) < (h : Int)) = false := by simp; omega
      simp -implicitDefEqProofs only [vms, ↓reduceIte, Nat.reduceEqDiff, Nat.reduceAdd, reduceCtorEq, c47l1, m10, c3, hd]
      rw [hK1]
      have hgo : grayY K.q px w h (d + 1) y st = st := by simp only [grayY, if_neg hxw]
      rw [hgo] at hQ
      exact hQ _ b hbl

/-- what a scan leaves: bits that wait, bytes -/
def scanE (w h : Nat) (gray : Bool) (tabs : List Int) (px : Nat → Nat → Nat → Int) (out : List Int) : List Bool × List Int :=
  feed (scan tabs px w h gray (([], out), [0, 0, 0])).1 (List.replicate 7 true)

theorem invO (out : List Int) (ho : out.length ≤ 12000) : Inv (([], out), [0, 0, 0]) 1 := by
  refine ⟨by simp, by simpa using ho, rfl, fun i hi => ?_⟩
  have : i = 0 ∨ i = 1 ∨ i = 2 := by omega
  rcases this with rfl | rfl | rfl <;> exact ⟨(by decide : (-1024 : Int) ≤ 0), (by decide : (0 : Int) ≤ 1020)⟩

theorem encP_nil {K : EncK} {buf : List Int} {X : List Int} : encP K buf [] X = encM K buf 0 0 X := by simp [encP, val]

set_option maxHeartbeats 1000000 in
theorem sos_gray (hP : C.P = Tryd.prog) (hG : GlobE C) (hK : EncOk K) (hKl : K.q.length = 128) (hb : buf.length = 16) (hw : 0 < w ∧ w ≤ 40) (hh : 0 < h ∧ h ≤ 40) (hpl : pix.length = w * h) (px : Nat → Nat → Nat → Int) (hpb : PxOk px) (hpx : ∀ x y, x < w → y < h → px 0 x y = gI pix (y * w + x))
    (hpi : ∀ i, 0 ≤ gI pix i ∧ gI pix i ≤ 255) (out : List Int) (ho : out.length ≤ 10000) :
    VCalls C 47 [.ptr 0 0, .iface 91 (.ptr 7 0)] (encP K buf [] out ++ [imgB T 8 pix.length w h w, .vec .u8 pix 5]) [2]
      (fun v M' => v = .tup [] ∧ M' = encP K buf (scanE w h true K.q px (out ++ sosYL)).1 (scanE w h true K.q px (out ++ sosYL)).2 ++ [imgB T 8 pix.length w h w, .vec .u8 pix 5]) := by
  rw [encP_nil]
  refine VCalls.of_fn (hs := h47) (F := F47) (by rw [hP]; exact is47) (by simp [F47]) ?_
  have ht : TabOk K.q := ⟨hKl, hK.q⟩
  have l9 : (encM K buf 0 0 out ++ [imgB T 8 pix.length w h w, Blk.vec .u8 pix 5]).length = 9 := rfl
  have t1 : tupGo 1 (.tup [.ptr 7 0, .bool true]) = some (.bool true) := rfl
  have t0 : tupGo 0 (.tup [.ptr 7 0, .bool true]) = some (.ptr 7 0) := rfl
  have hos : (out ++ sosYL).length ≤ 12000 := by simp [sosYL]; omega
  simp -implicitDefEqProofs only [vms, ↓reduceIte, Nat.reduceEqDiff, Nat.reduceAdd, reduceCtorEq, F47, c47, l9, t1, t0]
  refine callK_new (sosY_spec C hP) rfl rfl (.vec 9 10) [.vec .u8 sosYL 5] rfl rfl ?_
  simp -implicitDefEqProofs only [vms, ↓reduceIte, Nat.reduceEqDiff, reduceCtorEq, callC]
  refine callK_of [2] rfl (by simp) (write_any C hP K buf hb 0 0 out [imgB T 8 pix.length w h w, .vec .u8 pix 5, .vec .u8 sosYL 5] rfl (.vec 9 10) sosYL rfl (fun M hM => by simp only [vlen, hM 9 (by omega)]; rfl) rfl rfl (by simp [sosYL]; omega)) ?_
  rintro _ _ ⟨rfl, rfl⟩
  have hcl13 : memCl 13 (encM K buf 0 0 (out ++ sosYL) ++ [imgB T 8 pix.length w h w, .vec .u8 pix 5, .vec .u8 sosYL 5, .ints .i32 (List.replicate 64 0) 146, .ints .i32 (List.replicate 256 0) 147, .ints .i32 (List.replicate 256 0) 147]) = true := by
    simp only [memCl, encM, List.cons_append, List.nil_append, List.all_cons, List.all_nil, Blk.refs, encBlk, enc_refs]
    rfl
  have ao : ((imgR w h).all V.one) = true := rfl
  have il : (imgR w h).length = 4 := rfl
  have i1 : (imgR w h)[1]? = some (.int .i64 0) := rfl
  simp -implicitDefEqProofs only [vms, ↓reduceIte, Nat.reduceEqDiff, Nat.reduceAdd, reduceCtorEq, callC, Nat.reduceBEq, encM, hP, methB91, call67]
  refine ⟨rfl, ?_⟩
  refine callK_of [] rfl (by simp) (bounds1 C w h hP 67 (.inl rfl) (encM K buf 0 0 (out ++ sosYL) ++ [imgB T 8 pix.length w h w, .vec .u8 pix 5, .vec .u8 sosYL 5, .ints .i32 (List.replicate 64 0) 146, .ints .i32 (List.replicate 256 0) 147, .ints .i32 (List.replicate 256 0) 147]) hcl13 T 8 pix.length w 7 rfl) ?_
  rintro _ _ ⟨rfl, rfl⟩
  simp -implicitDefEqProofs only [vms, ↓reduceIte, Nat.reduceEqDiff, Nat.reduceAdd, reduceCtorEq, callC, encM, stGo_putA, putA_own, ao, il, i1, t1, t0]
  apply VWp_loop_of (k := 6)
  refine VRounds_adj (adj_pickN [0, 1, 2, 3, 4, 5, 6, 7, 8, 10, 13] [(0, .ptr 0 0), (4, .ptr 9 0), (7, .int .i32 0), (10, .ptr 10 0), (11, .ptr 7 0), (12, .int .i64 0)] (GS K buf (([], out ++ sosYL), [0, 0, 0]) T pix.length w h pix (List.replicate 64 0)) rfl (by simp [GS, encP_len]) rfl (by decide) ?_ rfl rfl (gs_cl K buf T w h pix _ _ _)) ?_
  · simp only [GS, encP_nil, encM, encBlk_eq, List.cons_append, List.nil_append, List.map_cons, List.map_nil, encBlkG_ren]
    rfl
  have hi1 := invO (out ++ sosYL) hos
  refine sgray_y C K buf T w h pix hP hG hK hKl hb hw hh hpl px hpb hpx hpi _ 5 0 (([], out ++ sosYL), [0, 0, 0]) 1 _ rfl (by omega) (by omega) hi1 (by omega) ?_
  intro l b hbl
  have hi := grayY_inv2 w h hpb ht 5 0 _ _ hi1
  have hsc : grayY K.q px w h 5 0 (([], out ++ sosYL), [0, 0, 0]) = scan K.q px w h true (([], out ++ sosYL), [0, 0, 0]) := rfl
  rw [hsc] at hi ⊢
  generalize hS : scan K.q px w h true (([], out ++ sosYL), [0, 0, 0]) = S at hi ⊢
  have hout := hi.out
  simp -implicitDefEqProofs only [vms, ↓reduceIte, reduceCtorEq, GS]
  have em := emit_spec C hP K buf hb S.1.1 hi.p S.1.2 (by omega) 127 7 (by omega) (by decide)
  have h7 : bitsOf 127 7 = List.replicate 7 true := rfl
  have hfe : feed (S.1.1, S.1.2) (bitsOf 127 7) = scanE w h true K.q px (out ++ sosYL) := by unfold scanE; rw [hS, h7]
  rw [hfe] at em
  simp only [natCast_lit] at em
  generalize scanE w h true K.q px (out ++ sosYL) = E at em ⊢
  refine callK_pre [imgB T 8 pix.length w h w, .vec .u8 pix 5, .ints .i32 b 146, rcB w h] em rfl rfl encM_cl encM_cl rfl rfl (by simp) rfl rfl ?_
  simp -implicitDefEqProofs only [vms, ↓reduceIte, callC, Nat.reduceBEq, vres_nil]
  refine retGo_take 9 (Nat.le_refl _) (by simp [encP_len]) rfl ?_ ⟨rfl, rfl⟩
  simp only [memCl, encP, encM, List.cons_append, List.nil_append, List.take_succ_cons, List.take_zero, List.all_cons, List.all_nil, Blk.refs, encBlk, enc_refs]
  rfl
end
end Go.VM
end

section
set_option linter.unusedSimpArgs false
namespace Go.VM
open Go Go.Proofs Go.Bits

/-! The reference's scan: its loops. -/
theorem call25 : callable Tryd.prog 25 = true := by kernel_rfl
theorem call29 : callable Tryd.prog 29 = true := by kernel_rfl

def SR (w h f : Nat) (caps : List V) (b : List Int) : Mem := [.own [.int .i64 w] 3, .own [.int .i64 h] 3, .own [.fn f caps] 33, .vec .u8 b 5]
def SM (w h f : Nat) (caps : List V) (b tabs : List Int) (st : ScS) : Mem := MB st.1.1 st.1.2 tabs st.2 ++ SR w h f caps b

section
variable (C : Ctx) (hP : C.P = Tryd.prog) (px : Nat → Nat → Nat → Int) (w h f : Nat) (caps : List V) (hcap : V.refsL caps = []) (b tabs : List Int)

theorem sm_len (st : ScS) : (SM w h f caps b tabs st).length = 21 := rfl
theorem sm_cl (hcap : V.refsL caps = []) (st : ScS) : memCl 21 (SM w h f caps b tabs st) = true := by
  have hcl := fn_cl f caps hcap
  simp only [memCl, SM, SR, MB, outMem, spT, RB, List.cons_append, List.nil_append, List.all_cons, List.all_nil, cB_refs, hcl]
  rfl
theorem sr_noRef (hcap : V.refsL caps = []) : noRef 1 (SR w h f caps b) = true := by
  simp [noRef, SR, Blk.refs, V.refsL, V.refs, hcap]
theorem sm17 (st : ScS) : (SM w h f caps b tabs st)[17]? = some (.own [.int .i64 w] 3) := rfl
theorem sm18 (st : ScS) : (SM w h f caps b tabs st)[18]? = some (.own [.int .i64 h] 3) := rfl

theorem db25 : V.drops [1] (.fn 25 [.ptr 16 0, .ptr 12 0, .ptr 13 0, .ptr 14 0, .ptr 15 0]) = .fn 25 [.ptr 16 0, .ptr 12 0, .ptr 13 0, .ptr 14 0, .ptr 15 0] := rfl
theorem db29 : V.drops [1] (.fn 29 [.ptr 19 0, .ptr 17 0, .ptr 18 0]) = .fn 29 [.ptr 19 0, .ptr 17 0, .ptr 18 0] := rfl

theorem gray_x (hP : C.P = Tryd.prog) (hcap : V.refsL caps = []) (hat : AtOk C px w h f caps) (hw : 0 < w ∧ w ≤ 40) (hh : 0 < h ∧ h ≤ 40) (ht : TabOk tabs) (y : Nat) (hy : y < 100) (Q : VX → Env → Mem → Prop) :
    ∀ (d x : Nat) (st : ScS) (n : Nat), w ≤ x + 8 * d → x < 200 → Inv st n → n + d ≤ 900 →
      (∀ (x' : Nat) e185, Q (.exit 12) [(2, .bool true), (6, .ptr 17 0), (7, .ptr 18 0), (14, .vec 20 b.length), (27, .ptr 2 0), (31, .fn 25 [.ptr 16 0, .ptr 12 0, .ptr 13 0, .ptr 14 0, .ptr 15 0]), (32, .fn 29 [.ptr 19 0, .ptr 17 0, .ptr 18 0]), (33, .int .i64 8), (34, .int .i64 y), (35, .int .i64 x'), (185, e185)]
        (SM w h f caps b tabs (grayX tabs px w h y d x st))) →
      VRounds 0 (VWp C 0 [] c11l9) (d + 1) [(2, .bool true), (6, .ptr 17 0), (7, .ptr 18 0), (14, .vec 20 b.length), (27, .ptr 2 0), (31, .fn 25 [.ptr 16 0, .ptr 12 0, .ptr 13 0, .ptr 14 0, .ptr 15 0]), (32, .fn 29 [.ptr 19 0, .ptr 17 0, .ptr 18 0]), (33, .int .i64 8), (34, .int .i64 y), (35, .int .i64 x)]
        (SM w h f caps b tabs st) Q := by
  intro d
  induction d with
  | zero =>
    intro x st n hx hx2 hi hn hQ
    refine round_gen fun K1 hK1 => ?_
    have hd : decide ((x : Int) < (w : Int)) = false := by simp; omega
    simp -implicitDefEqProofs only [vms, ↓reduceIte, Nat.reduceEqDiff, c11l9, sm17, hd]
    rw [hK1]
    exact hQ _ _
  | succ d ih =>
    intro x st n hx hx2 hi hn hQ
    refine round_gen fun K1 hK1 => ?_
    by_cases hxw : x < w
    · have hd : decide ((x : Int) < (w : Int)) = true := by simp; omega
      have hw8 : IntKind.i64.wrap ((x : Int) + 8) = ((x + 8 : Nat) : Int) := by rw [wrap_i64_id (by omega) (by omega)]; rfl
      simp -implicitDefEqProofs only [vms, ↓reduceIte, Nat.reduceEqDiff, c11l9, sm17, hd, hP, call29]
      refine callK_of [] rfl (by simp) (part_spec C px w h f caps hP hat hw hh _ (sm_cl w h f caps b tabs hcap st) 17 18 19 rfl rfl rfl x y 0 (by omega) (by omega) (by omega)) ?_
      rintro _ _ ⟨rfl, rfl⟩
      simp -implicitDefEqProofs only [vms, ↓reduceIte, Nat.reduceEqDiff, callC, hP, call25]
      obtain ⟨l1, l2⟩ := hi.l 0 (by omega)
      have hbk := blkAt_ok hat.pxb 0 w h x y
      have ho := hi.out
      refine callK_pre (SR w h f caps b) (block_cl C hP tabs st.2 (blkAt px 0 w h x y) 0 (by omega) 0 (by omega) hi.l3 ⟨l1, l2⟩ hbk.len hbk.b ht.len ht.q st.1.1 hi.p st.1.2 (by omega)) rfl rfl mb_cl mb_cl rfl rfl (by simp) rfl (sr_noRef w h f caps b hcap) ?_
      simp -implicitDefEqProofs only [vms, ↓reduceIte, Nat.reduceEqDiff, callC, Nat.reduceBEq, db25, db29, hw8]
      rw [hK1, roundK_normal]
      have hgo : grayX tabs px w h y (d + 1) x st = grayX tabs px w h y d (x + 8) (stepB tabs 0 0 (blkAt px 0 w h x y) st) := by
        simp only [grayX, if_pos hxw]
      rw [hgo] at hQ
      exact ih (x + 8) (stepB tabs 0 0 (blkAt px 0 w h x y) st) (n + 1) (by omega) (by omega) (stepB_inv ht hbk hi (by omega) (by omega)) (by omega) hQ
    · have hd : decide ((x : Int) < (w : Int)) = false := by simp; omega
      simp -implicitDefEqProofs only [vms, ↓reduceIte, Nat.reduceEqDiff, c11l9, sm17, hd]
      rw [hK1]
      have hgo : grayX tabs px w h y (d + 1) x st = st := by simp only [grayX, if_neg hxw]
      rw [hgo] at hQ
      exact hQ _ _

theorem grayX_inv (hat : AtOk C px w h f caps) (ht : TabOk tabs) (y : Nat) : ∀ (d x : Nat) (st : ScS) (n : Nat), Inv st n → Inv (grayX tabs px w h y d x st) (n + d)
  | 0, _, _, _, hi => hi
  | d + 1, x, st, n, hi => by
    simp only [grayX]
    split
    · have := grayX_inv hat ht y d (x + 8) _ _ (stepB_inv ht (blkAt_ok hat.pxb 0 w h x y) hi (part := 0) (c := 0) (by omega) (by omega))
      rwa [show n + 1 + d = n + (d + 1) by omega] at this
    · exact ⟨hi.p, by have := hi.out; omega, hi.l3, hi.l⟩

theorem gray_y (hP : C.P = Tryd.prog) (hcap : V.refsL caps = []) (hat : AtOk C px w h f caps) (hw : 0 < w ∧ w ≤ 40) (hh : 0 < h ∧ h ≤ 40) (ht : TabOk tabs) (Q : VX → Env → Mem → Prop) :
    ∀ (d y : Nat) (st : ScS) (n : Nat), h ≤ y + 8 * d → y < 50 + 8 → Inv st n → n + 5 * d ≤ 800 → y + 8 * d < 60 →
      (∀ (y' : Nat) e179, Q (.exit 10) [(2, .bool true), (6, .ptr 17 0), (7, .ptr 18 0), (14, .vec 20 b.length), (27, .ptr 2 0), (31, .fn 25 [.ptr 16 0, .ptr 12 0, .ptr 13 0, .ptr 14 0, .ptr 15 0]), (32, .fn 29 [.ptr 19 0, .ptr 17 0, .ptr 18 0]), (33, .int .i64 8), (34, .int .i64 y'), (179, e179)]
        (SM w h f caps b tabs (grayY tabs px w h d y st))) →
      VRounds 0 (VWp C 0 [] c11l10) (d + 1) [(2, .bool true), (6, .ptr 17 0), (7, .ptr 18 0), (14, .vec 20 b.length), (27, .ptr 2 0), (31, .fn 25 [.ptr 16 0, .ptr 12 0, .ptr 13 0, .ptr 14 0, .ptr 15 0]), (32, .fn 29 [.ptr 19 0, .ptr 17 0, .ptr 18 0]), (33, .int .i64 8), (34, .int .i64 y)]
        (SM w h f caps b tabs st) Q := by
  intro d
  induction d with
  | zero =>
    intro y st n hx hx2 hi hn hyb hQ
    refine round_gen fun K1 hK1 => ?_
    have hd : decide ((y : Int) < (h : Int)) = false := by simp; omega
    simp -implicitDefEqProofs only [vms, ↓reduceIte, Nat.reduceEqDiff, c11l10, sm18, hd]
    rw [hK1]
    exact hQ _ _
  | succ d ih =>
    intro y st n hx hx2 hi hn hyb hQ
    refine round_gen fun K1 hK1 => ?_
    by_cases hxw : y < h
    · have hd : decide ((y : Int) < (h : Int)) = true := by simp; omega
      have hw8 : IntKind.i64.wrap ((y : Int) + 8) = ((y + 8 : Nat) : Int) := by rw [wrap_i64_id (by omega) (by omega)]; rfl
      simp -implicitDefEqProofs only [vms, ↓reduceIte, Nat.reduceEqDiff, c11l10, sm18, hd]
      apply VWp_loop_of (k := 6)
      refine gray_x C px w h f caps b tabs hP hcap hat hw hh ht y (by omega) _ 5 0 st n (by omega) (by omega) hi (by omega) ?_
      intro x' e185
      simp -implicitDefEqProofs only [vms, ↓reduceIte, Nat.reduceEqDiff, hw8]
      rw [hK1, roundK_normal]
      have hgo : grayY tabs px w h (d + 1) y st = grayY tabs px w h d (y + 8) (grayX tabs px w h y 5 0 st) := by
        simp only [grayY, if_pos hxw]
      rw [hgo] at hQ
      exact ih (y + 8) _ (n + 5) (by omega) (by omega) (grayX_inv C px w h f caps tabs hat ht y 5 0 st n hi) (by omega) (by omega) hQ
    · have hd : decide ((y : Int) < (h : Int)) = false := by simp; omega
      simp -implicitDefEqProofs only [vms, ↓reduceIte, Nat.reduceEqDiff, c11l10, sm18, hd]
      rw [hK1]
      have hgo : grayY tabs px w h (d + 1) y st = st := by simp only [grayY, if_neg hxw]
      rw [hgo] at hQ
      exact hQ _ _

theorem lum_loop (hP : C.P = Tryd.prog) (hcap : V.refsL caps = []) (hat : AtOk C px w h f caps) (hw : 0 < w ∧ w ≤ 40) (hh : 0 < h ∧ h ≤ 40) (ht : TabOk tabs) (x y : Nat) (hx : x < 60) (hy : y < 60) (Q : VX → Env → Mem → Prop) :
    ∀ (d k : Nat) (st : ScS) (n : Nat), k + d = 4 → Inv st n → n + d ≤ 900 →
      (Q (.exit 14) [(2, .bool false), (6, .ptr 17 0), (7, .ptr 18 0), (14, .vec 20 b.length), (27, .ptr 2 0), (31, .fn 25 [.ptr 16 0, .ptr 12 0, .ptr 13 0, .ptr 14 0, .ptr 15 0]), (32, .fn 29 [.ptr 19 0, .ptr 17 0, .ptr 18 0]), (33, .int .i64 16), (34, .int .i64 y), (35, .int .i64 x), (196, .int .i64 4), (197, .bool false)]
        (SM w h f caps b tabs (lumK tabs px w h x y d k st))) →
      VRounds 0 (VWp C 0 [] c11l5) (d + 1) [(2, .bool false), (6, .ptr 17 0), (7, .ptr 18 0), (14, .vec 20 b.length), (27, .ptr 2 0), (31, .fn 25 [.ptr 16 0, .ptr 12 0, .ptr 13 0, .ptr 14 0, .ptr 15 0]), (32, .fn 29 [.ptr 19 0, .ptr 17 0, .ptr 18 0]), (33, .int .i64 16), (34, .int .i64 y), (35, .int .i64 x), (196, .int .i64 k)]
        (SM w h f caps b tabs st) Q := by
  intro d
  induction d with
  | zero =>
    intro k st n hk hi hn hQ
    refine round_gen fun K1 hK1 => ?_
    have hk4 : k = 4 := by omega
    subst hk4
    simp -implicitDefEqProofs only [vms, ↓reduceIte, Nat.reduceEqDiff, natCast_lit, Int.reduceLT, c11l5]
    rw [hK1]
    exact hQ
  | succ d ih =>
    intro k st n hk hi hn hQ
    refine round_gen fun K1 hK1 => ?_
    have hd : decide ((k : Int) < 4) = true := by simp; omega
    have hwk : IntKind.i64.wrap ((k : Int) + 1) = ((k + 1 : Nat) : Int) := by rw [wrap_i64_id (by omega) (by omega)]; rfl
    have r2 : vbin .rem (.int .i64 (k : Int)) (.int .i64 2) = some (.int .i64 ((k % 2 : Nat) : Int)) := by
      rw [vbin_rem (by decide), Int.tmod_eq_emod_of_nonneg (by omega)]; rfl
    have q2 : vbin .quo (.int .i64 (k : Int)) (.int .i64 2) = some (.int .i64 ((k / 2 : Nat) : Int)) := by
      rw [vbin_quo (by decide), Int.tdiv_eq_ediv_of_nonneg (by omega), wrap_i64_id (by omega) (by omega)]; rfl
    have w1 : IntKind.i64.wrap (((k % 2 : Nat) : Int) * 8) = ((k % 2 * 8 : Nat) : Int) := by rw [wrap_i64_id (by omega) (by omega)]; omega
    have w2 : IntKind.i64.wrap (((k / 2 : Nat) : Int) * 8) = ((k / 2 * 8 : Nat) : Int) := by rw [wrap_i64_id (by omega) (by omega)]; omega
    have w3 : IntKind.i64.wrap ((x : Int) + ((k % 2 * 8 : Nat) : Int)) = ((x + k % 2 * 8 : Nat) : Int) := by rw [wrap_i64_id (by omega) (by omega)]; omega
    have w4 : IntKind.i64.wrap ((y : Int) + ((k / 2 * 8 : Nat) : Int)) = ((y + k / 2 * 8 : Nat) : Int) := by rw [wrap_i64_id (by omega) (by omega)]; omega
    simp -implicitDefEqProofs only [vms, ↓reduceIte, Nat.reduceEqDiff, c11l5, hd, r2, q2, w1, w2, w3, w4, hP, call29]
    refine callK_of [] rfl (by simp) (part_spec C px w h f caps hP hat hw hh _ (sm_cl w h f caps b tabs hcap st) 17 18 19 rfl rfl rfl (x + k % 2 * 8) (y + k / 2 * 8) 0 (by omega) (by omega) (by omega)) ?_
    rintro _ _ ⟨rfl, rfl⟩
    simp -implicitDefEqProofs only [vms, ↓reduceIte, Nat.reduceEqDiff, callC, hP, call25]
    obtain ⟨l1, l2⟩ := hi.l 0 (by omega)
    have hbk := blkAt_ok hat.pxb 0 w h (x + k % 2 * 8) (y + k / 2 * 8)
    have ho := hi.out
    refine callK_pre (SR w h f caps b) (block_cl C hP tabs st.2 (blkAt px 0 w h (x + k % 2 * 8) (y + k / 2 * 8)) 0 (by omega) 0 (by omega) hi.l3 ⟨l1, l2⟩ hbk.len hbk.b ht.len ht.q st.1.1 hi.p st.1.2 (by omega)) rfl rfl mb_cl mb_cl rfl rfl (by simp) rfl (sr_noRef w h f caps b hcap) ?_
    simp -implicitDefEqProofs only [vms, ↓reduceIte, Nat.reduceEqDiff, callC, Nat.reduceBEq, db25, db29, hwk]
    rw [hK1, roundK_normal]
    exact ih (k + 1) (stepB tabs 0 0 (blkAt px 0 w h (x + k % 2 * 8) (y + k / 2 * 8)) st) (n + 1) (by omega) (stepB_inv ht hbk hi (by omega) (by omega)) (by omega) hQ

theorem lumK_inv (hat : AtOk C px w h f caps) (ht : TabOk tabs) (x y : Nat) : ∀ (d k : Nat) (st : ScS) (n : Nat), Inv st n → Inv (lumK tabs px w h x y d k st) (n + d)
  | 0, _, _, _, hi => hi
  | d + 1, k, st, n, hi => by
    simp only [lumK]
    have := lumK_inv hat ht x y d (k + 1) _ _ (stepB_inv ht (blkAt_ok hat.pxb 0 w h (x + k % 2 * 8) (y + k / 2 * 8)) hi (part := 0) (c := 0) (by omega) (by omega))
    rwa [show n + 1 + d = n + (d + 1) by omega] at this

theorem wn {x : Int} {n : Nat} (h : x = (n : Int)) (hb : n < 4611686018427387904) : IntKind.i64.wrap x = (n : Int) := by
  rw [wrap_i64_id (by omega) (by omega), h]

def SC (w h f : Nat) (caps : List V) (b tabs : List Int) (st : ScS) (n p : List Int) : Mem := SM w h f caps b tabs st ++ [.ints .i32 n 79, .ints .i32 p 79]
theorem sc_21 (st : ScS) (n p : List Int) : (SC w h f caps b tabs st n p)[21]? = some (.ints .i32 n 79) := rfl
theorem sc_22 (st : ScS) (n p : List Int) : (SC w h f caps b tabs st n p)[22]? = some (.ints .i32 p 79) := rfl
theorem sc_set (st : ScS) (n n' p : List Int) : (SC w h f caps b tabs st n p).set 21 (.ints .i32 n' 79) = SC w h f caps b tabs st n' p := rfl

theorem chr_j (x y c k : Nat) (hk : k < 4) (st : ScS) (P : Nat → List Int) (hP4 : BlkOk (P k)) (Q : VX → Env → Mem → Prop) :
    ∀ (d j : Nat), j + d = 16 →
      (Q (.exit 20) [(2, .bool false), (6, .ptr 17 0), (7, .ptr 18 0), (14, .vec 20 b.length), (27, .ptr 2 0), (31, .fn 25 [.ptr 16 0, .ptr 12 0, .ptr 13 0, .ptr 14 0, .ptr 15 0]), (32, .fn 29 [.ptr 19 0, .ptr 17 0, .ptr 18 0]), (33, .int .i64 16), (34, .int .i64 y), (35, .int .i64 x), (37, .int .i64 c), (38, .ptr 21 0), (39, .int .i64 k), (40, .ptr 22 0), (219, .int .i64 k), (235, .int .i64 16), (236, .bool false)]
        (SC w h f caps b tabs st (curC (chrF P) (16 * k + 16)) (P k))) →
      VRounds 0 (VWp C 0 [] c11l6) (d + 1) [(2, .bool false), (6, .ptr 17 0), (7, .ptr 18 0), (14, .vec 20 b.length), (27, .ptr 2 0), (31, .fn 25 [.ptr 16 0, .ptr 12 0, .ptr 13 0, .ptr 14 0, .ptr 15 0]), (32, .fn 29 [.ptr 19 0, .ptr 17 0, .ptr 18 0]), (33, .int .i64 16), (34, .int .i64 y), (35, .int .i64 x), (37, .int .i64 c), (38, .ptr 21 0), (39, .int .i64 k), (40, .ptr 22 0), (219, .int .i64 k), (235, .int .i64 j)]
        (SC w h f caps b tabs st (curC (chrF P) (16 * k + j)) (P k)) Q := by
  intro d
  induction d with
  | zero =>
    intro j hj hQ
    refine round_gen fun K1 hK1 => ?_
    have hj4 : j = 16 := by omega
    subst hj4
    simp -implicitDefEqProofs only [vms, ↓reduceIte, Nat.reduceEqDiff, natCast_lit, Int.reduceLT, c11l6]
    rw [hK1]
    exact hQ
  | succ d ih =>
    intro j hj hQ
    refine round_gen fun K1 hK1 => ?_
    have hd : decide ((j : Int) < 16) = true := by simp; omega
    have hwj : IntKind.i64.wrap ((j : Int) + 1) = ((j + 1 : Nat) : Int) := wn (by omega) (by omega)
    have r2 : vbin .rem (.int .i64 (k : Int)) (.int .i64 2) = some (.int .i64 ((k % 2 : Nat) : Int)) := by
      rw [vbin_rem (by decide), Int.tmod_eq_emod_of_nonneg (by omega)]; rfl
    have q2 : vbin .quo (.int .i64 (k : Int)) (.int .i64 2) = some (.int .i64 ((k / 2 : Nat) : Int)) := by
      rw [vbin_quo (by decide), Int.tdiv_eq_ediv_of_nonneg (by omega), wrap_i64_id (by omega) (by omega)]; rfl
    have r4 : vbin .rem (.int .i64 (j : Int)) (.int .i64 4) = some (.int .i64 ((j % 4 : Nat) : Int)) := by
      rw [vbin_rem (by decide), Int.tmod_eq_emod_of_nonneg (by omega)]; rfl
    have q4 : vbin .quo (.int .i64 (j : Int)) (.int .i64 4) = some (.int .i64 ((j / 4 : Nat) : Int)) := by
      rw [vbin_quo (by decide), Int.tdiv_eq_ediv_of_nonneg (by omega), wrap_i64_id (by omega) (by omega)]; rfl
    have a1 : IntKind.i64.wrap (((j / 4 : Nat) : Int) * 16) = ((j / 4 * 16 : Nat) : Int) := wn (by omega) (by omega)
    have a2 : IntKind.i64.wrap (((j % 4 : Nat) : Int) * 2) = ((j % 4 * 2 : Nat) : Int) := wn (by omega) (by omega)
    have a3 : IntKind.i64.wrap (((j / 4 * 16 : Nat) : Int) + ((j % 4 * 2 : Nat) : Int)) = ((j / 4 * 16 + j % 4 * 2 : Nat) : Int) := wn (by omega) (by omega)
    have b1 : IntKind.i64.wrap (((k / 2 : Nat) : Int) * 32) = ((k / 2 * 32 : Nat) : Int) := wn (by omega) (by omega)
    have b2 : IntKind.i64.wrap (((k % 2 : Nat) : Int) * 4) = ((k % 2 * 4 : Nat) : Int) := wn (by omega) (by omega)
    have b3 : IntKind.i64.wrap (((k / 2 * 32 : Nat) : Int) + ((k % 2 * 4 : Nat) : Int)) = ((k / 2 * 32 + k % 2 * 4 : Nat) : Int) := wn (by omega) (by omega)
    have b4 : IntKind.i64.wrap (((j / 4 : Nat) : Int) * 8) = ((j / 4 * 8 : Nat) : Int) := wn (by omega) (by omega)
    have b5 : IntKind.i64.wrap (((k / 2 * 32 + k % 2 * 4 : Nat) : Int) + ((j / 4 * 8 : Nat) : Int)) = ((k / 2 * 32 + k % 2 * 4 + j / 4 * 8 : Nat) : Int) := wn (by omega) (by omega)
    have b6 : IntKind.i64.wrap (((k / 2 * 32 + k % 2 * 4 + j / 4 * 8 : Nat) : Int) + ((j % 4 : Nat) : Int)) = ((idxC (16 * k + j) : Nat) : Int) := wn (by unfold idxC; omega) (by unfold idxC; omega)
    have hidx := (rank_ok (16 * k + j) (by omega)).2.2.1
    have hrank := (rank_ok (16 * k + j) (by omega)).2.1
    generalize ha : j / 4 * 16 + j % 4 * 2 = a at *
    have ha63 : a + 9 < 64 := by omega
    have c1 : IntKind.i64.wrap ((a : Int) + 1) = ((a + 1 : Nat) : Int) := wn (by omega) (by omega)
    have c8 : IntKind.i64.wrap ((a : Int) + 8) = ((a + 8 : Nat) : Int) := wn (by omega) (by omega)
    have c9 : IntKind.i64.wrap ((a : Int) + 9) = ((a + 9 : Nat) : Int) := wn (by omega) (by omega)
    have ia : ∀ i : Nat, i < 64 → vidxA 64 1 (.ptr 22 0) (.int .i64 (i : Int)) = some (.ptr 22 i) := fun i hi => by rw [vidxA_ptr (by omega) (by omega)]; simp
    have la : ∀ i : Nat, i < 64 → cellB (some (.ints .i32 (P k) 79)) i = some (.int .i32 (gI (P k) i)) := fun i hi => cellB_ints (gI_get _ _ (by rw [hP4.len]; exact hi))
    have i0 := ia a (by omega)
    have i1 := ia (a + 1) (by omega)
    have i8 := ia (a + 8) (by omega)
    have i9 := ia (a + 9) (by omega)
    have l0 := la a (by omega)
    have l1 := la (a + 1) (by omega)
    have l8 := la (a + 8) (by omega)
    have l9 := la (a + 9) (by omega)
    have v0 := hP4.b a (by omega)
    have v1 := hP4.b (a + 1) (by omega)
    have v8 := hP4.b (a + 8) (by omega)
    have v9 := hP4.b (a + 9) (by omega)
    have hval : chrF P (idxC (16 * k + j)) = (gI (P k) a + gI (P k) (a + 1) + gI (P k) (a + 8) + gI (P k) (a + 9) + 2) / 4 := by
      unfold chrF
      rw [hrank, show (16 * k + j) / 16 = k by omega, show (16 * k + j) % 16 = j by omega]
      unfold avgAt
      rw [ha]
    unfold inB at v0 v1 v8 v9
    generalize gI (P k) a = x0 at *
    generalize gI (P k) (a + 1) = x1 at *
    generalize gI (P k) (a + 8) = x8 at *
    generalize gI (P k) (a + 9) = x9 at *
    have s1 : IntKind.i32.wrap (x0 + x1) = x0 + x1 := wrap_i32_id (by omega) (by omega)
    have s2 : IntKind.i32.wrap (x0 + x1 + x8) = x0 + x1 + x8 := wrap_i32_id (by omega) (by omega)
    have s3 : IntKind.i32.wrap (x0 + x1 + x8 + x9) = x0 + x1 + x8 + x9 := wrap_i32_id (by omega) (by omega)
    have s4 : IntKind.i32.wrap (x0 + x1 + x8 + x9 + 2) = x0 + x1 + x8 + x9 + 2 := wrap_i32_id (by omega) (by omega)
    have io : vidxA 64 1 (.ptr 21 0) (.int .i64 ((idxC (16 * k + j) : Nat) : Int)) = some (.ptr 21 (idxC (16 * k + j))) := by rw [vidxA_ptr (by omega) (by omega)]; simp
    have hpb : ∀ N : Mem, putB N 21 (idxC (16 * k + j)) (.int .i32 ((x0 + x1 + x8 + x9 + 2) / 4)) (some (.ints .i32 (curC (chrF P) (16 * k + j)) 79)) = some (.undef, N.set 21 (.ints .i32 (curC (chrF P) (16 * k + j + 1)) 79)) := fun N => by
      rw [putB_ints (by rw [curC_len]; omega), ← hval, curC_set _ _ (by omega)]
    simp -implicitDefEqProofs only [vms, ↓reduceIte, Nat.reduceEqDiff, Nat.min_def, IntKind.bits, Nat.reduceLeDiff, Int.reducePow, Int.reduceToNat, Int.reduceLE, c11l6, hd, r2, q2, r4, q4, a1, a2, a3, b1, b2, b3, b4, b5, b6, c1, c8, c9, i0, i1, i8, i9, l0, l1, l8, l9, s1, s2, s3, s4, io, sc_21, sc_22, hpb, sc_set, hwj]
    rw [hK1, roundK_normal]
    exact ih (j + 1) (by omega) hQ
end
end Go.VM
end
