/-
  A part of a machine over the model and of a walk by it, proved right against the model; proved outright, under no condition but what each theorem names.
-/
import Derived.Test.YtahmhofnilgfgaaDoorGItoFD0
import Derived.Test.YtahmhofnilgfgaaDoorFD1
import Derived.Test.YtahmhofnilgfgaaDoorFD2
import Derived.Test.YtahmhofnilgfgaaDoorFD3
set_option linter.unusedVariables false
set_option linter.unusedSimpArgs false
section
set_option linter.unusedSimpArgs false
set_option maxRecDepth 10000
namespace Go.VM
open Go Go.Proofs Go.Bits

/-! The reference's Encoded: its head. -/
def seg (m : Int) (xs : List Int) : List Int := [255, m, ((xs.length : Int) + 2) / 256, ((xs.length : Int) + 2) % 256] ++ xs
theorem seg_len (m : Int) (xs : List Int) : (seg m xs).length = xs.length + 4 := by simp [seg]

theorem set_same {M : Mem} {i : Nat} {B : Blk} (h : M[i]? = some B) : M.set i B = M := by
  apply List.ext_getElem?
  intro j
  rw [List.getElem?_set]
  split
  · rename_i hj; subst hj
    rw [if_pos (List.getElem?_eq_some_iff.1 h).1, h]
  · rfl

section
variable {C : Ctx} {n0 : Nat} {mv : List Nat}
theorem callK_seg (hP : C.P = Tryd.prog) {M : Mem} {K : List Nat → V → Mem → Prop} (i : Nat) (row : List Int) (m : Int) (hM : M[i]? = some (.vec .u8 row 5)) (hl : row.length ≤ 60000) (hK : K [] (.vec M.length (row.length + 4)) (M ++ [.vec .u8 (seg m row) 5])) :
    callK C n0 mv 20 [.int .u8 m, .vec i row.length] M K := by
  have hi : i < M.length := (List.getElem?_eq_some_iff.1 hM).1
  refine callK_fr [i] (segment_spec C hP m row hl) rfl (by simp) (by simpa using hi) ⟨hM, trivial⟩ rfl rfl rfl ?_
  rintro _ _ ⟨rfl, rfl⟩ -
  have h1 : merge M [i] [.vec .u8 row 5, .vec .u8 ([255, m, ((row.length : Int) + 2) / 256, ((row.length : Int) + 2) % 256] ++ row) 5] = M ++ [.vec .u8 (seg m row) 5] := by
    simp only [merge, List.map_cons, List.map_nil, Blk.ren, setAll, set_same hM]
    rfl
  rw [h1]
  have h2 : (V.vec 1 (row.length + 4)).ren (fpσ [i] M.length) = .vec M.length (row.length + 4) := by
    simp [V.ren, fpσ]
  rw [h2]
  exact hK
end

theorem vbox_fn {T f : Nat} {caps : List V} : vbox T (.fn f caps) = some (.own [.fn f caps] T) := rfl
theorem stGo_fn {M : Mem} {b o f : Nat} {caps : List V} : stGo M 1 (.fn f caps) (.ptr b o) = putB M b o (.fn f caps) M[b]? := stGo_one rfl rfl (fun _ _ => by simp)
theorem fill2 {s0 s1 : List Int} (h0 : s0.length = 64) (h1 : s1.length = 64) : vfill [(0, 64, .ints .i64 s0), (64, 64, .ints .i64 s1)] (.ints .i64 (List.replicate 128 0)) = some (.ints .i64 (s0 ++ s1)) := by
  have e1 : splice (List.replicate 128 (0 : Int)) 0 s0 = s0 ++ List.replicate 64 0 := by
    simp [splice, h0, List.drop_replicate, -List.reduceReplicate]
  have e2 : splice (s0 ++ List.replicate 64 (0 : Int)) 64 s1 = s0 ++ s1 := by
    simp only [splice]
    rw [List.take_append_of_le_length (by omega), List.take_of_length_le (by omega), List.drop_eq_nil_of_le (by simp [h0, h1, -List.reduceReplicate]), List.append_nil]
  simp only [vfill]
  rw [if_pos ⟨trivial, h0.symm, by simp only [List.length_replicate]; omega⟩, e1, if_pos ⟨trivial, h1.symm, by simp only [List.length_append, List.length_replicate, h0]; omega⟩, e2]

/-- the head's first three parts -/
def hdA (w h : Nat) (gray : Bool) (q : Int) : List Int :=
  [255, 216] ++ seg 219 (dqtRow (scaledL false q) (scaledL true q)) ++ seg 192 (sof w h (if gray then 1 else 3))

section
variable (C : Ctx) (w h f : Nat) (caps : List V)

set_option maxHeartbeats 1000000 in
theorem enc_A (hP : C.P = Tryd.prog) (hcap : V.refsL caps = []) (hk : allKnown caps = true) (hw : 0 < w ∧ w ≤ 40) (hh : 0 < h ∧ h ≤ 40) (gray : Bool) (q : Int) (hq : 1 ≤ q ∧ q ≤ 100) (R : V → Mem → Prop)
    (hQ : ∀ g6 g7 g8 g9 g10 : List Int, VWp C 0 [] c11m [(2, .bool gray), (6, .ptr 0 0), (7, .ptr 1 0), (10, .ptr 2 0), (11, .ptr 3 0), (13, .ptr 4 0), (14, .vec 5 (hdA w h gray q).length), (113, .undef), (114, .undef)]
      [.own [.int .i64 w] 3, .own [.int .i64 h] 3, .own [.fn f caps] 33, .own [.fn 13 []] 41, .ints .i64 (scaledL false q ++ scaledL true q) 62, .vec .u8 (hdA w h gray q) 5, .vec .u8 g6 5, .vec .u8 g7 5, .vec .u8 g8 5, .vec .u8 g9 5, .vec .u8 g10 5] (fnPost 0 [.tmp 12] R)) :
    VCalls C 11 [.int .i64 w, .int .i64 h, .bool gray, .int .i64 q, .fn f caps, .fn 13 []] [] [] R := by
  refine VCalls.of_fn (hs := h11) (F := F11) (by rw [hP]; exact is11) (by simp [F11]) ?_
  have hfe := fn_erase f caps hcap
  have s0 := scaledL_len false q
  have s1 := scaledL_len true q
  have f2 := fill2 s0 s1
  have s128 : (scaledL false q ++ scaledL true q).length = 128 := by simp [s0, s1]
  have r128 : (List.replicate 128 (0 : Int)).length = 128 := by simp only [List.length_replicate]
  have rr : rangeB (some (.ints .i64 (scaledL false q ++ scaledL true q) 62)) 0 128 = some (.ints .i64 (scaledL false q ++ scaledL true q)) := rangeB_ints s128.symm
  have vb : vfill [(0, 1, .int .u8 255), (1, 1, .int .u8 216)] (.ints .u8 [0, 0]) = some (.ints .u8 [255, 216]) := rfl
  simp -implicitDefEqProofs only [vms, ↓reduceIte, Nat.reduceEqDiff, Nat.reduceAdd, reduceCtorEq, F11, c11, vbox_fn]
  refine callK_new (scaled_spec C hP false q hq.1 hq.2) rfl rfl (.ints .i64 (scaledL false q)) [] rfl rfl ?_
  simp -implicitDefEqProofs only [vms, ↓reduceIte, Nat.reduceEqDiff, callC, List.append_nil]
  refine callK_new (scaled_spec C hP true q hq.1 hq.2) rfl rfl (.ints .i64 (scaledL true q)) [] rfl rfl ?_
  simp -implicitDefEqProofs only [vms, ↓reduceIte, Nat.reduceEqDiff, Nat.reduceAdd, Nat.reduceLeDiff, callC, List.append_nil, f2, stGo_putP, putP_ints, s128, r128, vb, range_eqB, rr]
  apply VWp_loop_of (k := 3)
  refine dqt_loop C w h f caps hcap gray (scaledL false q ++ scaledL true q) [255, 216] (scaledL false q) (scaledL true q) s0 s1 (fun i hi => scaledL_le _ _ i hi) (fun i hi => scaledL_le _ _ i hi) _ ?_
  simp -implicitDefEqProofs only [vms, ↓reduceIte, Nat.reduceEqDiff, Nat.reduceAdd, EM0]
  refine callK_seg hP 6 (dqtRow (scaledL false q) (scaledL true q)) 219 rfl (by simp [dqtRow, s0, s1]) ?_
  simp -implicitDefEqProofs only [vms, ↓reduceIte, Nat.reduceEqDiff, Nat.reduceAdd, callC]
  refine app_of (xs := [255, 216]) rfl rfl (.inl (by omega)) (elems_vec rfl (seg_len _ _)) (by simp [seg_len, dqtRow, s0, s1]) ?_
  have w1 : IntKind.u8.wrap ((h : Int) / 256) = (h : Int) / 256 := wrap_u8_id (by omega) (by omega)
  have w2 : IntKind.u8.wrap (h : Int) = (h : Int) % 256 := by simp [IntKind.wrap, IntKind.bits, IntKind.signed]
  have w3 : IntKind.u8.wrap ((w : Int) / 256) = (w : Int) / 256 := wrap_u8_id (by omega) (by omega)
  have w4 : IntKind.u8.wrap (w : Int) = (w : Int) % 256 := by simp [IntKind.wrap, IntKind.bits, IntKind.signed]
  have v6 : ∀ a b c d n : Int, vfill [(0, 1, .int .u8 8), (1, 1, .int .u8 a), (2, 1, .int .u8 b), (3, 1, .int .u8 c), (4, 1, .int .u8 d), (5, 1, .int .u8 n)] (.ints .u8 (List.replicate 6 0)) = some (.ints .u8 [8, a, b, c, d, n]) := fun _ _ _ _ _ => rfl
  have v3 : vfill [(0, 1, .int .u8 1), (1, 1, .int .u8 17), (2, 1, .int .u8 0)] (.ints .u8 [0, 0, 0]) = some (.ints .u8 [1, 17, 0]) := rfl
  have v9 : vfill [(0, 1, .int .u8 1), (1, 1, .int .u8 34), (2, 1, .int .u8 0), (3, 1, .int .u8 2), (4, 1, .int .u8 17), (5, 1, .int .u8 1), (6, 1, .int .u8 3), (7, 1, .int .u8 17), (8, 1, .int .u8 1)] (.ints .u8 (List.replicate 9 0)) = some (.ints .u8 [1, 34, 0, 2, 17, 1, 3, 17, 1]) := rfl
  have hbl : (255 :: 216 :: seg 219 (dqtRow (scaledL false q) (scaledL true q))).length = 2 + (seg 219 (dqtRow (scaledL false q) (scaledL true q))).length := by simp only [List.length_cons]; omega
  have hb1 : (dqtRow (scaledL false q) (scaledL true q)).length = 130 := by simp [dqtRow, s0, s1]
  cases gray with
  | true =>
    have hs : ([8, (h : Int) / 256, (h : Int) % 256, (w : Int) / 256, (w : Int) % 256, 1] ++ [1, 17, 0] : List Int) = sof w h 1 := rfl
    simp -implicitDefEqProofs only [vms, ↓reduceIte, Nat.reduceEqDiff, Nat.reduceAdd, Nat.min_def, IntKind.bits, Nat.reduceLeDiff, Int.reducePow, Int.reduceToNat, Int.reduceLE, callC, Nat.reduceBEq, wl8, hfe, efn0, w1, w2, w3, w4, v6, v3]
    refine app_of (xs := [8, (h : Int) / 256, (h : Int) % 256, (w : Int) / 256, (w : Int) % 256, 1]) rfl rfl (.inl (by omega)) (elems_vec (xs := [1, 17, 0]) rfl rfl) (by simp) ?_
    rw [hs]
    simp -implicitDefEqProofs only [vms, ↓reduceIte, Nat.reduceEqDiff, Nat.reduceAdd, callC, Nat.reduceBEq, hfe, efn0]
    refine callK_seg hP 8 (sof w h 1) 192 rfl (by simp [sof]) ?_
    simp -implicitDefEqProofs only [vms, ↓reduceIte, Nat.reduceEqDiff, Nat.reduceAdd, callC]
    refine app_of (xs := 255 :: 216 :: seg 219 (dqtRow (scaledL false q) (scaledL true q))) rfl hbl (.inl (by omega)) (elems_vec rfl (seg_len _ _)) (by rw [hbl, seg_len, seg_len, hb1]; simp [sof]) ?_
    have hA : (255 :: 216 :: seg 219 (dqtRow (scaledL false q) (scaledL true q))) ++ seg 192 (sof w h 1) = hdA w h true q := rfl
    have hl : 2 + (seg 219 (dqtRow (scaledL false q) (scaledL true q))).length + (seg 192 (sof w h 1)).length = (hdA w h true q).length := by rw [← hA, List.length_append, hbl]
    rw [hA, hl]
    simp -implicitDefEqProofs only [vms, ↓reduceIte, Nat.reduceEqDiff, callC, Nat.reduceBEq, hfe, efn0]
    exact hQ _ _ _ _ _
  | false =>
    have hs : ([8, (h : Int) / 256, (h : Int) % 256, (w : Int) / 256, (w : Int) % 256, 3] ++ [1, 34, 0, 2, 17, 1, 3, 17, 1] : List Int) = sof w h 3 := rfl
    simp -implicitDefEqProofs only [vms, ↓reduceIte, Nat.reduceEqDiff, Nat.reduceAdd, Nat.min_def, IntKind.bits, Nat.reduceLeDiff, Int.reducePow, Int.reduceToNat, Int.reduceLE, callC, Nat.reduceBEq, wl8, hfe, efn0, w1, w2, w3, w4, v6, v9]
    refine app_of (xs := [8, (h : Int) / 256, (h : Int) % 256, (w : Int) / 256, (w : Int) % 256, 3]) rfl rfl (.inl (by omega)) (elems_vec (xs := [1, 34, 0, 2, 17, 1, 3, 17, 1]) rfl rfl) (by simp) ?_
    rw [hs]
    simp -implicitDefEqProofs only [vms, ↓reduceIte, Nat.reduceEqDiff, Nat.reduceAdd, callC, Nat.reduceBEq, hfe, efn0]
    refine callK_seg hP 8 (sof w h 3) 192 rfl (by simp [sof]) ?_
    simp -implicitDefEqProofs only [vms, ↓reduceIte, Nat.reduceEqDiff, Nat.reduceAdd, callC]
    refine app_of (xs := 255 :: 216 :: seg 219 (dqtRow (scaledL false q) (scaledL true q))) rfl hbl (.inl (by omega)) (elems_vec rfl (seg_len _ _)) (by rw [hbl, seg_len, seg_len, hb1]; simp [sof]) ?_
    have hA : (255 :: 216 :: seg 219 (dqtRow (scaledL false q) (scaledL true q))) ++ seg 192 (sof w h 3) = hdA w h false q := rfl
    have hl : 2 + (seg 219 (dqtRow (scaledL false q) (scaledL true q))).length + (seg 192 (sof w h 3)).length = (hdA w h false q).length := by rw [← hA, List.length_append, hbl]
    rw [hA, hl]
    simp -implicitDefEqProofs only [vms, ↓reduceIte, Nat.reduceEqDiff, callC, Nat.reduceBEq, hfe, efn0]
    exact hQ _ _ _ _ _
end
end Go.VM
end

section
set_option linter.unusedSimpArgs false
set_option maxRecDepth 10000
namespace Go.VM
open Go Go.Proofs Go.Bits

/-! The reference's Encoded: codes and the scan's head. -/

theorem std0 (C : Ctx) (hP : C.P = Tryd.prog) : VCalls C 21 [.int .i64 0, .bool false] [] [] fun v M' => v = .ptr 0 0 ∧ M' = [cBg 0 1, sB 0] := st0_spec C hP
theorem std1 (C : Ctx) (hP : C.P = Tryd.prog) : VCalls C 21 [.int .i64 1, .bool false] [] [] fun v M' => v = .ptr 0 0 ∧ M' = [cBg 1 1, sB 1] := st1_spec C hP
theorem std2 (C : Ctx) (hP : C.P = Tryd.prog) : VCalls C 21 [.int .i64 0, .bool true] [] [] fun v M' => v = .ptr 0 0 ∧ M' = [cBg 2 1, sB 2] := st2_spec C hP
theorem std3 (C : Ctx) (hP : C.P = Tryd.prog) : VCalls C 21 [.int .i64 1, .bool true] [] [] fun v M' => v = .ptr 0 0 ∧ M' = [cBg 3 1, sB 3] := st3_spec C hP

theorem fn_ren {f : Nat} {caps : List V} (hcap : V.refsL caps = []) (σ : Nat → Nat) : V.renL σ caps = caps := by
  rw [V.renL_congr caps (σ' := id) (fun b hb => by rw [hcap] at hb; cases hb), V.renL_map]
  conv => rhs; rw [← List.map_id caps]
  exact List.map_congr_left fun v _ => V.ren_id v

/-- the row of codes -/
def dhtRow (gray : Bool) : List Int := if gray then dhtOne 0 ++ dhtOne 1 else dhtOne 0 ++ dhtOne 1 ++ dhtOne 2 ++ dhtOne 3
def sosRow (gray : Bool) : List Int := if gray then [1, 1, 0, 0, 63, 0] else [3, 1, 0, 2, 17, 3, 17, 0, 63, 0]
def hdB (w h : Nat) (gray : Bool) (q : Int) : List Int := hdA w h gray q ++ seg 196 (dhtRow gray) ++ seg 218 (sosRow gray)

theorem dhtRow_len (gray : Bool) : (dhtRow gray).length ≤ 1000 := by
  have h0 := tabS_len 0 (by omega)
  have h1 := tabS_len 1 (by omega)
  have h2 := tabS_len 2 (by omega)
  have h3 := tabS_len 3 (by omega)
  have t0 := (tab_len 0 (by omega)).1
  have t1 := (tab_len 1 (by omega)).1
  have t2 := (tab_len 2 (by omega)).1
  have t3 := (tab_len 3 (by omega)).1
  cases gray <;> simp [dhtRow, dhtOne] <;> omega

section
variable (C : Ctx) (w h f : Nat) (caps : List V)

theorem enc_B1 (hP : C.P = Tryd.prog) (hcap : V.refsL caps = []) (gray : Bool) (tabs b : List Int) (g6 g7 g8 g9 g10 : List Int) (Q : VX → Env → Mem → Prop)
    (hQ : VWp C 0 [] c11n [(2, .bool gray), (6, .ptr 0 0), (7, .ptr 1 0), (10, .ptr 2 0), (11, .ptr 3 0), (13, .ptr 4 0), (14, .vec 5 b.length), (15, .vec 20 0), (21, .ptr 19 0), (113, .undef), (114, .undef)]
      [.own [.int .i64 w] 3, .own [.int .i64 h] 3, .own [.fn f caps] 33, .own [.fn 13 []] 41, .ints .i64 tabs 62, .vec .u8 b 5, .vec .u8 g6 5, .vec .u8 g7 5, .vec .u8 g8 5, .vec .u8 g9 5, .vec .u8 g10 5, cBg 0 12, sB 0, cBg 1 14, sB 1, cBg 2 16, sB 2, cBg 3 18, sB 3, .own [.ptr 11 0, .ptr 13 0, .ptr 15 0, .ptr 17 0] 66, .vec .u8 [] 5] Q) :
    VWp C 0 [] c11m [(2, .bool gray), (6, .ptr 0 0), (7, .ptr 1 0), (10, .ptr 2 0), (11, .ptr 3 0), (13, .ptr 4 0), (14, .vec 5 b.length), (113, .undef), (114, .undef)]
      [.own [.int .i64 w] 3, .own [.int .i64 h] 3, .own [.fn f caps] 33, .own [.fn 13 []] 41, .ints .i64 tabs 62, .vec .u8 b 5, .vec .u8 g6 5, .vec .u8 g7 5, .vec .u8 g8 5, .vec .u8 g9 5, .vec .u8 g10 5] Q := by
  have vf : ∀ a b c d : Nat, vfill [(0, 1, .ptr a 0), (1, 1, .ptr b 0), (2, 1, .ptr c 0), (3, 1, .ptr d 0)] (.agg [.nilp, .nilp, .nilp, .nilp]) = some (.agg [.ptr a 0, .ptr b 0, .ptr c 0, .ptr d 0]) := fun _ _ _ _ => rfl
  have ao : ∀ a b c d : Nat, (([.ptr a 0, .ptr b 0, .ptr c 0, .ptr d 0] : List V).all V.one) = true := fun _ _ _ _ => rfl
  simp -implicitDefEqProofs only [vms, c11m]
  refine callK_new (std0 C hP) rfl rfl (.ptr 11 0) [cBg 0 12, sB 0] rfl (by simp only [List.map_cons, List.map_nil, cBg_ren]; rfl) ?_
  simp -implicitDefEqProofs only [vms, callC]
  refine callK_new (std1 C hP) rfl rfl (.ptr 13 0) [cBg 1 14, sB 1] rfl (by simp only [List.map_cons, List.map_nil, cBg_ren]; rfl) ?_
  simp -implicitDefEqProofs only [vms, callC]
  refine callK_new (std2 C hP) rfl rfl (.ptr 15 0) [cBg 2 16, sB 2] rfl (by simp only [List.map_cons, List.map_nil, cBg_ren]; rfl) ?_
  simp -implicitDefEqProofs only [vms, callC]
  refine callK_new (std3 C hP) rfl rfl (.ptr 17 0) [cBg 3 18, sB 3] rfl (by simp only [List.map_cons, List.map_nil, cBg_ren]; rfl) ?_
  simp -implicitDefEqProofs only [vms, ↓reduceIte, Nat.reduceEqDiff, Nat.reduceAdd, Nat.reduceLeDiff, callC, vf, stGo_putA, putA_own, ao]
  exact hQ

theorem dht_exit (d : Nat) (gray : Bool) (k : Nat) (hk : (gray = true ∧ k = 2) ∨ k = 4) (tabs b row : List Int) (u v : V) (Q : VX → Env → Mem → Prop)
    (hQ : ∀ l : Env, Q (.exit 4) ((2, .bool gray) :: (6, .ptr 0 0) :: (7, .ptr 1 0) :: (10, .ptr 2 0) :: (11, .ptr 3 0) :: (13, .ptr 4 0) :: (14, .vec 5 b.length) :: (15, .vec 6 row.length) :: (21, .ptr 7 0) :: l) (EM1 w h f caps tabs b row)) :
    VRounds 0 (VWp C 0 [] c11l4) (d + 1) [(2, .bool gray), (6, .ptr 0 0), (7, .ptr 1 0), (10, .ptr 2 0), (11, .ptr 3 0), (13, .ptr 4 0), (14, .vec 5 b.length), (15, .vec 6 row.length), (21, .ptr 7 0), (106, arrV), (107, .int .i64 k), (113, u), (114, v)]
      (EM1 w h f caps tabs b row) Q := by
  refine round_gen fun K1 hK1 => ?_
  rcases hk with ⟨rfl, rfl⟩ | rfl
  · have i1 : vidxV false 4 1 arrV (.int .i64 2) = some (.ptr 12 0) := rfl
    have kp : knownGo (some (.ptr 12 0)) = some (.ptr 12 0) := rfl
    simp -implicitDefEqProofs only [vms, ↓reduceIte, Nat.reduceEqDiff, natCast_lit, Int.reduceLT, c11l4, i1, kp]
    rw [hK1]
    exact hQ _
  · simp -implicitDefEqProofs only [vms, ↓reduceIte, Nat.reduceEqDiff, natCast_lit, Int.reduceLT, c11l4]
    rw [hK1]
    exact hQ _

theorem em1_er5 (hcap : V.refsL caps = []) (tabs b row b' : List Int) (R R' : Mem) (hR : R.map (Blk.erase 5) = R') : ((EM1 w h f caps tabs b row ++ R).erase 5).set 5 (.vec .u8 b' 5) = EM1 w h f caps tabs b' row ++ R' := by
  have hfe := fn_erase f caps hcap 5
  subst hR
  simp only [EM1, Mem.erase, List.map_append, List.cons_append, List.nil_append, List.map_cons, List.map_nil, cBg_erase 0 9 5 rfl, cBg_erase 1 11 5 rfl, cBg_erase 2 13 5 rfl, cBg_erase 3 15 5 rfl, erase_own, hfe]
  rfl

theorem enc_B2 (hP : C.P = Tryd.prog) (hcap : V.refsL caps = []) (gray : Bool) (tabs b : List Int) (hb : b.length ≤ 100000) (g6 g7 g8 g9 g10 : List Int) (Q : VX → Env → Mem → Prop)
    (hQ : ∀ r17 s16 s18 : List Int, VWp C 0 [] c11t [(2, .bool gray), (6, .ptr 0 0), (7, .ptr 1 0), (10, .ptr 2 0), (11, .ptr 3 0), (13, .ptr 4 0), (14, .vec 5 (b ++ seg 196 (dhtRow gray) ++ seg 218 (sosRow gray)).length), (21, .ptr 7 0)]
      (EM1 w h f caps tabs (b ++ seg 196 (dhtRow gray) ++ seg 218 (sosRow gray)) (dhtRow gray) ++ [.vec .u8 s16 5, .vec .u8 r17 5, .vec .u8 s18 5]) Q) :
    VWp C 0 [] c11n [(2, .bool gray), (6, .ptr 0 0), (7, .ptr 1 0), (10, .ptr 2 0), (11, .ptr 3 0), (13, .ptr 4 0), (14, .vec 5 b.length), (15, .vec 20 0), (21, .ptr 19 0), (113, .undef), (114, .undef)]
      [.own [.int .i64 w] 3, .own [.int .i64 h] 3, .own [.fn f caps] 33, .own [.fn 13 []] 41, .ints .i64 tabs 62, .vec .u8 b 5, .vec .u8 g6 5, .vec .u8 g7 5, .vec .u8 g8 5, .vec .u8 g9 5, .vec .u8 g10 5, cBg 0 12, sB 0, cBg 1 14, sB 1, cBg 2 16, sB 2, cBg 3 18, sB 3, .own [.ptr 11 0, .ptr 13 0, .ptr 15 0, .ptr 17 0] 66, .vec .u8 [] 5] Q := by
  have rr : rangeB (some (.own [.ptr 11 0, .ptr 13 0, .ptr 15 0, .ptr 17 0] 66)) 0 4 = some (.agg [.ptr 11 0, .ptr 13 0, .ptr 15 0, .ptr 17 0]) := rfl
  have hcl := em1_cl w h f caps tabs b [] hcap
  have hfr := fun σ => fn_ren (f := f) hcap σ
  have hrl := dhtRow_len gray
  -- behind the row of codes
  have main : ∀ l : Env, VWp C 0 [] c11o ((2, .bool gray) :: (6, .ptr 0 0) :: (7, .ptr 1 0) :: (10, .ptr 2 0) :: (11, .ptr 3 0) :: (13, .ptr 4 0) :: (14, .vec 5 b.length) :: (15, .vec 6 (dhtRow gray).length) :: (21, .ptr 7 0) :: l) (EM1 w h f caps tabs b (dhtRow gray)) Q := by
    intro l
    have m6 : ∀ R : Mem, (EM1 w h f caps tabs b (dhtRow gray) ++ R)[6]? = some (.vec .u8 (dhtRow gray) 5) := fun _ => rfl
    have m60 : (EM1 w h f caps tabs b (dhtRow gray))[6]? = some (.vec .u8 (dhtRow gray) 5) := rfl
    simp -implicitDefEqProofs only [vms, ↓reduceIte, Nat.reduceEqDiff, c11o]
    refine callK_seg hP 6 (dhtRow gray) 196 m60 (by omega) ?_
    simp -implicitDefEqProofs only [vms, ↓reduceIte, Nat.reduceEqDiff, callC, em1_len]
    refine app_of (xs := b) (T := 5) rfl rfl (.inl (by omega)) (elems_vec (xs := seg 196 (dhtRow gray)) rfl (seg_len _ _)) (by rw [seg_len]; omega) ?_
    rw [em1_er5 w h f caps hcap tabs b (dhtRow gray) (b ++ seg 196 (dhtRow gray)) _ _ rfl]
    have l5 : b.length + (seg 196 (dhtRow gray)).length = (b ++ seg 196 (dhtRow gray)).length := by simp
    rw [l5]
    generalize hB1 : b ++ seg 196 (dhtRow gray) = b1
    have hb1 : b1.length ≤ 110000 := by rw [← hB1, List.length_append, seg_len]; omega
    have el : ∀ x : Blk, [x].map (Blk.erase 5) = [x.erase 5] := fun _ => rfl
    have ev : ∀ xs : List Int, (Blk.vec .u8 xs 5).erase 5 = .vec .u8 xs 5 := fun _ => rfl
    have l17 : ∀ X : Blk, (EM1 w h f caps tabs b1 (dhtRow gray) ++ [X]).length = 17 := fun _ => rfl
    have l18 : ∀ X Y : Blk, (EM1 w h f caps tabs b1 (dhtRow gray) ++ [X] ++ [Y]).length = 18 := fun _ _ => rfl
    have v6 : vfill [(0, 1, .int .u8 1), (1, 1, .int .u8 1), (2, 1, .int .u8 0), (3, 1, .int .u8 0), (4, 1, .int .u8 63), (5, 1, .int .u8 0)] (.ints .u8 (List.replicate 6 0)) = some (.ints .u8 [1, 1, 0, 0, 63, 0]) := rfl
    have v10 : vfill [(0, 1, .int .u8 3), (1, 1, .int .u8 1), (2, 1, .int .u8 0), (3, 1, .int .u8 2), (4, 1, .int .u8 17), (5, 1, .int .u8 3), (6, 1, .int .u8 17), (7, 1, .int .u8 0), (8, 1, .int .u8 63), (9, 1, .int .u8 0)] (.ints .u8 (List.replicate 10 0)) = some (.ints .u8 [3, 1, 0, 2, 17, 3, 17, 0, 63, 0]) := rfl
    have fin : ∀ n5 : Nat, n5 = (b1 ++ seg 218 (sosRow gray)).length → VWp C 0 [] c11t [(2, .bool gray), (6, .ptr 0 0), (7, .ptr 1 0), (10, .ptr 2 0), (11, .ptr 3 0), (13, .ptr 4 0), (14, .vec 5 n5), (21, .ptr 7 0)]
        (EM1 w h f caps tabs (b1 ++ seg 218 (sosRow gray)) (dhtRow gray) ++ [.vec .u8 (seg 196 (dhtRow gray)) 5, .vec .u8 (sosRow gray) 5, .vec .u8 (seg 218 (sosRow gray)) 5]) Q := by
      intro n5 hn
      subst hn
      have := hQ (sosRow gray) (seg 196 (dhtRow gray)) (seg 218 (sosRow gray))
      rw [hB1] at this
      exact this
    cases gray with
    | true =>
      simp -implicitDefEqProofs only [vms, ↓reduceIte, Nat.reduceEqDiff, Nat.reduceAdd, Nat.reduceLeDiff, callC, Nat.reduceBEq, l17, v6]
      refine callK_seg hP 17 [1, 1, 0, 0, 63, 0] 218 rfl (by simp) ?_
      simp -implicitDefEqProofs only [vms, ↓reduceIte, Nat.reduceEqDiff, Nat.reduceAdd, callC, l18]
      refine app_of (xs := b1) (T := 5) rfl rfl (.inl (by omega)) (elems_vec (xs := seg 218 [1, 1, 0, 0, 63, 0]) rfl (seg_len _ _)) (by rw [seg_len]; simp; omega) ?_
      have e := em1_er5 w h f caps hcap tabs b1 (dhtRow true) (b1 ++ seg 218 [1, 1, 0, 0, 63, 0]) [.vec .u8 (seg 196 (dhtRow true)) 5, .vec .u8 [1, 1, 0, 0, 63, 0] 5, .vec .u8 (seg 218 [1, 1, 0, 0, 63, 0]) 5] _ rfl
      have e2 : ∀ X Y Z : Blk, EM1 w h f caps tabs b1 (dhtRow true) ++ [X] ++ [Y] ++ [Z] = EM1 w h f caps tabs b1 (dhtRow true) ++ [X, Y, Z] := fun _ _ _ => by simp
      rw [e2, e]
      simp -implicitDefEqProofs only [vms, ↓reduceIte, Nat.reduceEqDiff, callC, Nat.reduceBEq]
      exact fin _ (by simp [sosRow])
    | false =>
      simp -implicitDefEqProofs only [vms, ↓reduceIte, Nat.reduceEqDiff, Nat.reduceAdd, Nat.reduceLeDiff, callC, Nat.reduceBEq, l17, v10]
      refine callK_seg hP 17 [3, 1, 0, 2, 17, 3, 17, 0, 63, 0] 218 rfl (by simp) ?_
      simp -implicitDefEqProofs only [vms, ↓reduceIte, Nat.reduceEqDiff, Nat.reduceAdd, callC, l18]
      refine app_of (xs := b1) (T := 5) rfl rfl (.inl (by omega)) (elems_vec (xs := seg 218 [3, 1, 0, 2, 17, 3, 17, 0, 63, 0]) rfl (seg_len _ _)) (by rw [seg_len]; simp; omega) ?_
      have e := em1_er5 w h f caps hcap tabs b1 (dhtRow false) (b1 ++ seg 218 [3, 1, 0, 2, 17, 3, 17, 0, 63, 0]) [.vec .u8 (seg 196 (dhtRow false)) 5, .vec .u8 [3, 1, 0, 2, 17, 3, 17, 0, 63, 0] 5, .vec .u8 (seg 218 [3, 1, 0, 2, 17, 3, 17, 0, 63, 0]) 5] _ rfl
      have e2 : ∀ X Y Z : Blk, EM1 w h f caps tabs b1 (dhtRow false) ++ [X] ++ [Y] ++ [Z] = EM1 w h f caps tabs b1 (dhtRow false) ++ [X, Y, Z] := fun _ _ _ => by simp
      rw [e2, e]
      simp -implicitDefEqProofs only [vms, ↓reduceIte, Nat.reduceEqDiff, callC, Nat.reduceBEq]
      exact fin _ (by simp [sosRow])
  simp -implicitDefEqProofs only [vms, ↓reduceIte, Nat.reduceEqDiff, c11n, range_eqB, rr]
  apply VWp_loop_of (k := 5)
  refine VRounds_adj (adj_pick [0, 1, 2, 3, 4, 5, 20, 19, 11, 12, 13, 14, 15, 16, 17, 18] [(2, .bool gray), (6, .ptr 0 0), (7, .ptr 1 0), (10, .ptr 2 0), (11, .ptr 3 0), (13, .ptr 4 0), (14, .vec 5 b.length), (15, .vec 6 0), (21, .ptr 7 0), (106, arrV), (107, .int .i64 0), (113, .undef), (114, .undef)] (EM1 w h f caps tabs b []) rfl (by decide) ?_ rfl rfl hcl) ?_
  · simp only [EM1, List.map_cons, List.map_nil, cBg_ren, Blk.ren, V.renL, V.ren, hfr]
    rfl
  cases gray with
  | true =>
    refine dht_round C w h f caps tabs b hcap true 0 (by omega) rfl .undef .undef rfl rfl rfl rfl _ 4 [] (by simp) ?_
    intro u v hu hv hu2 hv2
    have d0 : (dhtOne 0).length ≤ 300 := by
      have h0 := tabS_len 0 (by omega)
      have t0 := (tab_len 0 (by omega)).1
      simp [dhtOne]; omega
    refine dht_round C w h f caps tabs b hcap true 1 (by omega) rfl u v hu hv hu2 hv2 _ 3 _ (by simp; omega) ?_
    intro u v hu hv hu2 hv2
    have e : [] ++ dhtOne 0 ++ dhtOne 1 = dhtRow true := by simp [dhtRow]
    rw [e]
    refine dht_exit C w h f caps 2 true 2 (.inl ⟨rfl, rfl⟩) tabs b (dhtRow true) u v _ ?_
    intro l
    simp -implicitDefEqProofs only [vms]
    exact main l
  | false =>
    have d4 : ∀ k, k < 4 → (dhtOne k).length ≤ 300 := by
      intro k hk
      have h0 := tabS_len k hk
      have t0 := (tab_len k hk).1
      simp [dhtOne]; omega
    have d0 := d4 0 (by omega)
    have d1 := d4 1 (by omega)
    have d2 := d4 2 (by omega)
    refine dht_round C w h f caps tabs b hcap false 0 (by omega) rfl .undef .undef rfl rfl rfl rfl _ 4 [] (by simp) ?_
    intro u v hu hv hu2 hv2
    refine dht_round C w h f caps tabs b hcap false 1 (by omega) rfl u v hu hv hu2 hv2 _ 3 _ (by simp; omega) ?_
    intro u v hu hv hu2 hv2
    refine dht_round C w h f caps tabs b hcap false 2 (by omega) rfl u v hu hv hu2 hv2 _ 2 _ (by simp; omega) ?_
    intro u v hu hv hu2 hv2
    refine dht_round C w h f caps tabs b hcap false 3 (by omega) rfl u v hu hv hu2 hv2 _ 1 _ (by simp; omega) ?_
    intro u v hu hv hu2 hv2
    have e : [] ++ dhtOne 0 ++ dhtOne 1 ++ dhtOne 2 ++ dhtOne 3 = dhtRow false := by simp [dhtRow]
    rw [e]
    refine dht_exit C w h f caps 0 false 4 (.inr rfl) tabs b (dhtRow false) u v _ ?_
    intro l
    simp -implicitDefEqProofs only [vms]
    exact main l
end
end Go.VM
end

section
set_option linter.unusedSimpArgs false
set_option maxRecDepth 10000
namespace Go.VM
open Go Go.Proofs Go.Bits

/-! The reference's Encoded, whole. -/

def padN (p : List Bool) : Nat := if p.length = 0 then 0 else 8 - p.length
def scanBytes (w h : Nat) (gray : Bool) (tabs : List Int) (px : Nat → Nat → Nat → Int) : List Int :=
  (feed (scan tabs px w h gray (([], []), [0, 0, 0])).1 (List.replicate (padN (scan tabs px w h gray (([], []), [0, 0, 0])).1.1) true)).2
def specBytes (w h : Nat) (gray : Bool) (q : Int) (px : Nat → Nat → Nat → Int) : List Int :=
  hdB w h gray q ++ scanBytes w h gray (scaledL false q ++ scaledL true q) px ++ [255, 217]

theorem retGo_pick {v : V} {M : Mem} {R : V → Mem → Prop} (idx : List Nat) (v' : V) (M' : Mem) (hl : idx.length = M'.length) (hnd : idx.Nodup) (hM : idx.map (M[·]?) = M'.map (fun b => some (b.ren (idxσ idx)))) (hv : v = v'.ren (idxσ idx))
    (hcv : clB M'.length v'.refs = true) (hcM : memCl M'.length M' = true) (h : R v' M') : retGo 0 (some v) M R := by
  refine ⟨v', M', .ren v' M' (idxσ idx) (by simp) (by simp) (fun i j hi hj he => ?_) (fun j b hb => ?_) hv (clB_iff hcv) (fun j b hb => clB_iff (List.all_eq_true.1 hcM b (List.mem_of_getElem? hb))), h⟩
  · have hi' : i < idx.length := by omega
    have hj' : j < idx.length := by omega
    unfold idxσ at he
    rw [List.getD_eq_getElem?_getD, List.getD_eq_getElem?_getD, List.getElem?_eq_getElem hi', List.getElem?_eq_getElem hj'] at he
    exact (List.getElem_inj hnd).1 he
  · have hj : j < idx.length := by rw [hl]; exact (List.getElem?_eq_some_iff.1 hb).1
    have h1 := congrArg (·[j]?) hM
    simp only [List.getElem?_map, List.getElem?_eq_getElem hj, hb, Option.map_some, Option.some.injEq] at h1
    unfold idxσ
    rw [List.getD_eq_getElem?_getD, List.getElem?_eq_getElem hj]
    exact h1

theorem eraseB_cl {n b : Nat} (hb : n ≤ b) {v : V} (h : ∀ r ∈ v.refs, r < n) : V.eraseB b v = v := by
  unfold V.eraseB
  rw [if_neg]
  intro hc
  have := h b (by simpa using hc)
  omega
theorem erase_cl {n b : Nat} (hb : n ≤ b) {M : Mem} (h : memCl n M = true) : M.erase b = M := by
  unfold Mem.erase
  conv => rhs; rw [← List.map_id M]
  refine List.map_congr_left fun B hB => ?_
  have hB' := List.all_eq_true.1 h B hB
  cases B with
  | own cs T =>
    simp only [Blk.erase, id]
    congr 1
    conv => rhs; rw [← List.map_id cs]
    refine List.map_congr_left fun v hv => eraseB_cl hb fun r hr => ?_
    exact clB_iff hB' r (V.mem_refsL.2 ⟨v, hv, hr⟩)
  | ints k xs T => rfl
  | vec k xs T => rfl

theorem hdB_len (w h : Nat) (gray : Bool) (q : Int) : (hdB w h gray q).length ≤ 2000 := by
  have h1 := dhtRow_len gray
  have s0 := scaledL_len false q
  have s1 := scaledL_len true q
  have h3 : (sosRow gray).length ≤ 10 := by cases gray <;> simp [sosRow]
  have h4 : ∀ n, (sof w h n).length ≤ 15 := by intro n; unfold sof; split <;> simp
  have h5 : (dqtRow (scaledL false q) (scaledL true q)).length = 130 := by simp [dqtRow, s0, s1]
  have h6 := h4 (if gray then 1 else 3)
  simp only [hdB, hdA, List.length_append, seg_len, List.length_cons, List.length_nil]
  omega

section
variable (C : Ctx) (px : Nat → Nat → Nat → Int) (w h f : Nat) (caps : List V) (tabs b : List Int)

def RO (w h f : Nat) (caps : List V) (b tabs last : List Int) : Mem := spT ++ RB tabs last ++ SR w h f caps b
theorem sm_asc (st : ScS) : SM w h f caps b tabs st = outMem st.1.1 st.1.2 ++ RO w h f caps b tabs st.2 := by simp [SM, MB, RO]
theorem ro_noRef (hcap : V.refsL caps = []) (last : List Int) : noRef 1 (RO w h f caps b tabs last) = true := by
  simp only [RO, noRef_append, spT_noRef, sr_noRef w h f caps b hcap]
  rfl
theorem ro_cl (hcap : V.refsL caps = []) (p : List Bool) (out last : List Int) : memCl 20 (outMem p out ++ RO w h f caps b tabs last) = true := by
  have hcl := fn_cl f caps hcap
  simp only [memCl, RO, SR, outMem, spT, RB, List.cons_append, List.nil_append, List.all_cons, List.all_nil, cB_refs, hcl]
  rfl

/-- behind the scan -/
theorem enc_end (hP : C.P = Tryd.prog) (hcap : V.refsL caps = []) (hb : b.length ≤ 2000) (st : ScS) (n : Nat) (hi : Inv st n) (hn : n ≤ 900) (e : Env) (h14 : e.get 14 = .vec 20 b.length) (h27 : e.get 27 = .ptr 2 0) (R : V → Mem → Prop)
    (hR : R (.vec 0 (b ++ (feed st.1 (List.replicate (padN st.1.1) true)).2 ++ [255, 217]).length) [.vec .u8 (b ++ (feed st.1 (List.replicate (padN st.1.1) true)).2 ++ [255, 217]) 5]) :
    VWp C 0 [] c11z e (SM w h f caps b tabs st) (fnPost 0 [.tmp 12] R) := by
  rw [sm_asc]
  have m2 : ∀ p out last, (outMem p out ++ RO w h f caps b tabs last)[2]? = some (.own [.ptr 0 0] 72) := fun _ _ _ => rfl
  have m0 : ∀ p out last, (outMem p out ++ RO w h f caps b tabs last)[0]? = some (.own [.vec 1 out.length, .int .u32 (val p), .int .i64 p.length] 74) := fun _ _ _ => rfl
  have ho := hi.out
  simp -implicitDefEqProofs only [vms, ↓reduceIte, c11z, h27, m2]
  refine callK_pre (RO w h f caps b tabs st.2) (fill_spec C hP st.1.1 st.1.2 hi.p (by omega)) rfl rfl outMem_cl outMem_cl rfl rfl (by simp) rfl (ro_noRef w h f caps tabs b hcap _) ?_
  have hpad : (if st.1.1.length = 0 then 0 else 8 - st.1.1.length) = padN st.1.1 := rfl
  rw [hpad]
  have hpl : padN st.1.1 ≤ 8 := by unfold padN; split <;> omega
  have hfl := feed_len (List.replicate (padN st.1.1) true) st.1
  rw [List.length_replicate] at hfl
  have he : feed (st.1.1, st.1.2) (List.replicate (padN st.1.1) true) = feed st.1 (List.replicate (padN st.1.1) true) := rfl
  rw [he]
  generalize (feed st.1 (List.replicate (padN st.1.1) true)).2 = o at hfl hR ⊢
  have k14 : (e.erases [1]).get 14 = .vec 20 b.length := by rw [get_erases_eq, h14]; rfl
  have k27 : (e.erases [1]).get 27 = .ptr 2 0 := by rw [get_erases_eq, h27]; rfl
  have m20 : (outMem [] o ++ RO w h f caps b tabs st.2)[20]? = some (.vec .u8 b 5) := rfl
  have hset : ∀ b' : List Int, (outMem [] o ++ RO w h f caps b tabs st.2).set 20 (.vec .u8 b' 5) = outMem [] o ++ RO w h f caps b' tabs st.2 := fun _ => rfl
  have l21 : ∀ b' : List Int, (outMem [] o ++ RO w h f caps b' tabs st.2).length = 21 := fun _ => rfl
  simp -implicitDefEqProofs only [vms, ↓reduceIte, Nat.reduceEqDiff, callC, Nat.reduceBEq, natCast_lit, k14, k27, m2, m0]
  refine app_of (xs := b) m20 rfl (.inl (by omega)) (elems_vec (xs := o) rfl rfl) (by omega) ?_
  rw [erase_cl (Nat.le_refl 20) (ro_cl w h f caps tabs b hcap [] o st.2), hset]
  have v2 : vfill [(0, 1, .int .u8 255), (1, 1, .int .u8 217)] (.ints .u8 [0, 0]) = some (.ints .u8 [255, 217]) := rfl
  simp -implicitDefEqProofs only [vms, ↓reduceIte, Nat.reduceEqDiff, Nat.reduceAdd, Nat.reduceLeDiff, callC, Nat.reduceBEq, v2, l21]
  refine app_of (xs := b ++ o) (T := 5) rfl (by simp) (.inl (by omega)) (elems_vec (xs := [255, 217]) rfl rfl) (by simp; omega) ?_
  have hcl2 : memCl 20 (outMem [] o ++ RO w h f caps (b ++ o) tabs st.2 ++ [Blk.vec .u8 [255, 217] 5]) = true := by
    have := ro_cl w h f caps tabs (b ++ o) hcap [] o st.2
    simp only [memCl, List.all_append, List.all_cons, List.all_nil] at this ⊢
    rw [this]; rfl
  rw [erase_cl (Nat.le_refl 20) hcl2]
  simp -implicitDefEqProofs only [vms, ↓reduceIte, Nat.reduceEqDiff, Nat.reduceAdd, callC, Nat.reduceBEq, knownGo]
  simp only [V.known, if_true]
  refine retGo_pick [20] (.vec 0 (b ++ o ++ [255, 217]).length) [.vec .u8 (b ++ o ++ [255, 217]) 5] rfl (by simp) rfl ?_ rfl rfl hR
  simp [V.ren, idxσ]
  omega

theorem inv0 : Inv (([], []), [0, 0, 0]) 0 := by
  refine ⟨by simp, by simp, rfl, fun i hi => ?_⟩
  have : i = 0 ∨ i = 1 ∨ i = 2 := by omega
  rcases this with rfl | rfl | rfl <;> exact ⟨by decide, by decide⟩

theorem grayY_inv (hat : AtOk C px w h f caps) (ht : TabOk tabs) : ∀ (d y : Nat) (st : ScS) (n : Nat), Inv st n → Inv (grayY tabs px w h d y st) (n + 5 * d)
  | 0, _, _, _, hi => hi
  | d + 1, y, st, n, hi => by
    simp only [grayY]
    split
    · have := grayY_inv hat ht d (y + 8) _ _ (grayX_inv C px w h f caps tabs hat ht y 5 0 st n hi)
      rwa [show n + 5 + 5 * d = n + 5 * (d + 1) by omega] at this
    · exact ⟨hi.p, by have := hi.out; omega, hi.l3, hi.l⟩
theorem colY_inv (hat : AtOk C px w h f caps) (ht : TabOk tabs) : ∀ (d y : Nat) (st : ScS) (n : Nat), Inv st n → Inv (colY tabs px w h d y st) (n + 18 * d)
  | 0, _, _, _, hi => hi
  | d + 1, y, st, n, hi => by
    simp only [colY]
    split
    · have := colY_inv hat ht d (y + 16) _ _ (colX_inv C px w h f caps tabs hat ht y 3 0 st n hi)
      rwa [show n + 18 + 18 * d = n + 18 * (d + 1) by omega] at this
    · exact ⟨hi.p, by have := hi.out; omega, hi.l3, hi.l⟩

def E27 (gray : Bool) (n : Nat) (s : Int) : Env := [(2, .bool gray), (6, .ptr 0 0), (7, .ptr 1 0), (14, .vec 5 n), (27, .ptr 20 0), (31, .fn 25 [.ptr 3 0, .ptr 4 0, .ptr 21 0, .ptr 23 0, .ptr 22 0]), (32, .fn 29 [.ptr 2 0, .ptr 0 0, .ptr 1 0]), (33, .int .i64 s)]
def M24 (w h f : Nat) (caps : List V) (tabs b row s16 r17 s18 : List Int) : Mem :=
  EM1 w h f caps tabs b row ++ [.vec .u8 s16 5, .vec .u8 r17 5, .vec .u8 s18 5, .own [.nils, .int .u32 0, .int .i64 0] 74, .own [.ptr 19 0] 72, .ints .i64 [0, 0, 0] 75, .ints .i64 zzL 60, .own [.fn 23 [.ptr 20 0, .ptr 7 0]] 78]

theorem enc_C1 (hP : C.P = Tryd.prog) (hcap : V.refsL caps = []) (gray : Bool) (n : Nat) (row s16 r17 s18 : List Int) (Q : VX → Env → Mem → Prop)
    (hQ : VWp C 0 [] c11y (E27 gray n (if gray then 8 else 16)) (M24 w h f caps tabs b row s16 r17 s18) Q) :
    VWp C 0 [] c11t [(2, .bool gray), (6, .ptr 0 0), (7, .ptr 1 0), (10, .ptr 2 0), (11, .ptr 3 0), (13, .ptr 4 0), (14, .vec 5 n), (21, .ptr 7 0)]
      (EM1 w h f caps tabs b row ++ [.vec .u8 s16 5, .vec .u8 r17 5, .vec .u8 s18 5]) Q := by
  have vb : vbox 74 (.agg [.nils, .int .u32 0, .int .i64 0]) = some (.own [.nils, .int .u32 0, .int .i64 0] 74) := rfl
  have mk : ∀ (e : Env) (M : Mem) (g : Nat) (xs : List X), ((xs.map (X.ev e)).all V.known) = true → vop C e M (.mkfn g xs) = some (.fn g (xs.map (X.ev e)), M) := fun e M g xs h => vop_mkfn h
  have kp : ∀ b o : Nat, V.known (.ptr b o) = true := fun _ _ => rfl
  have hz : zzL.length = 64 := rfl
  have r3 : ([0, 0, 0] : List Int).length = 3 := rfl
  cases gray with
  | true =>
    simp -implicitDefEqProofs only [vms, ↓reduceIte, Nat.reduceEqDiff, Nat.reduceAdd, c11t, EM1, vb, stGo_putP, putP_ints, r3]
    refine callK_new (zz_spec C hP) rfl rfl (.ints .i64 zzL) [] rfl rfl ?_
    simp -implicitDefEqProofs only [vms, ↓reduceIte, Nat.reduceEqDiff, Nat.reduceAdd, callC, List.append_nil, stGo_putP, putP_ints, hz, rep_len64, mk, List.all_cons, List.all_nil, kp, Bool.and_self, stGo_fn]
    exact hQ
  | false =>
    simp -implicitDefEqProofs only [vms, ↓reduceIte, Nat.reduceEqDiff, Nat.reduceAdd, c11t, EM1, vb, stGo_putP, putP_ints, r3]
    refine callK_new (zz_spec C hP) rfl rfl (.ints .i64 zzL) [] rfl rfl ?_
    simp -implicitDefEqProofs only [vms, ↓reduceIte, Nat.reduceEqDiff, Nat.reduceAdd, callC, List.append_nil, stGo_putP, putP_ints, hz, rep_len64, mk, List.all_cons, List.all_nil, kp, Bool.and_self, stGo_fn]
    exact hQ

theorem enc_C2 (hP : C.P = Tryd.prog) (hcap : V.refsL caps = []) (hat : AtOk C px w h f caps) (hw : 0 < w ∧ w ≤ 40) (hh : 0 < h ∧ h ≤ 40) (ht : TabOk tabs) (hb : b.length ≤ 2000) (gray : Bool) (row s16 r17 s18 : List Int) (R : V → Mem → Prop)
    (hR : R (.vec 0 (b ++ scanBytes w h gray tabs px ++ [255, 217]).length) [.vec .u8 (b ++ scanBytes w h gray tabs px ++ [255, 217]) 5]) :
    VWp C 0 [] c11y (E27 gray b.length (if gray then 8 else 16)) (M24 w h f caps tabs b row s16 r17 s18) (fnPost 0 [.tmp 12] R) := by
  have hfr := fun σ => fn_ren (f := f) hcap σ
  have adj : ∀ s : Int, Adj 0 [(2, .bool gray), (6, .ptr 0 0), (7, .ptr 1 0), (14, .vec 5 b.length), (27, .ptr 20 0), (31, .fn 25 [.ptr 3 0, .ptr 4 0, .ptr 21 0, .ptr 23 0, .ptr 22 0]), (32, .fn 29 [.ptr 2 0, .ptr 0 0, .ptr 1 0]), (33, .int .i64 s), (34, .int .i64 0)] (M24 w h f caps tabs b row s16 r17 s18)
      [(2, .bool gray), (6, .ptr 17 0), (7, .ptr 18 0), (14, .vec 20 b.length), (27, .ptr 2 0), (31, .fn 25 [.ptr 16 0, .ptr 12 0, .ptr 13 0, .ptr 14 0, .ptr 15 0]), (32, .fn 29 [.ptr 19 0, .ptr 17 0, .ptr 18 0]), (33, .int .i64 s), (34, .int .i64 0)] (SM w h f caps b tabs (([], []), [0, 0, 0])) := by
    intro s
    refine Adj.trans (.ghost _ _ 19 0 [.nils, .int .u32 0, .int .i64 0] 74 5 .u8 rfl rfl) ?_
    refine adj_pick [19, 24, 20, 7, 8, 9, 10, 11, 12, 13, 14, 15, 4, 21, 23, 22, 3, 0, 1, 2, 5] _ _ rfl (by decide) ?_ rfl rfl (sm_cl w h f caps b tabs hcap _)
    simp only [SM, SR, MB, outMem, spT, RB, List.cons_append, List.nil_append, List.map_cons, List.map_nil, cBg_eq, cBg_ren, Blk.ren, V.renL, V.ren, hfr]
    rfl
  cases gray with
  | true =>
    have hi := grayY_inv C px w h f caps tabs hat ht 5 0 _ _ inv0
    simp -implicitDefEqProofs only [vms, ↓reduceIte, Nat.reduceEqDiff, c11y, E27]
    apply VWp_loop_of (k := 6)
    refine VRounds_adj (adj 8) ?_
    refine gray_y C px w h f caps b tabs hP hcap hat hw hh ht _ 5 0 (([], []), [0, 0, 0]) 0 (by omega) (by omega) inv0 (by omega) (by omega) ?_
    intro y' e179
    simp -implicitDefEqProofs only [vms]
    refine enc_end C w h f caps tabs b hP hcap hb (grayY tabs px w h 5 0 (([], []), [0, 0, 0])) _ hi (by omega) _ ?_ ?_ R hR <;> simp -implicitDefEqProofs only [vms, ↓reduceIte, Nat.reduceEqDiff]
  | false =>
    have hi := colY_inv C px w h f caps tabs hat ht 3 0 _ _ inv0
    simp -implicitDefEqProofs only [vms, ↓reduceIte, Nat.reduceEqDiff, c11y, E27]
    apply VWp_loop_of (k := 4)
    refine VRounds_adj (adj 16) ?_
    refine col_y C px w h f caps b tabs hP hcap hat hw hh ht _ 3 0 (([], []), [0, 0, 0]) 0 (by omega) (by omega) inv0 (by omega) ?_
    intro y' e179
    simp -implicitDefEqProofs only [vms]
    refine enc_end C w h f caps tabs b hP hcap hb (colY tabs px w h 3 0 (([], []), [0, 0, 0])) _ hi (by omega) _ ?_ ?_ R hR <;> simp -implicitDefEqProofs only [vms, ↓reduceIte, Nat.reduceEqDiff]

theorem tabs_ok (q : Int) : TabOk (scaledL false q ++ scaledL true q) := by
  refine ⟨by simp [scaledL_len], fun i hi => ?_⟩
  by_cases h : i < 64
  · have : gI (scaledL false q ++ scaledL true q) i = gI (scaledL false q) i := by
      unfold gI
      rw [List.getD_eq_getElem?_getD, List.getD_eq_getElem?_getD, List.getElem?_append_left (by rw [scaledL_len]; exact h)]
    rw [this]
    exact scaledL_le _ _ _ h
  · have : gI (scaledL false q ++ scaledL true q) i = gI (scaledL true q) (i - 64) := by
      unfold gI
      rw [List.getD_eq_getElem?_getD, List.getD_eq_getElem?_getD, List.getElem?_append_right (by rw [scaledL_len]; omega), scaledL_len]
    rw [this]
    exact scaledL_le _ _ _ (by omega)

/-- the reference's file of a picture -/
theorem encoded_spec (hP : C.P = Tryd.prog) (hcap : V.refsL caps = []) (hat : AtOk C px w h f caps) (hw : 0 < w ∧ w ≤ 40) (hh : 0 < h ∧ h ≤ 40) (gray : Bool) (q : Int) (hq : 1 ≤ q ∧ q ≤ 100) :
    VCalls C 11 [.int .i64 w, .int .i64 h, .bool gray, .int .i64 q, .fn f caps, .fn 13 []] [] [] (fun v M' => v = .vec 0 (specBytes w h gray q px).length ∧ M' = [.vec .u8 (specBytes w h gray q px) 5]) := by
  have hbl := hdB_len w h gray q
  have hal : (hdA w h gray q).length ≤ 100000 := by
    have : (hdA w h gray q).length ≤ (hdB w h gray q).length := by simp only [hdB, List.length_append]; omega
    omega
  refine enc_A C w h f caps hP hcap hat.known hw hh gray q hq _ ?_
  intro g6 g7 g8 g9 g10
  refine enc_B1 C w h f caps hP hcap gray _ (hdA w h gray q) g6 g7 g8 g9 g10 _ ?_
  refine enc_B2 C w h f caps hP hcap gray _ (hdA w h gray q) hal g6 g7 g8 g9 g10 _ ?_
  intro r17 s16 s18
  refine enc_C1 C w h f caps _ _ hP hcap gray _ _ s16 r17 s18 _ ?_
  exact enc_C2 C px w h f caps _ (hdB w h gray q) hP hcap hat hw hh (tabs_ok q) hbl gray _ s16 r17 s18 _ ⟨rfl, rfl⟩
end
end Go.VM
end
