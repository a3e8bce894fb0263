/-
  A part of a machine over the model and of a walk by it, proved right against the model; proved outright, under no condition but what each theorem names.
-/
import Derived.Test.YtahmhofnilgfgaaDoorETtoFG
import Derived.Test.YtahmhofnilgfgaaDoorFFtoFJ
import Derived.Test.YtahmhofnilgfgaaDoorGItoFD0
import Derived.Test.YtahmhofnilgfgaaDoorFVtoFX
import Derived.Test.YtahmhofnilgfgaaDoorFPtoFS
set_option linter.unusedVariables false
set_option linter.unusedSimpArgs false
section
set_option linter.unusedSimpArgs false
set_option maxRecDepth 10000
namespace Go.VM
open Go Go.Proofs Go.Bits

/-! The tables of codes are written. -/
def hsP0 (p : Nat) : List V := intVs .u8 hsC0 ++ [.vec p 12]
def hsP1 (p : Nat) : List V := intVs .u8 hsC1 ++ [.vec p 162]
def hsP2 (p : Nat) : List V := intVs .u8 hsC2 ++ [.vec p 12]
def hsP3 (p : Nat) : List V := intVs .u8 hsC3 ++ [.vec p 162]
theorem hs_range0 {a b c d T : Nat} : rangeB (some (.own (hsVal a b c d) T)) 0 17 = some (.agg (hsP0 a)) := rfl
theorem hsP0_one {p : Nat} : ((hsP0 p).all V.one) = true := rfl
theorem hsP0_len {p : Nat} : (hsP0 p).length = 17 := rfl
theorem hsP0_16 {p : Nat} : (hsP0 p)[16]? = some (.vec p 12) := rfl
theorem hsC0_l : hsC0.length = 16 := rfl
theorem hsL0_l : hsL0.length = 12 := rfl
theorem hsL0_len : lenB (some (.vec .u8 hsL0 5)) 12 = some (.int .i64 12) := rfl
theorem hs_range1 {a b c d T : Nat} : rangeB (some (.own (hsVal a b c d) T)) 17 17 = some (.agg (hsP1 b)) := rfl
theorem hsP1_one {p : Nat} : ((hsP1 p).all V.one) = true := rfl
theorem hsP1_len {p : Nat} : (hsP1 p).length = 17 := rfl
theorem hsP1_16 {p : Nat} : (hsP1 p)[16]? = some (.vec p 162) := rfl
theorem hsC1_l : hsC1.length = 16 := rfl
theorem hsL1_l : hsL1.length = 162 := rfl
theorem hsL1_len : lenB (some (.vec .u8 hsL1 5)) 162 = some (.int .i64 162) := rfl
theorem hs_range2 {a b c d T : Nat} : rangeB (some (.own (hsVal a b c d) T)) 34 17 = some (.agg (hsP2 c)) := rfl
theorem hsP2_one {p : Nat} : ((hsP2 p).all V.one) = true := rfl
theorem hsP2_len {p : Nat} : (hsP2 p).length = 17 := rfl
theorem hsP2_16 {p : Nat} : (hsP2 p)[16]? = some (.vec p 12) := rfl
theorem hsC2_l : hsC2.length = 16 := rfl
theorem hsL2_l : hsL2.length = 12 := rfl
theorem hsL2_len : lenB (some (.vec .u8 hsL2 5)) 12 = some (.int .i64 12) := rfl
theorem hs_range3 {a b c d T : Nat} : rangeB (some (.own (hsVal a b c d) T)) 51 17 = some (.agg (hsP3 d)) := rfl
theorem hsP3_one {p : Nat} : ((hsP3 p).all V.one) = true := rfl
theorem hsP3_len {p : Nat} : (hsP3 p).length = 17 := rfl
theorem hsP3_16 {p : Nat} : (hsP3 p)[16]? = some (.vec p 162) := rfl
theorem hsC3_l : hsC3.length = 16 := rfl
theorem hsL3_l : hsL3.length = 162 := rfl
theorem hsL3_len : lenB (some (.vec .u8 hsL3 5)) 162 = some (.int .i64 162) := rfl
def dht1 : List Int := [255, 196, 0, 210] ++ (0 :: (hsC0 ++ hsL0)) ++ (16 :: (hsC1 ++ hsL1))
def dht3 : List Int := [255, 196, 1, 162] ++ (0 :: (hsC0 ++ hsL0)) ++ (16 :: (hsC1 ++ hsL1)) ++ (1 :: (hsC2 ++ hsL2)) ++ (17 :: (hsC3 ++ hsL3))

set_option maxHeartbeats 2000000 in
theorem dht_spec1 (C : Ctx) (hP : C.P = Tryd.prog) (K : EncK) (buf : List Int) (hb : buf.length = 16) (bits nb : Int) (bytes : List Int) (ho : bytes.length ≤ 14000000) :
    VCalls C 46 [.ptr 0 0, .int .i64 1] (encM K buf bits nb bytes) [2] (fun v M' => v = .tup [] ∧ M' = encM K (bufMH buf 196 210) bits nb (bytes ++ dht1)) := by
  refine VCalls.of_fn (hs := kz c46) (F := F46) (by rw [hP]; exact is46) (by simp [F46]) ?_
  have hbl : (bufMH buf 196 210).length = 16 := by simp [bufMH, hb]
  have hv1 : ((hsVal 7 8 9 10).all V.one) = true := rfl
  have hv2 : (hsVal 7 8 9 10).length = 68 := rfl
  have hs0 : vslice 4 17 none none none (.ptr 11 0) = some (.slice 11 0 4 4) := rfl
  have hs1 : vsliceS 17 none (some (.int .i64 2)) none (.slice 11 0 4 4) = some (.slice 11 0 2 4) := rfl
  have hs2 : vslice 16 1 none none none (.ptr 12 0) = some (.slice 12 0 16 16) := rfl
  have ix0 : ∀ M, vidxS M 17 (.slice 11 0 2 4) (.int .i64 0) = some (.ptr 11 0) := fun _ => rfl
  have st0 : vidxStr (.str ⟨#[0, 16, 1, 17]⟩) (.int .i64 0) = some (.int .u8 0) := rfl
  have ix1 : ∀ M, vidxS M 17 (.slice 11 0 2 4) (.int .i64 1) = some (.ptr 11 17) := fun _ => rfl
  have st1 : vidxStr (.str ⟨#[0, 16, 1, 17]⟩) (.int .i64 1) = some (.int .u8 16) := rfl
  have hal : ∀ x : V, ([V.int .u8 0, .int .u8 0, .int .u8 0, .int .u8 0, .int .u8 0, .int .u8 0, .int .u8 0, .int .u8 0, .int .u8 0, .int .u8 0, .int .u8 0, .int .u8 0, .int .u8 0, .int .u8 0, .int .u8 0, .int .u8 0, x]).length = 17 := fun _ => rfl
  simp -implicitDefEqProofs only [vms, ↓reduceIte, Nat.reduceEqDiff, Nat.reduceAdd, reduceCtorEq, F46, c46, encM]
  refine callK_new (hs_spec C hP) rfl rfl (.agg (hsVal 7 8 9 10)) [.vec .u8 hsL0 5, .vec .u8 hsL1 5, .vec .u8 hsL2 5, .vec .u8 hsL3 5] rfl rfl ?_
  simp -implicitDefEqProofs only [vms, ↓reduceIte, Nat.reduceEqDiff, Nat.reduceAdd, reduceCtorEq, callC, natCast_lit, stGo_putA, putA_own, hv1, hv2, hs0, hs1]
  apply VWp_loop_of (k := 3)
  refine round_gen fun K1 hK1 => ?_
  simp -implicitDefEqProofs only [vms, ↓reduceIte, Nat.reduceEqDiff, Nat.reduceAdd, reduceCtorEq, Int.reduceLE, Int.reduceAdd, Int.reduceNeg, wl64, Int.reduceLT, c46l0, ix0, range_eqB, hs_range0, stGo_putA, putA_own, hsP0_one, hsP0_len, hsP0_16, hsL0_len, hal]
  rw [hK1, roundK_normal]
  refine round_gen fun K1 hK1 => ?_
  simp -implicitDefEqProofs only [vms, ↓reduceIte, Nat.reduceEqDiff, Nat.reduceAdd, reduceCtorEq, Int.reduceLE, Int.reduceAdd, Int.reduceNeg, wl64, Int.reduceLT, c46l0, ix1, range_eqB, hs_range1, stGo_putA, putA_own, hsP1_one, hsP1_len, hsP1_16, hsL1_len, hal]
  rw [hK1, roundK_normal]
  refine round_gen fun K1 hK1 => ?_
  simp -implicitDefEqProofs only [vms, ↓reduceIte, Nat.reduceEqDiff, reduceCtorEq, Int.reduceLT, c46l0]
  rw [hK1]
  simp -implicitDefEqProofs only [vms, ↓reduceIte, Nat.reduceEqDiff, reduceCtorEq]
  refine callK_pre [.vec .u8 hsL0 5, .vec .u8 hsL1 5, .vec .u8 hsL2 5, .vec .u8 hsL3 5, .own (hsVal 7 8 9 10) 136, .own (hsP0 7) 135, .own (hsP1 8) 135] (wmh_spec C hP K buf hb bits nb bytes 196 210 (by omega) (by omega)) rfl rfl encM_cl encM_cl rfl rfl (by simp) rfl rfl ?_
  simp -implicitDefEqProofs only [vms, ↓reduceIte, Nat.reduceEqDiff, reduceCtorEq, callC, Nat.reduceBEq, natCast_lit, Int.reduceDiv, Int.reduceMod, encM]
  apply VWp_loop_of (k := 3)
  refine round_gen fun K1 hK1 => ?_
  simp -implicitDefEqProofs only [vms, ↓reduceIte, Nat.reduceEqDiff, Nat.reduceAdd, reduceCtorEq, Int.reduceLT, c46l1, ix0, range_eqB, hs_range0, stGo_putA, putA_own, hsP0_one, hsP0_len, hal, st0]
  refine callK_pre [.vec .u8 hsL0 5, .vec .u8 hsL1 5, .vec .u8 hsL2 5, .vec .u8 hsL3 5, .own (hsVal 7 8 9 10) 136, .own (hsP0 7) 135, .own (hsP1 8) 135, .own (hsP0 7) 135] (writeByte_spec C hP K _ hbl bits nb (bytes ++ [255, 196, 0, 210]) 0 (by simp only [List.length_append, List.length_cons, List.length_nil, hsC0_l, hsC1_l, hsC2_l, hsC3_l, hsL0_l, hsL1_l, hsL2_l, hsL3_l]; omega)) rfl rfl encM_cl encM_cl rfl rfl (by simp) rfl rfl ?_
  have hsl : vslice 16 1 none none none (.ptr 14 0) = some (.slice 14 0 16 16) := rfl
  simp -implicitDefEqProofs only [vms, ↓reduceIte, Nat.reduceEqDiff, reduceCtorEq, callC, Nat.reduceBEq, encM, hsl]
  refine callK_of [2] rfl (by simp) (write_any C hP K _ hbl bits nb ((bytes ++ [255, 196, 0, 210]) ++ [0]) [.vec .u8 hsL0 5, .vec .u8 hsL1 5, .vec .u8 hsL2 5, .vec .u8 hsL3 5, .own (hsVal 7 8 9 10) 136, .own (hsP0 7) 135, .own (hsP1 8) 135, .own (hsP0 7) 135] rfl (.slice 14 0 16 16) hsC0 rfl (fun _ _ => rfl) rfl rfl (by simp only [List.length_append, List.length_cons, List.length_nil, hsC0_l, hsC1_l, hsC2_l, hsC3_l, hsL0_l, hsL1_l, hsL2_l, hsL3_l]; omega)) ?_
  rintro _ _ ⟨rfl, rfl⟩
  simp -implicitDefEqProofs only [vms, ↓reduceIte, Nat.reduceEqDiff, reduceCtorEq, callC, Nat.reduceBEq, encM, hsP0_16]
  refine callK_of [2] rfl (by simp) (write_any C hP K _ hbl bits nb (((bytes ++ [255, 196, 0, 210]) ++ [0]) ++ hsC0) [.vec .u8 hsL0 5, .vec .u8 hsL1 5, .vec .u8 hsL2 5, .vec .u8 hsL3 5, .own (hsVal 7 8 9 10) 136, .own (hsP0 7) 135, .own (hsP1 8) 135, .own (hsP0 7) 135] rfl (.vec 7 12) hsL0 rfl (fun M h => by simp only [vlen, h 7 (by omega)]; rfl) rfl rfl (by simp only [List.length_append, List.length_cons, List.length_nil, hsC0_l, hsC1_l, hsC2_l, hsC3_l, hsL0_l, hsL1_l, hsL2_l, hsL3_l]; omega)) ?_
  rintro _ _ ⟨rfl, rfl⟩
  simp -implicitDefEqProofs only [vms, ↓reduceIte, Nat.reduceEqDiff, reduceCtorEq, Int.reduceLE, Int.reduceAdd, Int.reduceNeg, callC, Nat.reduceBEq, wl64, encM]
  rw [hK1, roundK_normal]
  refine round_gen fun K1 hK1 => ?_
  simp -implicitDefEqProofs only [vms, ↓reduceIte, Nat.reduceEqDiff, Nat.reduceAdd, reduceCtorEq, Int.reduceLT, c46l1, ix1, range_eqB, hs_range1, stGo_putA, putA_own, hsP1_one, hsP1_len, hal, st1]
  refine callK_pre [.vec .u8 hsL0 5, .vec .u8 hsL1 5, .vec .u8 hsL2 5, .vec .u8 hsL3 5, .own (hsVal 7 8 9 10) 136, .own (hsP0 7) 135, .own (hsP1 8) 135, .own (hsP0 7) 135, .own (hsP1 8) 135] (writeByte_spec C hP K _ hbl bits nb ((((bytes ++ [255, 196, 0, 210]) ++ [0]) ++ hsC0) ++ hsL0) 16 (by simp only [List.length_append, List.length_cons, List.length_nil, hsC0_l, hsC1_l, hsC2_l, hsC3_l, hsL0_l, hsL1_l, hsL2_l, hsL3_l]; omega)) rfl rfl encM_cl encM_cl rfl rfl (by simp) rfl rfl ?_
  have hsl : vslice 16 1 none none none (.ptr 15 0) = some (.slice 15 0 16 16) := rfl
  simp -implicitDefEqProofs only [vms, ↓reduceIte, Nat.reduceEqDiff, reduceCtorEq, callC, Nat.reduceBEq, encM, hsl]
  refine callK_of [2] rfl (by simp) (write_any C hP K _ hbl bits nb (((((bytes ++ [255, 196, 0, 210]) ++ [0]) ++ hsC0) ++ hsL0) ++ [16]) [.vec .u8 hsL0 5, .vec .u8 hsL1 5, .vec .u8 hsL2 5, .vec .u8 hsL3 5, .own (hsVal 7 8 9 10) 136, .own (hsP0 7) 135, .own (hsP1 8) 135, .own (hsP0 7) 135, .own (hsP1 8) 135] rfl (.slice 15 0 16 16) hsC1 rfl (fun _ _ => rfl) rfl rfl (by simp only [List.length_append, List.length_cons, List.length_nil, hsC0_l, hsC1_l, hsC2_l, hsC3_l, hsL0_l, hsL1_l, hsL2_l, hsL3_l]; omega)) ?_
  rintro _ _ ⟨rfl, rfl⟩
  simp -implicitDefEqProofs only [vms, ↓reduceIte, Nat.reduceEqDiff, reduceCtorEq, callC, Nat.reduceBEq, encM, hsP1_16]
  refine callK_of [2] rfl (by simp) (write_any C hP K _ hbl bits nb ((((((bytes ++ [255, 196, 0, 210]) ++ [0]) ++ hsC0) ++ hsL0) ++ [16]) ++ hsC1) [.vec .u8 hsL0 5, .vec .u8 hsL1 5, .vec .u8 hsL2 5, .vec .u8 hsL3 5, .own (hsVal 7 8 9 10) 136, .own (hsP0 7) 135, .own (hsP1 8) 135, .own (hsP0 7) 135, .own (hsP1 8) 135] rfl (.vec 8 162) hsL1 rfl (fun M h => by simp only [vlen, h 8 (by omega)]; rfl) rfl rfl (by simp only [List.length_append, List.length_cons, List.length_nil, hsC0_l, hsC1_l, hsC2_l, hsC3_l, hsL0_l, hsL1_l, hsL2_l, hsL3_l]; omega)) ?_
  rintro _ _ ⟨rfl, rfl⟩
  simp -implicitDefEqProofs only [vms, ↓reduceIte, Nat.reduceEqDiff, reduceCtorEq, Int.reduceLE, Int.reduceAdd, Int.reduceNeg, callC, Nat.reduceBEq, wl64, encM]
  rw [hK1, roundK_normal]
  refine round_gen fun K1 hK1 => ?_
  simp -implicitDefEqProofs only [vms, ↓reduceIte, Nat.reduceEqDiff, reduceCtorEq, Int.reduceLT, c46l1]
  rw [hK1]
  simp -implicitDefEqProofs only [vms, vres_nil]
  refine retGo_take 7 (Nat.le_refl _) (by simp) rfl encM_cl ⟨rfl, ?_⟩
  exact congrArg (encM K (bufMH buf 196 210) bits nb) (show (((((((bytes ++ [255, 196, 0, 210]) ++ [0]) ++ hsC0) ++ hsL0) ++ [16]) ++ hsC1) ++ hsL1) = bytes ++ dht1 by simp [dht1])

set_option maxHeartbeats 2000000 in
theorem dht_spec3 (C : Ctx) (hP : C.P = Tryd.prog) (K : EncK) (buf : List Int) (hb : buf.length = 16) (bits nb : Int) (bytes : List Int) (ho : bytes.length ≤ 14000000) :
    VCalls C 46 [.ptr 0 0, .int .i64 3] (encM K buf bits nb bytes) [2] (fun v M' => v = .tup [] ∧ M' = encM K (bufMH buf 196 418) bits nb (bytes ++ dht3)) := by
  refine VCalls.of_fn (hs := kz c46) (F := F46) (by rw [hP]; exact is46) (by simp [F46]) ?_
  have hbl : (bufMH buf 196 418).length = 16 := by simp [bufMH, hb]
  have hv1 : ((hsVal 7 8 9 10).all V.one) = true := rfl
  have hv2 : (hsVal 7 8 9 10).length = 68 := rfl
  have hs0 : vslice 4 17 none none none (.ptr 11 0) = some (.slice 11 0 4 4) := rfl
  have hs2 : vslice 16 1 none none none (.ptr 12 0) = some (.slice 12 0 16 16) := rfl
  have ix0 : ∀ M, vidxS M 17 (.slice 11 0 4 4) (.int .i64 0) = some (.ptr 11 0) := fun _ => rfl
  have st0 : vidxStr (.str ⟨#[0, 16, 1, 17]⟩) (.int .i64 0) = some (.int .u8 0) := rfl
  have ix1 : ∀ M, vidxS M 17 (.slice 11 0 4 4) (.int .i64 1) = some (.ptr 11 17) := fun _ => rfl
  have st1 : vidxStr (.str ⟨#[0, 16, 1, 17]⟩) (.int .i64 1) = some (.int .u8 16) := rfl
  have ix2 : ∀ M, vidxS M 17 (.slice 11 0 4 4) (.int .i64 2) = some (.ptr 11 34) := fun _ => rfl
  have st2 : vidxStr (.str ⟨#[0, 16, 1, 17]⟩) (.int .i64 2) = some (.int .u8 1) := rfl
  have ix3 : ∀ M, vidxS M 17 (.slice 11 0 4 4) (.int .i64 3) = some (.ptr 11 51) := fun _ => rfl
  have st3 : vidxStr (.str ⟨#[0, 16, 1, 17]⟩) (.int .i64 3) = some (.int .u8 17) := rfl
  have hal : ∀ x : V, ([V.int .u8 0, .int .u8 0, .int .u8 0, .int .u8 0, .int .u8 0, .int .u8 0, .int .u8 0, .int .u8 0, .int .u8 0, .int .u8 0, .int .u8 0, .int .u8 0, .int .u8 0, .int .u8 0, .int .u8 0, .int .u8 0, x]).length = 17 := fun _ => rfl
  simp -implicitDefEqProofs only [vms, ↓reduceIte, Nat.reduceEqDiff, Nat.reduceAdd, reduceCtorEq, F46, c46, encM]
  refine callK_new (hs_spec C hP) rfl rfl (.agg (hsVal 7 8 9 10)) [.vec .u8 hsL0 5, .vec .u8 hsL1 5, .vec .u8 hsL2 5, .vec .u8 hsL3 5] rfl rfl ?_
  simp -implicitDefEqProofs only [vms, ↓reduceIte, Nat.reduceEqDiff, Nat.reduceAdd, reduceCtorEq, callC, natCast_lit, Int.reduceEq, stGo_putA, putA_own, hv1, hv2, hs0]
  apply VWp_loop_of (k := 5)
  refine round_gen fun K1 hK1 => ?_
  simp -implicitDefEqProofs only [vms, ↓reduceIte, Nat.reduceEqDiff, Nat.reduceAdd, reduceCtorEq, Int.reduceLE, Int.reduceAdd, Int.reduceNeg, wl64, Int.reduceLT, c46l0, ix0, range_eqB, hs_range0, stGo_putA, putA_own, hsP0_one, hsP0_len, hsP0_16, hsL0_len, hal]
  rw [hK1, roundK_normal]
  refine round_gen fun K1 hK1 => ?_
  simp -implicitDefEqProofs only [vms, ↓reduceIte, Nat.reduceEqDiff, Nat.reduceAdd, reduceCtorEq, Int.reduceLE, Int.reduceAdd, Int.reduceNeg, wl64, Int.reduceLT, c46l0, ix1, range_eqB, hs_range1, stGo_putA, putA_own, hsP1_one, hsP1_len, hsP1_16, hsL1_len, hal]
  rw [hK1, roundK_normal]
  refine round_gen fun K1 hK1 => ?_
  simp -implicitDefEqProofs only [vms, ↓reduceIte, Nat.reduceEqDiff, Nat.reduceAdd, reduceCtorEq, Int.reduceLE, Int.reduceAdd, Int.reduceNeg, wl64, Int.reduceLT, c46l0, ix2, range_eqB, hs_range2, stGo_putA, putA_own, hsP2_one, hsP2_len, hsP2_16, hsL2_len, hal]
  rw [hK1, roundK_normal]
  refine round_gen fun K1 hK1 => ?_
  simp -implicitDefEqProofs only [vms, ↓reduceIte, Nat.reduceEqDiff, Nat.reduceAdd, reduceCtorEq, Int.reduceLE, Int.reduceAdd, Int.reduceNeg, wl64, Int.reduceLT, c46l0, ix3, range_eqB, hs_range3, stGo_putA, putA_own, hsP3_one, hsP3_len, hsP3_16, hsL3_len, hal]
  rw [hK1, roundK_normal]
  refine round_gen fun K1 hK1 => ?_
  simp -implicitDefEqProofs only [vms, ↓reduceIte, Nat.reduceEqDiff, reduceCtorEq, Int.reduceLT, c46l0]
  rw [hK1]
  simp -implicitDefEqProofs only [vms, ↓reduceIte, Nat.reduceEqDiff, reduceCtorEq]
  refine callK_pre [.vec .u8 hsL0 5, .vec .u8 hsL1 5, .vec .u8 hsL2 5, .vec .u8 hsL3 5, .own (hsVal 7 8 9 10) 136, .own (hsP0 7) 135, .own (hsP1 8) 135, .own (hsP2 9) 135, .own (hsP3 10) 135] (wmh_spec C hP K buf hb bits nb bytes 196 418 (by omega) (by omega)) rfl rfl encM_cl encM_cl rfl rfl (by simp) rfl rfl ?_
  simp -implicitDefEqProofs only [vms, ↓reduceIte, Nat.reduceEqDiff, reduceCtorEq, callC, Nat.reduceBEq, natCast_lit, Int.reduceDiv, Int.reduceMod, encM]
  apply VWp_loop_of (k := 5)
  refine round_gen fun K1 hK1 => ?_
  simp -implicitDefEqProofs only [vms, ↓reduceIte, Nat.reduceEqDiff, Nat.reduceAdd, reduceCtorEq, Int.reduceLT, c46l1, ix0, range_eqB, hs_range0, stGo_putA, putA_own, hsP0_one, hsP0_len, hal, st0]
  refine callK_pre [.vec .u8 hsL0 5, .vec .u8 hsL1 5, .vec .u8 hsL2 5, .vec .u8 hsL3 5, .own (hsVal 7 8 9 10) 136, .own (hsP0 7) 135, .own (hsP1 8) 135, .own (hsP2 9) 135, .own (hsP3 10) 135, .own (hsP0 7) 135] (writeByte_spec C hP K _ hbl bits nb (bytes ++ [255, 196, 1, 162]) 0 (by simp only [List.length_append, List.length_cons, List.length_nil, hsC0_l, hsC1_l, hsC2_l, hsC3_l, hsL0_l, hsL1_l, hsL2_l, hsL3_l]; omega)) rfl rfl encM_cl encM_cl rfl rfl (by simp) rfl rfl ?_
  have hsl : vslice 16 1 none none none (.ptr 16 0) = some (.slice 16 0 16 16) := rfl
  simp -implicitDefEqProofs only [vms, ↓reduceIte, Nat.reduceEqDiff, reduceCtorEq, callC, Nat.reduceBEq, encM, hsl]
  refine callK_of [2] rfl (by simp) (write_any C hP K _ hbl bits nb ((bytes ++ [255, 196, 1, 162]) ++ [0]) [.vec .u8 hsL0 5, .vec .u8 hsL1 5, .vec .u8 hsL2 5, .vec .u8 hsL3 5, .own (hsVal 7 8 9 10) 136, .own (hsP0 7) 135, .own (hsP1 8) 135, .own (hsP2 9) 135, .own (hsP3 10) 135, .own (hsP0 7) 135] rfl (.slice 16 0 16 16) hsC0 rfl (fun _ _ => rfl) rfl rfl (by simp only [List.length_append, List.length_cons, List.length_nil, hsC0_l, hsC1_l, hsC2_l, hsC3_l, hsL0_l, hsL1_l, hsL2_l, hsL3_l]; omega)) ?_
  rintro _ _ ⟨rfl, rfl⟩
  simp -implicitDefEqProofs only [vms, ↓reduceIte, Nat.reduceEqDiff, reduceCtorEq, callC, Nat.reduceBEq, encM, hsP0_16]
  refine callK_of [2] rfl (by simp) (write_any C hP K _ hbl bits nb (((bytes ++ [255, 196, 1, 162]) ++ [0]) ++ hsC0) [.vec .u8 hsL0 5, .vec .u8 hsL1 5, .vec .u8 hsL2 5, .vec .u8 hsL3 5, .own (hsVal 7 8 9 10) 136, .own (hsP0 7) 135, .own (hsP1 8) 135, .own (hsP2 9) 135, .own (hsP3 10) 135, .own (hsP0 7) 135] rfl (.vec 7 12) hsL0 rfl (fun M h => by simp only [vlen, h 7 (by omega)]; rfl) rfl rfl (by simp only [List.length_append, List.length_cons, List.length_nil, hsC0_l, hsC1_l, hsC2_l, hsC3_l, hsL0_l, hsL1_l, hsL2_l, hsL3_l]; omega)) ?_
  rintro _ _ ⟨rfl, rfl⟩
  simp -implicitDefEqProofs only [vms, ↓reduceIte, Nat.reduceEqDiff, reduceCtorEq, Int.reduceLE, Int.reduceAdd, Int.reduceNeg, callC, Nat.reduceBEq, wl64, encM]
  rw [hK1, roundK_normal]
  refine round_gen fun K1 hK1 => ?_
  simp -implicitDefEqProofs only [vms, ↓reduceIte, Nat.reduceEqDiff, Nat.reduceAdd, reduceCtorEq, Int.reduceLT, c46l1, ix1, range_eqB, hs_range1, stGo_putA, putA_own, hsP1_one, hsP1_len, hal, st1]
  refine callK_pre [.vec .u8 hsL0 5, .vec .u8 hsL1 5, .vec .u8 hsL2 5, .vec .u8 hsL3 5, .own (hsVal 7 8 9 10) 136, .own (hsP0 7) 135, .own (hsP1 8) 135, .own (hsP2 9) 135, .own (hsP3 10) 135, .own (hsP0 7) 135, .own (hsP1 8) 135] (writeByte_spec C hP K _ hbl bits nb ((((bytes ++ [255, 196, 1, 162]) ++ [0]) ++ hsC0) ++ hsL0) 16 (by simp only [List.length_append, List.length_cons, List.length_nil, hsC0_l, hsC1_l, hsC2_l, hsC3_l, hsL0_l, hsL1_l, hsL2_l, hsL3_l]; omega)) rfl rfl encM_cl encM_cl rfl rfl (by simp) rfl rfl ?_
  have hsl : vslice 16 1 none none none (.ptr 17 0) = some (.slice 17 0 16 16) := rfl
  simp -implicitDefEqProofs only [vms, ↓reduceIte, Nat.reduceEqDiff, reduceCtorEq, callC, Nat.reduceBEq, encM, hsl]
  refine callK_of [2] rfl (by simp) (write_any C hP K _ hbl bits nb (((((bytes ++ [255, 196, 1, 162]) ++ [0]) ++ hsC0) ++ hsL0) ++ [16]) [.vec .u8 hsL0 5, .vec .u8 hsL1 5, .vec .u8 hsL2 5, .vec .u8 hsL3 5, .own (hsVal 7 8 9 10) 136, .own (hsP0 7) 135, .own (hsP1 8) 135, .own (hsP2 9) 135, .own (hsP3 10) 135, .own (hsP0 7) 135, .own (hsP1 8) 135] rfl (.slice 17 0 16 16) hsC1 rfl (fun _ _ => rfl) rfl rfl (by simp only [List.length_append, List.length_cons, List.length_nil, hsC0_l, hsC1_l, hsC2_l, hsC3_l, hsL0_l, hsL1_l, hsL2_l, hsL3_l]; omega)) ?_
  rintro _ _ ⟨rfl, rfl⟩
  simp -implicitDefEqProofs only [vms, ↓reduceIte, Nat.reduceEqDiff, reduceCtorEq, callC, Nat.reduceBEq, encM, hsP1_16]
  refine callK_of [2] rfl (by simp) (write_any C hP K _ hbl bits nb ((((((bytes ++ [255, 196, 1, 162]) ++ [0]) ++ hsC0) ++ hsL0) ++ [16]) ++ hsC1) [.vec .u8 hsL0 5, .vec .u8 hsL1 5, .vec .u8 hsL2 5, .vec .u8 hsL3 5, .own (hsVal 7 8 9 10) 136, .own (hsP0 7) 135, .own (hsP1 8) 135, .own (hsP2 9) 135, .own (hsP3 10) 135, .own (hsP0 7) 135, .own (hsP1 8) 135] rfl (.vec 8 162) hsL1 rfl (fun M h => by simp only [vlen, h 8 (by omega)]; rfl) rfl rfl (by simp only [List.length_append, List.length_cons, List.length_nil, hsC0_l, hsC1_l, hsC2_l, hsC3_l, hsL0_l, hsL1_l, hsL2_l, hsL3_l]; omega)) ?_
  rintro _ _ ⟨rfl, rfl⟩
  simp -implicitDefEqProofs only [vms, ↓reduceIte, Nat.reduceEqDiff, reduceCtorEq, Int.reduceLE, Int.reduceAdd, Int.reduceNeg, callC, Nat.reduceBEq, wl64, encM]
  rw [hK1, roundK_normal]
  refine round_gen fun K1 hK1 => ?_
  simp -implicitDefEqProofs only [vms, ↓reduceIte, Nat.reduceEqDiff, Nat.reduceAdd, reduceCtorEq, Int.reduceLT, c46l1, ix2, range_eqB, hs_range2, stGo_putA, putA_own, hsP2_one, hsP2_len, hal, st2]
  refine callK_pre [.vec .u8 hsL0 5, .vec .u8 hsL1 5, .vec .u8 hsL2 5, .vec .u8 hsL3 5, .own (hsVal 7 8 9 10) 136, .own (hsP0 7) 135, .own (hsP1 8) 135, .own (hsP2 9) 135, .own (hsP3 10) 135, .own (hsP0 7) 135, .own (hsP1 8) 135, .own (hsP2 9) 135] (writeByte_spec C hP K _ hbl bits nb (((((((bytes ++ [255, 196, 1, 162]) ++ [0]) ++ hsC0) ++ hsL0) ++ [16]) ++ hsC1) ++ hsL1) 1 (by simp only [List.length_append, List.length_cons, List.length_nil, hsC0_l, hsC1_l, hsC2_l, hsC3_l, hsL0_l, hsL1_l, hsL2_l, hsL3_l]; omega)) rfl rfl encM_cl encM_cl rfl rfl (by simp) rfl rfl ?_
  have hsl : vslice 16 1 none none none (.ptr 18 0) = some (.slice 18 0 16 16) := rfl
  simp -implicitDefEqProofs only [vms, ↓reduceIte, Nat.reduceEqDiff, reduceCtorEq, callC, Nat.reduceBEq, encM, hsl]
  refine callK_of [2] rfl (by simp) (write_any C hP K _ hbl bits nb ((((((((bytes ++ [255, 196, 1, 162]) ++ [0]) ++ hsC0) ++ hsL0) ++ [16]) ++ hsC1) ++ hsL1) ++ [1]) [.vec .u8 hsL0 5, .vec .u8 hsL1 5, .vec .u8 hsL2 5, .vec .u8 hsL3 5, .own (hsVal 7 8 9 10) 136, .own (hsP0 7) 135, .own (hsP1 8) 135, .own (hsP2 9) 135, .own (hsP3 10) 135, .own (hsP0 7) 135, .own (hsP1 8) 135, .own (hsP2 9) 135] rfl (.slice 18 0 16 16) hsC2 rfl (fun _ _ => rfl) rfl rfl (by simp only [List.length_append, List.length_cons, List.length_nil, hsC0_l, hsC1_l, hsC2_l, hsC3_l, hsL0_l, hsL1_l, hsL2_l, hsL3_l]; omega)) ?_
  rintro _ _ ⟨rfl, rfl⟩
  simp -implicitDefEqProofs only [vms, ↓reduceIte, Nat.reduceEqDiff, reduceCtorEq, callC, Nat.reduceBEq, encM, hsP2_16]
  refine callK_of [2] rfl (by simp) (write_any C hP K _ hbl bits nb (((((((((bytes ++ [255, 196, 1, 162]) ++ [0]) ++ hsC0) ++ hsL0) ++ [16]) ++ hsC1) ++ hsL1) ++ [1]) ++ hsC2) [.vec .u8 hsL0 5, .vec .u8 hsL1 5, .vec .u8 hsL2 5, .vec .u8 hsL3 5, .own (hsVal 7 8 9 10) 136, .own (hsP0 7) 135, .own (hsP1 8) 135, .own (hsP2 9) 135, .own (hsP3 10) 135, .own (hsP0 7) 135, .own (hsP1 8) 135, .own (hsP2 9) 135] rfl (.vec 9 12) hsL2 rfl (fun M h => by simp only [vlen, h 9 (by omega)]; rfl) rfl rfl (by simp only [List.length_append, List.length_cons, List.length_nil, hsC0_l, hsC1_l, hsC2_l, hsC3_l, hsL0_l, hsL1_l, hsL2_l, hsL3_l]; omega)) ?_
  rintro _ _ ⟨rfl, rfl⟩
  simp -implicitDefEqProofs only [vms, ↓reduceIte, Nat.reduceEqDiff, reduceCtorEq, Int.reduceLE, Int.reduceAdd, Int.reduceNeg, callC, Nat.reduceBEq, wl64, encM]
  rw [hK1, roundK_normal]
  refine round_gen fun K1 hK1 => ?_
  simp -implicitDefEqProofs only [vms, ↓reduceIte, Nat.reduceEqDiff, Nat.reduceAdd, reduceCtorEq, Int.reduceLT, c46l1, ix3, range_eqB, hs_range3, stGo_putA, putA_own, hsP3_one, hsP3_len, hal, st3]
  refine callK_pre [.vec .u8 hsL0 5, .vec .u8 hsL1 5, .vec .u8 hsL2 5, .vec .u8 hsL3 5, .own (hsVal 7 8 9 10) 136, .own (hsP0 7) 135, .own (hsP1 8) 135, .own (hsP2 9) 135, .own (hsP3 10) 135, .own (hsP0 7) 135, .own (hsP1 8) 135, .own (hsP2 9) 135, .own (hsP3 10) 135] (writeByte_spec C hP K _ hbl bits nb ((((((((((bytes ++ [255, 196, 1, 162]) ++ [0]) ++ hsC0) ++ hsL0) ++ [16]) ++ hsC1) ++ hsL1) ++ [1]) ++ hsC2) ++ hsL2) 17 (by simp only [List.length_append, List.length_cons, List.length_nil, hsC0_l, hsC1_l, hsC2_l, hsC3_l, hsL0_l, hsL1_l, hsL2_l, hsL3_l]; omega)) rfl rfl encM_cl encM_cl rfl rfl (by simp) rfl rfl ?_
  have hsl : vslice 16 1 none none none (.ptr 19 0) = some (.slice 19 0 16 16) := rfl
  simp -implicitDefEqProofs only [vms, ↓reduceIte, Nat.reduceEqDiff, reduceCtorEq, callC, Nat.reduceBEq, encM, hsl]
  refine callK_of [2] rfl (by simp) (write_any C hP K _ hbl bits nb (((((((((((bytes ++ [255, 196, 1, 162]) ++ [0]) ++ hsC0) ++ hsL0) ++ [16]) ++ hsC1) ++ hsL1) ++ [1]) ++ hsC2) ++ hsL2) ++ [17]) [.vec .u8 hsL0 5, .vec .u8 hsL1 5, .vec .u8 hsL2 5, .vec .u8 hsL3 5, .own (hsVal 7 8 9 10) 136, .own (hsP0 7) 135, .own (hsP1 8) 135, .own (hsP2 9) 135, .own (hsP3 10) 135, .own (hsP0 7) 135, .own (hsP1 8) 135, .own (hsP2 9) 135, .own (hsP3 10) 135] rfl (.slice 19 0 16 16) hsC3 rfl (fun _ _ => rfl) rfl rfl (by simp only [List.length_append, List.length_cons, List.length_nil, hsC0_l, hsC1_l, hsC2_l, hsC3_l, hsL0_l, hsL1_l, hsL2_l, hsL3_l]; omega)) ?_
  rintro _ _ ⟨rfl, rfl⟩
  simp -implicitDefEqProofs only [vms, ↓reduceIte, Nat.reduceEqDiff, reduceCtorEq, callC, Nat.reduceBEq, encM, hsP3_16]
  refine callK_of [2] rfl (by simp) (write_any C hP K _ hbl bits nb ((((((((((((bytes ++ [255, 196, 1, 162]) ++ [0]) ++ hsC0) ++ hsL0) ++ [16]) ++ hsC1) ++ hsL1) ++ [1]) ++ hsC2) ++ hsL2) ++ [17]) ++ hsC3) [.vec .u8 hsL0 5, .vec .u8 hsL1 5, .vec .u8 hsL2 5, .vec .u8 hsL3 5, .own (hsVal 7 8 9 10) 136, .own (hsP0 7) 135, .own (hsP1 8) 135, .own (hsP2 9) 135, .own (hsP3 10) 135, .own (hsP0 7) 135, .own (hsP1 8) 135, .own (hsP2 9) 135, .own (hsP3 10) 135] rfl (.vec 10 162) hsL3 rfl (fun M h => by simp only [vlen, h 10 (by omega)]; rfl) rfl rfl (by simp only [List.length_append, List.length_cons, List.length_nil, hsC0_l, hsC1_l, hsC2_l, hsC3_l, hsL0_l, hsL1_l, hsL2_l, hsL3_l]; omega)) ?_
  rintro _ _ ⟨rfl, rfl⟩
  simp -implicitDefEqProofs only [vms, ↓reduceIte, Nat.reduceEqDiff, reduceCtorEq, Int.reduceLE, Int.reduceAdd, Int.reduceNeg, callC, Nat.reduceBEq, wl64, encM]
  rw [hK1, roundK_normal]
  refine round_gen fun K1 hK1 => ?_
  simp -implicitDefEqProofs only [vms, ↓reduceIte, Nat.reduceEqDiff, reduceCtorEq, Int.reduceLT, c46l1]
  rw [hK1]
  simp -implicitDefEqProofs only [vms, vres_nil]
  refine retGo_take 7 (Nat.le_refl _) (by simp) rfl encM_cl ⟨rfl, ?_⟩
  exact congrArg (encM K (bufMH buf 196 418) bits nb) (show (((((((((((((bytes ++ [255, 196, 1, 162]) ++ [0]) ++ hsC0) ++ hsL0) ++ [16]) ++ hsC1) ++ hsL1) ++ [1]) ++ hsC2) ++ hsL2) ++ [17]) ++ hsC3) ++ hsL3) = bytes ++ dht3 by simp [dht3])
end Go.VM
end

section
set_option linter.unusedSimpArgs false
namespace Go.VM
open Go Go.Proofs Go.Bits

/-! What jpeg.Encode writes is what the reference gives: plain. -/
theorem feed1_pre (p : List Bool) (a out : List Int) (b : Bool) : feed1 (p, a ++ out) b = ((feed1 (p, out) b).1, a ++ (feed1 (p, out) b).2) := by
  unfold feed1
  simp only
  split <;> simp
theorem feed_pre (a : List Int) : ∀ (bs : List Bool) (p : List Bool) (out : List Int), feed (p, a ++ out) bs = ((feed (p, out) bs).1, a ++ (feed (p, out) bs).2)
  | [], _, _ => rfl
  | b :: bs, p, out => by
    rw [feed_cons, feed_cons, feed1_pre, feed_pre a bs]
def preS (a : List Int) (st : ScS) : ScS := ((st.1.1, a ++ st.1.2), st.2)
section
variable (tabs : List Int) (px : Nat → Nat → Nat → Int) (w h : Nat) (a : List Int)
theorem stepB_pre (part c : Nat) (xs : List Int) (st : ScS) : stepB tabs part c xs (preS a st) = preS a (stepB tabs part c xs st) := by
  unfold stepB preS
  simp only
  rw [feed_pre]
theorem grayX_pre (y : Nat) : ∀ (d x : Nat) (st : ScS), grayX tabs px w h y d x (preS a st) = preS a (grayX tabs px w h y d x st)
  | 0, _, _ => rfl
  | d + 1, x, st => by
    unfold grayX
    split
    · rw [stepB_pre, grayX_pre y d]
    · rfl
theorem grayY_pre : ∀ (d y : Nat) (st : ScS), grayY tabs px w h d y (preS a st) = preS a (grayY tabs px w h d y st)
  | 0, _, _ => rfl
  | d + 1, y, st => by
    unfold grayY
    split
    · rw [grayX_pre, grayY_pre d]
    · rfl
theorem lumK_pre (x y : Nat) : ∀ (d k : Nat) (st : ScS), lumK tabs px w h x y d k (preS a st) = preS a (lumK tabs px w h x y d k st)
  | 0, _, _ => rfl
  | d + 1, k, st => by
    unfold lumK
    rw [stepB_pre, lumK_pre x y d]
theorem mcu_pre (x y : Nat) (st : ScS) : mcu tabs px w h x y (preS a st) = preS a (mcu tabs px w h x y st) := by
  unfold mcu
  rw [lumK_pre, stepB_pre, stepB_pre]
theorem colX_pre (y : Nat) : ∀ (d x : Nat) (st : ScS), colX tabs px w h y d x (preS a st) = preS a (colX tabs px w h y d x st)
  | 0, _, _ => rfl
  | d + 1, x, st => by
    unfold colX
    split
    · rw [mcu_pre, colX_pre y d]
    · rfl
theorem colY_pre : ∀ (d y : Nat) (st : ScS), colY tabs px w h d y (preS a st) = preS a (colY tabs px w h d y st)
  | 0, _, _ => rfl
  | d + 1, y, st => by
    unfold colY
    split
    · rw [colX_pre, colY_pre d]
    · rfl
theorem scan_pre (gray : Bool) (st : ScS) : scan tabs px w h gray (preS a st) = preS a (scan tabs px w h gray st) := by
  unfold scan
  split
  · rw [grayY_pre]
  · rw [colY_pre]
end

theorem scan_p {tabs : List Int} {px : Nat → Nat → Nat → Int} {w h : Nat} (hpb : PxOk px) (ht : TabOk tabs) (gray : Bool) : (scan tabs px w h gray (([], []), [0, 0, 0])).1.1.length < 8 := by
  unfold scan
  split
  · exact (grayY_inv2 w h hpb ht 5 0 _ _ (invO [] (by simp))).p
  · exact (colY_inv2 w h hpb ht 3 0 _ _ (invO [] (by simp))).p

theorem scanE_eq {tabs : List Int} {px : Nat → Nat → Nat → Int} (w h : Nat) (hpb : PxOk px) (ht : TabOk tabs) (gray : Bool) (a : List Int) : (scanE w h gray tabs px a).2 = a ++ scanBytes w h gray tabs px := by
  have h1 := scan_pre tabs px w h a gray (([], []), [0, 0, 0])
  have h2 : preS a (([], []), [0, 0, 0]) = (([], a), [0, 0, 0]) := by simp [preS]
  rw [h2] at h1
  unfold scanE
  rw [h1]
  have hp := scan_p (w := w) (h := h) hpb ht gray
  unfold scanBytes
  generalize scan tabs px w h gray (([], []), [0, 0, 0]) = st at hp ⊢
  obtain ⟨⟨p, out⟩, l⟩ := st
  simp only [preS] at hp ⊢
  rw [feed_pre, pad_same p out hp]
  rfl

def jpgHd (w h : Nat) (gray : Bool) (s : List Int) : List Int :=
  [255, 216] ++ [255, 219, 0, 132] ++ (0 :: s.take 64) ++ (1 :: s.drop 64) ++ [255, 192, 0, 8 + 3 * (if gray then 1 else 3)] ++ sof w h (if gray then 1 else 3) ++ (if gray then dht1 else dht3) ++ (if gray then sosYL else sosCL)

theorem dht_row1 : seg 196 (dhtRow true) = dht1 := by kernel_rfl
theorem dht_row3 : seg 196 (dhtRow false) = dht3 := by kernel_rfl
theorem sos_row1 : seg 218 (sosRow true) = sosYL := rfl
theorem sos_row3 : seg 218 (sosRow false) = sosCL := rfl

theorem hd_eq (w h : Nat) (gray : Bool) (q : Int) : jpgHd w h gray (scaledL false q ++ scaledL true q) = hdB w h gray q := by
  have l0 := scaledL_len false q
  have l1 := scaledL_len true q
  have t : (scaledL false q ++ scaledL true q).take 64 = scaledL false q := by rw [List.take_append_of_le_length (by omega), List.take_of_length_le (by omega)]
  have d : (scaledL false q ++ scaledL true q).drop 64 = scaledL true q := by rw [List.drop_append_of_le_length (by omega), List.drop_eq_nil_of_le (by omega), List.nil_append]
  have hq : seg 219 (dqtRow (scaledL false q) (scaledL true q)) = [255, 219, 0, 132] ++ (0 :: scaledL false q) ++ (1 :: scaledL true q) := by
    unfold seg dqtRow
    have : (0 :: (scaledL false q ++ [1] ++ scaledL true q)).length = 130 := by simp [l0, l1]
    rw [this]
    simp
  unfold jpgHd hdB hdA
  rw [t, d, hq]
  cases gray
  · rw [dht_row3, sos_row3]
    have hs : seg 192 (sof w h (if (false = true) then 1 else 3)) = [255, 192, 0, 8 + 3 * 3] ++ sof w h 3 := by simp [seg, sof]
    rw [hs]
    simp
  · rw [dht_row1, sos_row1]
    have hs : seg 192 (sof w h (if (true = true) then 1 else 3)) = [255, 192, 0, 8 + 3 * 1] ++ sof w h 1 := by simp [seg, sof]
    rw [hs]
    simp

theorem jpg_eq (w h : Nat) (gray : Bool) (q : Int) {px : Nat → Nat → Nat → Int} (hpb : PxOk px) (ht : TabOk (scaledL false q ++ scaledL true q)) :
    (scanE w h gray (scaledL false q ++ scaledL true q) px (jpgHd w h gray (scaledL false q ++ scaledL true q))).2 ++ [255, 217] = specBytes w h gray q px := by
  rw [scanE_eq w h hpb ht, hd_eq]
  rfl
end Go.VM
end

section
set_option linter.unusedSimpArgs false
namespace Go.VM
open Go Go.Proofs Go.Bits

/-! jpeg.Encode's quantization tables. -/
structure GlobQ (C : Ctx) : Prop extends GlobE C where
  uq : ∀ i j, i < 2 → j < 64 → C.ext ⟨0, 64 * i + j, none⟩ = some (.int .u8 (gI (baseL (decide (i = 1))) (gI zzL j).toNat))

def QF (q : Int) (t : Nat) : Int := scaledF (decide (t / 64 = 1)) q (t % 64)
theorem QF_at (q : Int) (i j : Nat) (hj : j < 64) : QF q (64 * i + j) = scaledF (decide (i = 1)) q j := by
  unfold QF
  rw [show (64 * i + j) / 64 = i by omega, show (64 * i + j) % 64 = j by omega]
theorem QF_full (q : Int) : (List.range 128).map (QF q) = scaledL false q ++ scaledL true q := by
  rw [show (128 : Nat) = 64 + 64 from rfl, List.range_add, List.map_append, List.map_map]
  have e0 : (List.range 64).map (QF q) = scaledL false q := by
    refine List.map_congr_left fun i hi => ?_
    have := QF_at q 0 i (by simpa using hi)
    simpa using this
  have e1 : (List.range 64).map (QF q ∘ (64 + ·)) = scaledL true q := by
    refine List.map_congr_left fun i hi => ?_
    have := QF_at q 1 i (by simpa using hi)
    simpa using this
  rw [e0, e1]

section
variable {C : Ctx} (n0 : Nat) (mv : List Nat) (Mq : List Int → Mem) (eb : Nat) (hd tl : List V)
theorem quant_in (hG : GlobQ C) (hM : ∀ q, (Mq q)[eb]? = some (.own (hd ++ (intVs .u8 q ++ tl)) 116)) (hS : ∀ q q', (Mq q).set eb (.own (hd ++ (intVs .u8 q' ++ tl)) 116) = Mq q') (hhd : hd.length = 20)
    (q : Int) (h1 : 1 ≤ q) (h2 : q ≤ 100) (i : Nat) (hi : i < 2) (Q : VX → Env → Mem → Prop) : ∀ (d j : Nat) (e : Env), j + d = 64 → e.get 8 = .ptr eb 0 → e.get 10 = .int .i64 (byQ q) → e.get 11 = .int .i64 i → e.get 50 = .int .i64 j →
    (∀ e' : Env, e'.get 1 = e.get 1 → e'.get 7 = e.get 7 → e'.get 8 = .ptr eb 0 → e'.get 10 = .int .i64 (byQ q) → e'.get 47 = e.get 47 → Q (.exit 2) e' (Mq (cur 128 (QF q) (64 * i + 64)))) →
    VRounds n0 (VWp C n0 mv c17l0) (d + 1) e (Mq (cur 128 (QF q) (64 * i + j))) Q := by
  intro d
  induction d with
  | zero =>
    intro j e hj g8 g10 g11 g50 hQ
    refine round_gen fun K1 hK1 => ?_
    have hj' : j = 64 := by omega
    subst hj'
    have hd : decide (((64 : Nat) : Int) < 64) = false := by decide
    simp -implicitDefEqProofs only [vms, ↓reduceIte, Nat.reduceEqDiff, natCast_lit, Int.reduceLT, c17l0, g50]
    rw [hK1]
    refine hQ _ ?_ ?_ ?_ ?_ ?_ <;> simp -implicitDefEqProofs only [vms, ↓reduceIte, Nat.reduceEqDiff, g8, g10]
  | succ d ih =>
    intro j e hj g8 g10 g11 g50 hQ
    refine round_gen fun K1 hK1 => ?_
    have hd0 : decide ((j : Int) < 64) = true := by simp; omega
    have hwj : IntKind.i64.wrap ((j : Int) + 1) = ((j + 1 : Nat) : Int) := by rw [wrap_i64_id (by omega) (by omega)]; rfl
    obtain ⟨z1, z2, z3⟩ := zz_le j (by omega)
    obtain ⟨b1, b2⟩ := base_le (decide (i = 1)) (gI zzL j).toNat (by omega)
    obtain ⟨y1, y2⟩ := byQ_le q h1 h2
    have i1 : vidxA 2 64 (.raw (.pointer (some ⟨0, 0, none⟩))) (.int .i64 i) = some (.raw (.pointer (some ⟨0, 64 * i, none⟩))) := by
      rw [vidxA_raw (by omega) (by omega), Addr.add_lit]; simp [Nat.mul_comm]
    have i2 : vidxA 64 1 (.raw (.pointer (some ⟨0, 64 * i, none⟩))) (.int .i64 j) = some (.raw (.pointer (some ⟨0, 64 * i + j, none⟩))) := by
      rw [vidxA_raw (by omega) (by omega), Addr.add_lit]; simp
    have i3 : ∀ M, vld C M (.raw (.pointer (some ⟨0, 64 * i + j, none⟩))) = some (.int .u8 (gI (baseL (decide (i = 1))) (gI zzL j).toNat)) := fun M => by
      rw [vld_raw (hG.uq i j hi (by omega))]; rfl
    have i4 : vidxA 2 64 (.ptr eb 20) (.int .i64 i) = some (.ptr eb (20 + 64 * i)) := by rw [vidxA_ptr (by omega) (by omega)]; simp; omega
    have i5 : vidxA 64 1 (.ptr eb (20 + 64 * i)) (.int .i64 j) = some (.ptr eb (20 + 64 * i + j)) := by rw [vidxA_ptr (by omega) (by omega)]; simp
    have hF : QF q (64 * i + j) = clampQ ((gI (baseL (decide (i = 1))) (gI zzL j).toNat * byQ q + 50) / 100) := by rw [QF_at _ _ _ (by omega)]; rfl
    generalize gI (baseL (decide (i = 1))) (gI zzL j).toNat = b at *
    have hm1 : 0 ≤ b * byQ q := Int.mul_nonneg b1 y1
    have hm2 : b * byQ q ≤ 255 * 5000 := Int.mul_le_mul b2 y2 y1 (by omega)
    have w0 : IntKind.i64.wrap b = b := wrap_i64_id (by omega) (by omega)
    have w1 : IntKind.i64.wrap (b * byQ q) = b * byQ q := wrap_i64_id (by omega) (by omega)
    have w2 : IntKind.i64.wrap (b * byQ q + 50) = b * byQ q + 50 := wrap_i64_id (by omega) (by omega)
    have w3 : vbin .quo (.int .i64 (b * byQ q + 50)) (.int .i64 100) = some (.int .i64 ((b * byQ q + 50) / 100)) := by
      rw [vbin_quo (by decide), Int.tdiv_eq_ediv_of_nonneg (by omega), wrap_i64_id (by omega) (by omega)]
    have hpb : ∀ v : Int, v = QF q (64 * i + j) → putB (Mq (cur 128 (QF q) (64 * i + j))) eb (20 + 64 * i + j) (.int .u8 v) (some (.own (hd ++ (intVs .u8 (cur 128 (QF q) (64 * i + j)) ++ tl)) 116)) = some (.undef, Mq (cur 128 (QF q) (64 * i + (j + 1)))) := fun v hv => by
      rw [putB_own, if_pos (by simp [hhd, intVs, cur_len]; omega), hv]
      have : (hd ++ (intVs .u8 (cur 128 (QF q) (64 * i + j)) ++ tl)).set (20 + 64 * i + j) (.int .u8 (QF q (64 * i + j))) = hd ++ (intVs .u8 (cur 128 (QF q) (64 * i + (j + 1))) ++ tl) := by
        rw [List.set_append_right _ _ (by omega), hhd, show 20 + 64 * i + j - 20 = 64 * i + j by omega, List.set_append_left _ _ (by simp [intVs, cur_len]; omega)]
        unfold intVs
        rw [← Nat.add_assoc, ← cur_set, List.map_set]
      rw [this, hS]
    obtain ⟨c1, c2⟩ := clampQ_le ((b * byQ q + 50) / 100)
    unfold clampQ at hF c1 c2
    generalize (b * byQ q + 50) / 100 = x at *
    by_cases hx1 : x < 1
    · have hd1 : decide (x < 1) = true := by simpa using hx1
      rw [if_pos hx1] at hF
      have hp := hpb _ hF.symm
      simp -implicitDefEqProofs only [vms, ↓reduceIte, Nat.reduceEqDiff, Int.reduceLE, wl8, c17l0, g8, g10, g11, g50, hd0, hd1, i1, i2, i3, i4, i5, w0, w1, w2, w3, hM, hp, hwj]
      rw [hK1, roundK_normal]
      refine ih (j + 1) _ (by omega) ?_ ?_ ?_ ?_ ?_ <;> simp -implicitDefEqProofs only [vms, ↓reduceIte, Nat.reduceEqDiff]
      exact hQ
    · have hd1 : decide (x < 1) = false := by simpa using hx1
      rw [if_neg hx1] at hF c1 c2
      by_cases hx2 : 255 < x
      · have hd2 : decide (x > 255) = true := by simpa using hx2
        rw [if_pos hx2] at hF
        have hp := hpb _ hF.symm
        simp -implicitDefEqProofs only [vms, ↓reduceIte, Nat.reduceEqDiff, Int.reduceLE, wl8, c17l0, g8, g10, g11, g50, hd0, hd1, hd2, i1, i2, i3, i4, i5, w0, w1, w2, w3, hM, hp, hwj]
        rw [hK1, roundK_normal]
        refine ih (j + 1) _ (by omega) ?_ ?_ ?_ ?_ ?_ <;> simp -implicitDefEqProofs only [vms, ↓reduceIte, Nat.reduceEqDiff]
        exact hQ
      · have hd2 : decide (x > 255) = false := by simp; omega
        rw [if_neg hx2] at hF
        have hp := hpb _ hF.symm
        have hw8 : IntKind.u8.wrap x = x := wrap_u8_id (by omega) (by omega)
        simp -implicitDefEqProofs only [vms, ↓reduceIte, Nat.reduceEqDiff, c17l0, g8, g10, g11, g50, hd0, hd1, hd2, i1, i2, i3, i4, i5, w0, w1, w2, w3, hw8, hM, hp, hwj]
        rw [hK1, roundK_normal]
        refine ih (j + 1) _ (by omega) ?_ ?_ ?_ ?_ ?_ <;> simp -implicitDefEqProofs only [vms, ↓reduceIte, Nat.reduceEqDiff]
        exact hQ

theorem quant_out (hG : GlobQ C) (hM : ∀ q, (Mq q)[eb]? = some (.own (hd ++ (intVs .u8 q ++ tl)) 116)) (hS : ∀ q q', (Mq q).set eb (.own (hd ++ (intVs .u8 q' ++ tl)) 116) = Mq q') (hhd : hd.length = 20)
    (q : Int) (h1 : 1 ≤ q) (h2 : q ≤ 100) (Q : VX → Env → Mem → Prop) : ∀ (d i : Nat) (e : Env), i + d = 2 → e.get 8 = .ptr eb 0 → e.get 10 = .int .i64 (byQ q) → e.get 47 = .int .i64 i →
    (∀ e' : Env, e'.get 1 = e.get 1 → e'.get 7 = e.get 7 → e'.get 8 = .ptr eb 0 → Q (.exit 0) e' (Mq (scaledL false q ++ scaledL true q))) →
    VRounds n0 (VWp C n0 mv c17l1) (d + 1) e (Mq (cur 128 (QF q) (64 * i))) Q := by
  intro d
  induction d with
  | zero =>
    intro i e hi g8 g10 g47 hQ
    refine round_gen fun K1 hK1 => ?_
    have hi' : i = 2 := by omega
    subst hi'
    have hd : decide (((2 : Nat) : Int) < 2) = false := by decide
    have hfull : cur 128 (QF q) 128 = scaledL false q ++ scaledL true q := by rw [cur_full, QF_full]
    simp -implicitDefEqProofs only [vms, ↓reduceIte, Nat.reduceEqDiff, natCast_lit, Int.reduceLT, Nat.reduceMul, c17l1, g47]
    rw [hK1, hfull]
    refine hQ _ ?_ ?_ ?_ <;> simp -implicitDefEqProofs only [vms, ↓reduceIte, Nat.reduceEqDiff, g8, g10]
  | succ d ih =>
    intro i e hi g8 g10 g47 hQ
    refine round_gen fun K1 hK1 => ?_
    have hd0 : decide ((i : Int) < 2) = true := by simp; omega
    have hwi : IntKind.i64.wrap ((i : Int) + 1) = ((i + 1 : Nat) : Int) := by rw [wrap_i64_id (by omega) (by omega)]; rfl
    simp -implicitDefEqProofs only [vms, ↓reduceIte, Nat.reduceEqDiff, c17l1, g8, g10, g47, hd0]
    apply VWp_loop_of (k := 65)
    have := quant_in (C := C) n0 mv Mq eb hd tl hG hM hS hhd q h1 h2 i (by omega)
    rw [show 64 * i = 64 * i + 0 by omega]
    refine this _ 64 0 _ (by omega) ?_ ?_ ?_ ?_ ?_ <;> simp -implicitDefEqProofs only [vms, ↓reduceIte, Nat.reduceEqDiff, natCast_lit]
    intro e' a1 a7 a8 a10 a47
    simp -implicitDefEqProofs only [vms, ↓reduceIte, Nat.reduceEqDiff, a8, a10, a47, hwi]
    rw [hK1, roundK_normal, show 64 * i + 64 = 64 * (i + 1) by omega]
    refine ih (i + 1) _ (by omega) ?_ ?_ ?_ ?_ <;> simp -implicitDefEqProofs only [vms, ↓reduceIte, Nat.reduceEqDiff, a1, a7]
    exact hQ
end
end Go.VM
end

section
set_option linter.unusedSimpArgs false
namespace Go.VM
open Go Go.Proofs Go.Bits

/-! jpeg.Encode: what both layouts need. -/
section
variable {C : Ctx} (w h : Nat)
theorem size45_spec (hP : C.P = Tryd.prog) (hw : w ≤ 40) (hh : h ≤ 40) : VCalls C 45 [.agg (imgR w h)] [] [] (fun v M' => v = .agg [.int .i64 w, .int .i64 h] ∧ M' = []) := by
  refine VCalls.of_fn (hs := kz c45) (F := F45) (by rw [hP]; exact is45) (by simp [F45]) ?_
  have hbx : vbox 89 (.agg [.int .i64 0, .int .i64 0, .int .i64 w, .int .i64 h]) = some (.own [.int .i64 0, .int .i64 0, .int .i64 w, .int .i64 h] 89) := rfl
  have hi : imgR w h = [.int .i64 0, .int .i64 0, .int .i64 w, .int .i64 h] := rfl
  have f2 : vfill [(0, 1, .int .i64 w), (1, 1, .int .i64 h)] (.agg [.int .i64 0, .int .i64 0]) = some (.agg [.int .i64 w, .int .i64 h]) := rfl
  have hw1 : IntKind.i64.wrap ((w : Int) - 0) = w := by rw [Int.sub_zero, wrap_i64_id (by omega) (by omega)]
  have hw2 : IntKind.i64.wrap ((h : Int) - 0) = h := by rw [Int.sub_zero, wrap_i64_id (by omega) (by omega)]
  have hs : ∀ M : Mem, stGo [.own [.int .i64 0, .int .i64 0, .int .i64 w, .int .i64 h] 89, .own [.int .i64 0, .int .i64 0] 87] 2 (.agg [.int .i64 w, .int .i64 h]) (.ptr 1 0) = some (.undef, [.own [.int .i64 0, .int .i64 0, .int .i64 w, .int .i64 h] 89, .own [.int .i64 w, .int .i64 h] 87]) := fun _ => rfl
  have rr : rangeB (some (.own [.int .i64 (w : Int), .int .i64 h] 87)) 0 2 = some (.agg [.int .i64 w, .int .i64 h]) := rfl
  simp -implicitDefEqProofs only [vms, ↓reduceIte, Nat.reduceEqDiff, Nat.reduceAdd, reduceCtorEq, F45, c45, hbx, hi, f2, hw1, hw2, hs []]
  exact retGo_take 0 (Nat.le_refl _) (by simp) rfl rfl ⟨rfl, rfl⟩
theorem dx_spec (hP : C.P = Tryd.prog) (hw : w ≤ 40) : VCalls C 38 [.agg (imgR w h)] [] [] (fun v M' => v = .int .i64 w ∧ M' = []) := by
  refine VCalls.of_fn (hs := kz c38) (F := F38) (by rw [hP]; exact is38) (by simp [F38]) ?_
  have hbx : vbox 89 (.agg [.int .i64 0, .int .i64 0, .int .i64 w, .int .i64 h]) = some (.own [.int .i64 0, .int .i64 0, .int .i64 w, .int .i64 h] 89) := rfl
  have hi : imgR w h = [.int .i64 0, .int .i64 0, .int .i64 w, .int .i64 h] := rfl
  have hw1 : IntKind.i64.wrap ((w : Int) - 0) = w := by rw [Int.sub_zero, wrap_i64_id (by omega) (by omega)]
  simp -implicitDefEqProofs only [vms, ↓reduceIte, Nat.reduceEqDiff, reduceCtorEq, F38, c38, hbx, hi, hw1]
  exact retGo_take 0 (Nat.le_refl _) (by simp) rfl rfl ⟨rfl, rfl⟩
theorem dy_spec (hP : C.P = Tryd.prog) (hh : h ≤ 40) : VCalls C 39 [.agg (imgR w h)] [] [] (fun v M' => v = .int .i64 h ∧ M' = []) := by
  refine VCalls.of_fn (hs := kz c39) (F := F39) (by rw [hP]; exact is39) (by simp [F39]) ?_
  have hbx : vbox 89 (.agg [.int .i64 0, .int .i64 0, .int .i64 w, .int .i64 h]) = some (.own [.int .i64 0, .int .i64 0, .int .i64 w, .int .i64 h] 89) := rfl
  have hi : imgR w h = [.int .i64 0, .int .i64 0, .int .i64 w, .int .i64 h] := rfl
  have hw1 : IntKind.i64.wrap ((h : Int) - 0) = h := by rw [Int.sub_zero, wrap_i64_id (by omega) (by omega)]
  simp -implicitDefEqProofs only [vms, ↓reduceIte, Nat.reduceEqDiff, Nat.reduceAdd, reduceCtorEq, F39, c39, hbx, hi, hw1]
  exact retGo_take 0 (Nat.le_refl _) (by simp) rfl rfl ⟨rfl, rfl⟩

theorem putB_bufG {z a b c d e : Nat} {K : EncK} {buf : List Int} {bits nb : Int} (hb : buf.length = 16) {M : Mem} {v : Int} (o : Nat) (ho : 2 ≤ o) (h18 : o < 18) :
    putB M e o (.int .u8 v) (some (encBlkG z a b c d K buf bits nb)) = some (.undef, M.set e (encBlkG z a b c d K (buf.set (o - 2) v) bits nb)) := by
  obtain ⟨j, rfl⟩ : ∃ j, o = 2 + j := ⟨o - 2, by omega⟩
  rw [show 2 + j - 2 = j by omega]
  simp only [encBlkG]
  rw [putB_own, if_pos (by simp [intVs, hb]; omega)]
  have : (([.iface 53 (.ptr z 0), .nili] : List V) ++ (intVs .u8 buf ++ (([.int .u32 bits, .int .u32 nb] : List V) ++ (intVs .u8 K.q ++ ([.vec a K.l0.length, .vec b K.l1.length, .vec c K.l2.length, .vec d K.l3.length] : List V))))).set (2 + j) (.int .u8 v) =
      ([.iface 53 (.ptr z 0), .nili] : List V) ++ (intVs .u8 (buf.set j v) ++ (([.int .u32 bits, .int .u32 nb] : List V) ++ (intVs .u8 K.q ++ ([.vec a K.l0.length, .vec b K.l1.length, .vec c K.l2.length, .vec d K.l3.length] : List V)))) := by
    rw [List.set_append_right _ _ (by simp), show 2 + j - [V.iface 53 (.ptr z 0), .nili].length = j by simp, List.set_append_left _ _ (by simp [intVs, hb]; omega)]
    unfold intVs
    rw [List.map_set]
  rw [this]

theorem set2_take {buf : List Int} (hb : buf.length = 16) (u v : Int) : ((buf.set 0 u).set 1 v).take 2 = [u, v] := by
  match buf, hb with
  | a :: b :: r, _ => rfl
def encK (s : List Int) (hs : s.length = 128) : EncK := { q := s, l0 := lutL0, l1 := lutL1, l2 := lutL2, l3 := lutL3, hq := hs }
theorem ownR {cs : List V} {T : Nat} : (Blk.own cs T).refs = V.refsL cs := rfl
theorem vecR {k : IntKind} {xs : List Int} {T : Nat} : (Blk.vec k xs T).refs = [] := rfl
def qcl (x : Int) : Int := if x < 1 then 1 else if 100 < x then 100 else x
theorem qcl_le (x : Int) : 1 ≤ qcl x ∧ qcl x ≤ 100 := by unfold qcl; split <;> (try split) <;> omega
def jpgHd0 (w h : Nat) (gray : Bool) (s : List Int) : List Int :=
  [255, 216] ++ [255, 219, 0, 132] ++ (0 :: s.take 64) ++ (1 :: s.drop 64) ++ [255, 192, 0, 8 + 3 * (if gray then 1 else 3)] ++ sof w h (if gray then 1 else 3) ++ (if gray then dht1 else dht3)
theorem jpgHd_eq (w h : Nat) (gray : Bool) (s : List Int) : jpgHd w h gray s = jpgHd0 w h gray s ++ (if gray then sosYL else sosCL) := rfl
theorem dht_any (C : Ctx) (hP : C.P = Tryd.prog) (K : EncK) (buf : List Int) (hb : buf.length = 16) (bits nb : Int) (bytes : List Int) (ho : bytes.length ≤ 14000000) (gray : Bool) :
    VCalls C 46 [.ptr 0 0, .int .i64 (if gray then 1 else 3)] (encM K buf bits nb bytes) [2] (fun v M' => v = .tup [] ∧ M' = encM K (bufMH buf 196 (if gray then 210 else 418)) bits nb (bytes ++ if gray then dht1 else dht3)) := by
  cases gray
  · exact dht_spec3 C hP K buf hb bits nb bytes ho
  · exact dht_spec1 C hP K buf hb bits nb bytes ho
theorem sof_len (w h : Int) (n : Int) (hn : n = 1 ∨ n = 3) : (sof w h n).length ≤ 15 := by rcases hn with rfl | rfl <;> simp [sof]
end
end Go.VM
end
