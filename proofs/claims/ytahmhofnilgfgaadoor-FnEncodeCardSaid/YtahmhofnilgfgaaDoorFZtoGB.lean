/-
  A part of a machine over the model and of a walk by it, proved right against the model; proved outright, under no condition but what each theorem names.
-/
import Derived.Test.YtahmhofnilgfgaaDoorEB
import Derived.Test.YtahmhofnilgfgaaDoorFFtoFJ
import Derived.Test.YtahmhofnilgfgaaDoorFY
set_option linter.unusedVariables false
set_option linter.unusedSimpArgs false
section
set_option linter.unusedSimpArgs false
namespace Go.VM
open Go Go.Proofs

/-! Luma and chroma of red, green and blue: the encoder's and the reference's are one. -/
theorem and_hi (X : Nat) (h : X < 4294967296) : X &&& 4278190080 = X / 16777216 * 16777216 := by
  have e1 : (4278190080 : Nat) = (2 ^ 8 - 1) <<< 24 := by decide
  have e2 : X / 16777216 * 16777216 = (X >>> 24) <<< 24 := by rw [Nat.shiftLeft_eq, Nat.shiftRight_eq_div_pow]
  rw [e1, e2]
  apply Nat.eq_of_testBit_eq
  intro i
  rw [Nat.testBit_and, Nat.testBit_shiftLeft, Nat.testBit_shiftLeft, Nat.testBit_shiftRight, Nat.testBit_two_pow_sub_one]
  by_cases h24 : 24 ≤ i
  · rw [show 24 + (i - 24) = i by omega]
    by_cases h32 : i - 24 < 8
    · simp [h24, h32]
    · have : X.testBit i = false := Nat.testBit_lt_two_pow (Nat.lt_of_lt_of_le h (by
        have : 2 ^ 32 ≤ 2 ^ i := Nat.pow_le_pow_right (by omega) (by omega)
        omega))
      simp [this]
  · simp [h24]

def cutN (n : Int) : Int := if n / 65536 < 0 then 0 else if 255 < n / 65536 then 255 else n / 65536
def yccY (r g b : Int) : Int := (19595 * r + 38470 * g + 7471 * b + 32768) / 65536
def yccB (r g b : Int) : Int := cutN (-11056 * r - 21712 * g + 32768 * b + 8421376)
def yccR (r g b : Int) : Int := cutN (32768 * r - 27440 * g - 5328 * b + 8421376)
def isB (x : Int) : Prop := 0 ≤ x ∧ x ≤ 255

theorem cutN_le (n : Int) : isB (cutN n) := by
  unfold cutN isB
  split
  · omega
  · split <;> omega
theorem yccY_le {r g b : Int} (hr : isB r) (hg : isB g) (hb : isB b) : isB (yccY r g b) := by
  unfold yccY isB at *
  omega

theorem tst_hi (n : Int) (h1 : -2147483648 ≤ n) (h2 : n ≤ 2147483647) : decide (Go.bits .and .u32 (IntKind.u32.wrap n) 4278190080 = 0) = decide (0 ≤ n ∧ n < 16777216) := by
  have hw : IntKind.u32.wrap n = n % 4294967296 := by simp [IntKind.wrap, IntKind.bits, IntKind.signed]
  obtain ⟨X, hX⟩ : ∃ X : Nat, (X : Int) = n % 4294967296 := ⟨(n % 4294967296).toNat, by omega⟩
  rw [hw, ← hX, show (4278190080 : Int) = ((4278190080 : Nat) : Int) from rfl, Go.u32_and_nat _ _ (by omega) (by omega), and_hi X (by omega)]
  apply decide_eq_decide.2
  omega

theorem not_sar (n : Int) (h1 : -2147483648 ≤ n) (h2 : n ≤ 2147483647) (h : ¬ (0 ≤ n ∧ n < 16777216)) : IntKind.u8.wrap (Go.bits .xor .i32 (-1) (n / 2147483648)) = cutN n := by
  by_cases h0 : n < 0
  · have e : n / 2147483648 = -1 := by omega
    have e2 : Go.bits .xor .i32 (-1) (-1) = 0 := by decide
    rw [e, e2]
    unfold cutN
    rw [if_pos (by omega)]
    rfl
  · have e : n / 2147483648 = 0 := by omega
    have e2 : Go.bits .xor .i32 (-1) 0 = -1 := by decide
    rw [e, e2]
    unfold cutN
    rw [if_neg (by omega), if_pos (by omega)]
    rfl
theorem sar_in (n : Int) (h : 0 ≤ n ∧ n < 16777216) : IntKind.u8.wrap (n / 65536) = cutN n := by
  unfold cutN
  rw [if_neg (by omega), if_neg (by omega), wrap_u8_id (by omega) (by omega)]

section
variable (C : Ctx) (hP : C.P = Tryd.prog) (r g b : Int) (hr : isB r) (hg : isB g) (hb : isB b)

theorem rgb_spec (hP : C.P = Tryd.prog) (hr : isB r) (hg : isB g) (hb : isB b) (M : Mem) :
    VCalls C 74 [.int .u8 r, .int .u8 g, .int .u8 b] M [] (fun v M' => v = .tup [.int .u8 (yccY r g b), .int .u8 (yccB r g b), .int .u8 (yccR r g b)] ∧ M' = M) := by
  refine VCalls.of_fn (hs := kz c74) (F := F74) (by rw [hP]; exact is74) (by simp [F74]) ?_
  have hY := yccY_le hr hg hb
  unfold isB at hr hg hb hY
  have w0 : ∀ x : Int, -2147483648 ≤ x → x ≤ 2147483647 → IntKind.i32.wrap x = x := fun x h1 h2 => wrap_i32_id h1 h2
  have a1 := w0 r (by omega) (by omega)
  have a2 := w0 g (by omega) (by omega)
  have a3 := w0 b (by omega) (by omega)
  have b1 := w0 (19595 * r) (by omega) (by omega)
  have b2 := w0 (38470 * g) (by omega) (by omega)
  have b3 := w0 (19595 * r + 38470 * g) (by omega) (by omega)
  have b4 := w0 (7471 * b) (by omega) (by omega)
  have b5 := w0 (19595 * r + 38470 * g + 7471 * b) (by omega) (by omega)
  have b6 := w0 (19595 * r + 38470 * g + 7471 * b + 32768) (by omega) (by omega)
  have c1 := w0 (-11056 * r) (by omega) (by omega)
  have c2 := w0 (21712 * g) (by omega) (by omega)
  have c3 := w0 (-11056 * r - 21712 * g) (by omega) (by omega)
  have c4 := w0 (32768 * b) (by omega) (by omega)
  have c5 := w0 (-11056 * r - 21712 * g + 32768 * b) (by omega) (by omega)
  have c6 := w0 (-11056 * r - 21712 * g + 32768 * b + 8421376) (by omega) (by omega)
  have d1 := w0 (32768 * r) (by omega) (by omega)
  have d2 := w0 (27440 * g) (by omega) (by omega)
  have d3 := w0 (32768 * r - 27440 * g) (by omega) (by omega)
  have d4 := w0 (5328 * b) (by omega) (by omega)
  have d5 := w0 (32768 * r - 27440 * g - 5328 * b) (by omega) (by omega)
  have d6 := w0 (32768 * r - 27440 * g - 5328 * b + 8421376) (by omega) (by omega)
  have eY : IntKind.u8.wrap ((19595 * r + 38470 * g + 7471 * b + 32768) / 65536) = yccY r g b := wrap_u8_id hY.1 hY.2
  have eB : yccB r g b = cutN (-11056 * r - 21712 * g + 32768 * b + 8421376) := rfl
  have eR : yccR r g b = cutN (32768 * r - 27440 * g - 5328 * b + 8421376) := rfl
  have rB : -2147483648 ≤ -11056 * r - 21712 * g + 32768 * b + 8421376 ∧ -11056 * r - 21712 * g + 32768 * b + 8421376 ≤ 2147483647 := by omega
  have rR : -2147483648 ≤ 32768 * r - 27440 * g - 5328 * b + 8421376 ∧ 32768 * r - 27440 * g - 5328 * b + 8421376 ≤ 2147483647 := by omega
  have ux : ∀ n : Int, vun .xor (.int .i32 n) = some (.int .i32 (Go.bits .xor .i32 (-1) n)) := fun _ => rfl
  rw [eB, eR]
  obtain ⟨nB, hnB⟩ : ∃ n : Int, n = -11056 * r - 21712 * g + 32768 * b + 8421376 := ⟨_, rfl⟩
  obtain ⟨nR, hnR⟩ : ∃ n : Int, n = 32768 * r - 27440 * g - 5328 * b + 8421376 := ⟨_, rfl⟩
  rw [← hnB] at rB eB ⊢
  rw [← hnR] at rR eR ⊢
  have c6 : IntKind.i32.wrap (-11056 * r - 21712 * g + 32768 * b + 8421376) = nB := by rw [c6, hnB]
  have d6 : IntKind.i32.wrap (32768 * r - 27440 * g - 5328 * b + 8421376) = nR := by rw [d6, hnR]
  have k3 : ∀ x y z : Int, vres (M := M) [(6, V.int .u8 x), (7, .int .u8 y), (8, .int .u8 z)] [.tmp 6, .tmp 7, .tmp 8] = some (.tup [.int .u8 x, .int .u8 y, .int .u8 z]) := fun _ _ _ => rfl
  have tB := tst_hi nB rB.1 rB.2
  have tR := tst_hi nR rR.1 rR.2
  by_cases hB : 0 ≤ nB ∧ nB < 16777216
  · rw [decide_eq_true hB] at tB
    have sB := sar_in nB hB
    by_cases hR : 0 ≤ nR ∧ nR < 16777216
    · rw [decide_eq_true hR] at tR
      have sR := sar_in nR hR
      simp -implicitDefEqProofs only [vms, ↓reduceIte, Nat.reduceEqDiff, Nat.reduceAdd, reduceCtorEq, Nat.min_def, IntKind.bits, Nat.reduceLeDiff, Int.reducePow, Int.reduceToNat, Int.reduceLE, Int.reduceNeg, F74, c74, a1, a2, a3, b1, b2, b3, b4, b5, b6, c1, c2, c3, c4, c5, c6, d1, d2, d3, d4, d5, d6, eY, tB, tR, sB, sR, k3]
      exact retGo_refl ⟨rfl, rfl⟩
    · rw [decide_eq_false hR] at tR
      have sR := not_sar nR rR.1 rR.2 hR
      simp -implicitDefEqProofs only [vms, ↓reduceIte, Nat.reduceEqDiff, Nat.reduceAdd, reduceCtorEq, Nat.min_def, IntKind.bits, Nat.reduceLeDiff, Int.reducePow, Int.reduceToNat, Int.reduceLE, Int.reduceNeg, F74, c74, a1, a2, a3, b1, b2, b3, b4, b5, b6, c1, c2, c3, c4, c5, c6, d1, d2, d3, d4, d5, d6, eY, tB, tR, sB, sR, ux, k3]
      exact retGo_refl ⟨rfl, rfl⟩
  · rw [decide_eq_false hB] at tB
    have sB := not_sar nB rB.1 rB.2 hB
    by_cases hR : 0 ≤ nR ∧ nR < 16777216
    · rw [decide_eq_true hR] at tR
      have sR := sar_in nR hR
      simp -implicitDefEqProofs only [vms, ↓reduceIte, Nat.reduceEqDiff, Nat.reduceAdd, reduceCtorEq, Nat.min_def, IntKind.bits, Nat.reduceLeDiff, Int.reducePow, Int.reduceToNat, Int.reduceLE, Int.reduceNeg, F74, c74, a1, a2, a3, b1, b2, b3, b4, b5, b6, c1, c2, c3, c4, c5, c6, d1, d2, d3, d4, d5, d6, eY, tB, tR, sB, sR, ux, k3]
      exact retGo_refl ⟨rfl, rfl⟩
    · rw [decide_eq_false hR] at tR
      have sR := not_sar nR rR.1 rR.2 hR
      simp -implicitDefEqProofs only [vms, ↓reduceIte, Nat.reduceEqDiff, Nat.reduceAdd, reduceCtorEq, Nat.min_def, IntKind.bits, Nat.reduceLeDiff, Int.reducePow, Int.reduceToNat, Int.reduceLE, Int.reduceNeg, F74, c74, a1, a2, a3, b1, b2, b3, b4, b5, b6, c1, c2, c3, c4, c5, c6, d1, d2, d3, d4, d5, d6, eY, tB, tR, sB, sR, ux, k3]
      exact retGo_refl ⟨rfl, rfl⟩

theorem cut_spec (hP : C.P = Tryd.prog) (n : Int) (M : Mem) : VCalls C 15 [.int .i64 n] M [] (fun v M' => v = .int .u8 (cutN n) ∧ M' = M) := by
  refine VCalls.of_fn (hs := kz c15) (F := F15) (by rw [hP]; exact is15) (by simp [F15]) ?_
  have hc := cutN_le n
  have e : (if (255 : Int) < (if n / 65536 < 0 then 0 else n / 65536) then 255 else (if n / 65536 < 0 then 0 else n / 65536)) = cutN n := by
    unfold cutN
    split
    · rfl
    · rfl
  have hw : IntKind.u8.wrap (cutN n) = cutN n := wrap_u8_id hc.1 hc.2
  simp -implicitDefEqProofs only [vms, ↓reduceIte, Nat.reduceEqDiff, reduceCtorEq, Nat.min_def, IntKind.bits, Nat.reduceLeDiff, Int.reducePow, Int.reduceToNat, Int.reduceLE, F15, c15, e, hw]
  exact retGo_refl ⟨rfl, rfl⟩

theorem call15 : callable Tryd.prog 15 = true := by kernel_rfl

theorem ycc_spec (hP : C.P = Tryd.prog) (hr : isB r) (hg : isB g) (hb : isB b) (M : Mem) :
    VCalls C 9 [.int .u8 r, .int .u8 g, .int .u8 b] M [] (fun v M' => v = .tup [.int .u8 (yccY r g b), .int .u8 (yccB r g b), .int .u8 (yccR r g b)] ∧ M' = M) := by
  refine VCalls.of_fn (hs := kz c9) (F := F9) (by rw [hP]; exact is9) (by simp [F9]) ?_
  have hY := yccY_le hr hg hb
  unfold isB at hr hg hb hY
  have w0 : ∀ x : Int, -9223372036854775808 ≤ x → x ≤ 9223372036854775807 → IntKind.i64.wrap x = x := fun x h1 h2 => wrap_i64_id h1 h2
  have a1 := w0 r (by omega) (by omega)
  have a2 := w0 g (by omega) (by omega)
  have a3 := w0 b (by omega) (by omega)
  have b1 := w0 (19595 * r) (by omega) (by omega)
  have b2 := w0 (38470 * g) (by omega) (by omega)
  have b3 := w0 (19595 * r + 38470 * g) (by omega) (by omega)
  have b4 := w0 (7471 * b) (by omega) (by omega)
  have b5 := w0 (19595 * r + 38470 * g + 7471 * b) (by omega) (by omega)
  have b6 := w0 (19595 * r + 38470 * g + 7471 * b + 32768) (by omega) (by omega)
  have c1 := w0 (-11056 * r) (by omega) (by omega)
  have c2 := w0 (21712 * g) (by omega) (by omega)
  have c3 := w0 (-11056 * r - 21712 * g) (by omega) (by omega)
  have c4 := w0 (32768 * b) (by omega) (by omega)
  have c5 := w0 (-11056 * r - 21712 * g + 32768 * b) (by omega) (by omega)
  have c6 := w0 (-11056 * r - 21712 * g + 32768 * b + 8421376) (by omega) (by omega)
  have d1 := w0 (32768 * r) (by omega) (by omega)
  have d2 := w0 (27440 * g) (by omega) (by omega)
  have d3 := w0 (32768 * r - 27440 * g) (by omega) (by omega)
  have d4 := w0 (5328 * b) (by omega) (by omega)
  have d5 := w0 (32768 * r - 27440 * g - 5328 * b) (by omega) (by omega)
  have d6 := w0 (32768 * r - 27440 * g - 5328 * b + 8421376) (by omega) (by omega)
  have eY : IntKind.u8.wrap ((19595 * r + 38470 * g + 7471 * b + 32768) / 65536) = yccY r g b := wrap_u8_id hY.1 hY.2
  have k3 : ∀ x y z : Int, vres (M := M) [(6, V.int .u8 x), (7, .int .u8 y), (8, .int .u8 z)] [.tmp 6, .tmp 7, .tmp 8] = some (.tup [.int .u8 x, .int .u8 y, .int .u8 z]) := fun _ _ _ => rfl
  simp -implicitDefEqProofs only [vms, ↓reduceIte, Nat.reduceEqDiff, Nat.reduceAdd, reduceCtorEq, Nat.min_def, IntKind.bits, Nat.reduceLeDiff, Int.reducePow, Int.reduceToNat, Int.reduceLE, Int.reduceNeg, F9, c9, a1, a2, a3, b1, b2, b3, b4, b5, b6, c1, c2, c3, c4, c5, c6, eY, hP, call15]
  refine callK_of [] rfl (by simp) (cut_spec C hP _ _) ?_
  rintro _ _ ⟨rfl, rfl⟩
  simp -implicitDefEqProofs only [vms, ↓reduceIte, Nat.reduceEqDiff, Int.reduceNeg, callC, d1, d2, d3, d4, d5, d6, hP, call15]
  refine callK_of [] rfl (by simp) (cut_spec C hP _ _) ?_
  rintro _ _ ⟨rfl, rfl⟩
  simp -implicitDefEqProofs only [vms, ↓reduceIte, Nat.reduceEqDiff, Int.reduceNeg, callC, k3]
  exact retGo_refl ⟨rfl, rfl⟩
end
end Go.VM
end

section
set_option linter.unusedSimpArgs false
namespace Go.VM
open Go Go.Proofs Go.Bits

/-! A row of unknown room as a fixed block: where it is sliced. -/
def fixM (z i : Nat) (k : IntKind) (xs : List Int) (T : Nat) (rest : List V) (Tz c : Nat) (A : Mem) : Mem :=
  (A.set z (.own (.slice i 0 xs.length c :: rest) Tz)).set i (.own (intVs k xs ++ List.replicate (c - xs.length) .undef) T)

theorem fixM_get {z i : Nat} {k : IntKind} {xs : List Int} {T : Nat} {rest : List V} {Tz c : Nat} {A : Mem} (hz : z < A.length) (hi : i < A.length) (hne : z ≠ i) (j : Nat) :
    (fixM z i k xs T rest Tz c A)[j]? = if j = i then some (.own (intVs k xs ++ List.replicate (c - xs.length) .undef) T) else if j = z then some (.own (.slice i 0 xs.length c :: rest) Tz) else A[j]? := by
  unfold fixM
  rw [List.getElem?_set, List.getElem?_set]
  by_cases h1 : j = i
  · subst h1; rw [if_pos rfl, if_pos (by simpa using hi), if_pos rfl]
  · rw [if_neg (Ne.symm h1), if_neg h1]
    by_cases h2 : j = z
    · subst h2; rw [if_pos rfl, if_pos hz, if_pos rfl]
    · rw [if_neg (Ne.symm h2), if_neg h2]

theorem refsL_undef (n : Nat) : V.refsL (List.replicate n .undef) = [] := by
  induction n with
  | zero => rfl
  | succ n ih => simp [List.replicate_succ, V.refsL, V.refs, ih]

theorem VCalls.unvec {C : Ctx} {f : Nat} {vs : List V} {A A' : Mem} {mv : List Nat} {v0 : V} (z i : Nat) (k : IntKind) (xs : List Int) (T : Nat) (rest : List V) (Tz : Nat) (hAz : A[z]? = some (.own (.vec i xs.length :: rest) Tz)) (hAi : A[i]? = some (.vec k xs T)) (hne : z ≠ i) (hxs : xs ≠ []) (him : i ∉ mv)
    (hAz' : A'[z]? = some (.own (.vec i xs.length :: rest) Tz)) (hAi' : A'[i]? = some (.vec k xs T)) (hlen : A.length ≤ A'.length) (hv0 : v0.refs = [])
    (h : ∀ c, xs.length ≤ c → c ≤ maxLen → VCalls C f vs (fixM z i k xs T rest Tz c A) mv fun v M' => v = v0 ∧ M' = fixM z i k xs T rest Tz c A') : VCalls C f vs A mv fun v M' => v = v0 ∧ M' = A' := by
  intro ρ κ w hR hcl
  have hz : z < A.length := (List.getElem?_eq_some_iff.1 hAz).1
  have hi : i < A.length := (List.getElem?_eq_some_iff.1 hAi).1
  have hz' : z < A'.length := (List.getElem?_eq_some_iff.1 hAz').1
  have hi' : i < A'.length := (List.getElem?_eq_some_iff.1 hAi').1
  rcases hR.blk i _ hAi with ⟨-, hn⟩ | ⟨c, cells, hκ, hheap, hle, hmax, hsz, htk⟩
  · exact absurd hn hxs
  have lenB : ∀ A : Mem, (fixM z i k xs T rest Tz c A).length = A.length := fun A => by simp [fixM]
  have alv : ∀ (κ : Nat → Option Nat) (A : Mem), z < A.length → i < A.length → A[z]? = some (.own (.vec i xs.length :: rest) Tz) → A[i]? = some (.vec k xs T) → κ i = some c → ∀ j, alive κ (fixM z i k xs T rest Tz c A) j ↔ alive κ A j := by
    intro κ A hz hi hAz hAi hκ j
    have hg := fixM_get (k := k) (xs := xs) (T := T) (rest := rest) (Tz := Tz) (c := c) hz hi hne j
    by_cases h1 : j = i
    · subst h1
      rw [if_pos rfl] at hg
      rw [alive_of hg, alive_of hAi]
      simp [Blk.live, hκ]
    · rw [if_neg h1] at hg
      by_cases h2 : j = z
      · subst h2
        rw [if_pos rfl] at hg
        rw [alive_of hg, alive_of hAz]
        simp [Blk.live]
      · rw [if_neg h2] at hg
        unfold alive
        rw [hg]
  have refsI : ∀ (A : Mem), z < A.length → i < A.length → A[z]? = some (.own (.vec i xs.length :: rest) Tz) → ∀ (j : Nat) (b : Blk), (fixM z i k xs T rest Tz c A)[j]? = some b → ∀ r ∈ b.refs, ∃ b', A[j]? = some b' ∧ (r ∈ b'.refs) := by
    intro A hz hi hAz j b hb r hr
    rw [fixM_get hz hi hne] at hb
    split at hb
    · cases hb
      simp only [Blk.refs, refsL_append, refsL_ints, refsL_undef, List.append_nil, List.not_mem_nil] at hr
    · split at hb
      · rename_i h2
        subst h2
        cases hb
        exact ⟨_, hAz, by simpa [Blk.refs, V.refsL, V.refs] using hr⟩
      · exact ⟨b, hb, hr⟩
  -- the state, seen with the fixed block
  have hR2 : Rel C ρ κ (fixM z i k xs T rest Tz c A) w := by
    refine ⟨fun j b hb => ?_, fun a b ha hb he => hR.inj a b ((alv κ A hz hi hAz hAi hκ a).1 ha) ((alv κ A hz hi hAz hAi hκ b).1 hb) he, fun a v ha => ⟨(hR.ext a v ha).1, fun j hj => (hR.ext a v ha).2 j ((alv κ A hz hi hAz hAi hκ j).1 hj)⟩, fun j b hb r hr => ?_⟩
    · rw [fixM_get hz hi hne] at hb
      split at hb
      · rename_i h1
        subst h1
        cases hb
        refine ⟨cells, hheap, by simp [intVs_length]; omega, fun q v hq hv => ?_⟩
        by_cases hqx : q < xs.length
        · rw [List.getElem?_append_left (by simpa [intVs_length] using hqx)] at hq
          have e1 : (cells.toList.take xs.length)[q]? = (intVals k xs)[q]? := by rw [htk]
          rw [List.getElem?_take, if_pos hqx, Array.getElem?_toList] at e1
          rw [e1]
          simp only [intVs, List.getElem?_map] at hq
          simp only [intVals, List.getElem?_map]
          cases hx : xs[q]? with
          | none => rw [hx] at hq; cases hq
          | some x =>
            rw [hx] at hq
            simp only [Option.map_some, Option.some.injEq] at hq ⊢
            subst hq
            rfl
        · rw [List.getElem?_append_right (by simp [intVs_length]; omega)] at hq
          rw [List.getElem?_replicate] at hq
          split at hq
          · cases hq; exact absurd rfl hv
          · cases hq
      · split at hb
        · rename_i h2
          subst h2
          cases hb
          obtain ⟨cz, g1, g2, g3⟩ := hR.blk _ _ hAz
          refine ⟨cz, g1, by simpa using g2, fun q v hq hv => ?_⟩
          cases q with
          | zero =>
            simp only [List.getElem?_cons_zero, Option.some.injEq] at hq
            subst hq
            rw [g3 0 (.vec i xs.length) rfl (by simp)]
            simp only [V.real, hκ]
          | succ q => exact g3 (q + 1) v (by simpa using hq) hv
        · exact hR.blk j b hb
    · obtain ⟨b', hb', hr'⟩ := refsI A hz hi hAz j b hb r hr
      rw [lenB]
      exact hR.cl j b' hb' r hr'
  refine Calls.mono (h c hle hmax ρ κ w hR2 (by rw [lenB]; exact hcl)) ?_
  rintro en w' ⟨ρ', κ', v, M', he, hvc, hR', hl', hst, rfl, rfl⟩
  rw [lenB] at hl' hst
  have hag := hst.agree i ⟨hi, him⟩
  have hκ' : κ' i = some c := hag.2.trans hκ
  refine ⟨ρ', κ', v, A', he, cl_nil hv0, ?_, hlen, ?_, rfl, rfl⟩
  · refine ⟨fun j b hb => ?_, fun a b ha hb he => hR'.inj a b ((alv κ' A' hz' hi' hAz' hAi' hκ' a).2 ha) ((alv κ' A' hz' hi' hAz' hAi' hκ' b).2 hb) he, fun a v ha => ⟨(hR'.ext a v ha).1, fun j hj => (hR'.ext a v ha).2 j ((alv κ' A' hz' hi' hAz' hAi' hκ' j).2 hj)⟩, fun j b hb r hr => ?_⟩
    · have hg := fixM_get (k := k) (xs := xs) (T := T) (rest := rest) (Tz := Tz) (c := c) hz' hi' hne j
      by_cases h1 : j = i
      · subst h1
        rw [if_pos rfl] at hg
        rw [hAi'] at hb
        cases hb
        obtain ⟨cs, g1, g2, g3⟩ := hR'.blk _ _ hg
        have gs : cs.size = c := by rw [g2]; simp [intVs_length]; omega
        refine .inr ⟨c, cs, hκ', g1, hle, hmax, gs, ?_⟩
        apply List.ext_getElem?
        intro q
        rw [List.getElem?_take]
        split
        · rename_i hq
          have := g3 q (.int k (gI xs q)) (by rw [List.getElem?_append_left (by simpa [intVs_length] using hq), intVs_get _ _ _ hq]) (by simp)
          rw [Array.getElem?_toList, this]
          simp [intVals, gI, hq, V.real]
        · rename_i hq
          rw [List.getElem?_eq_none (by simp [intVals]; omega)]
      · rw [if_neg h1] at hg
        by_cases h2 : j = z
        · subst h2
          rw [if_pos rfl] at hg
          rw [hAz'] at hb
          cases hb
          obtain ⟨cz, g1, g2, g3⟩ := hR'.blk _ _ hg
          refine ⟨cz, g1, by simpa using g2, fun q v hq hv => ?_⟩
          cases q with
          | zero =>
            simp only [List.getElem?_cons_zero, Option.some.injEq] at hq
            subst hq
            rw [g3 0 (.slice i 0 xs.length c) rfl (by simp)]
            simp only [V.real, hκ']
          | succ q => exact g3 (q + 1) v (by simpa using hq) hv
        · rw [if_neg h2] at hg
          exact hR'.blk j b (by rw [hg]; exact hb)
    · have hg := fixM_get (k := k) (xs := xs) (T := T) (rest := rest) (Tz := Tz) (c := c) hz' hi' hne j
      rw [← lenB A']
      by_cases h1 : j = i
      · subst h1
        rw [hAi'] at hb
        cases hb
        simp [Blk.refs] at hr
      · rw [if_neg h1] at hg
        by_cases h2 : j = z
        · subst h2
          rw [if_pos rfl] at hg
          rw [hAz'] at hb
          cases hb
          exact hR'.cl _ _ hg r (by simpa [Blk.refs, V.refsL, V.refs] using hr)
        · rw [if_neg h2] at hg
          exact hR'.cl j b (by rw [hg]; exact hb) r hr
  · refine ⟨hst.os, hst.tape, hst.output, hst.size, fun r hr hn => hst.keep r hr fun j hj => hn j ((alv κ A hz hi hAz hAi hκ j).1 hj), fun j hj => ?_, hst.agree⟩
    rcases hst.own j ((alv κ' A' hz' hi' hAz' hAi' hκ' j).2 hj) with ⟨q, hq, e⟩ | hge
    · exact .inl ⟨q, (alv κ A hz hi hAz hAi hκ q).1 hq, e⟩
    · exact .inr hge
end Go.VM
end

section
set_option linter.unusedSimpArgs false
namespace Go.VM
open Go Go.Proofs Go.Bits

/-! The encoder's blocks of a picture: red, green and blue. -/

def FB (px : Nat → Nat → Nat → Int) (w h x y k : Nat) (t : Nat) : Int := px k (mn (x + t % 8) (w - 1)) (mn (y + t / 8) (h - 1))

def RM (T w h c : Nat) (pix blk cb cr : List Int) (x y : Nat) : Mem :=
  [.own (.slice 1 0 pix.length c :: .int .i64 (4 * w : Nat) :: imgR w h) T, .own (intVs .u8 pix ++ List.replicate (c - pix.length) .undef) 5, .ints .i32 blk 146, .ints .i32 cb 147, .ints .i32 cr 147, .own [.int .i64 x, .int .i64 y] 87, .own (imgR w h) 89]

structure RgbOk (w h : Nat) (pix : List Int) (px : Nat → Nat → Nat → Int) : Prop where
  len : pix.length = 4 * (w * h)
  b : ∀ i, isB (gI pix i)
  p0 : ∀ x y, x < w → y < h → px 0 x y = yccY (gI pix (4 * (y * w + x))) (gI pix (4 * (y * w + x) + 1)) (gI pix (4 * (y * w + x) + 2))
  p1 : ∀ x y, x < w → y < h → px 1 x y = yccB (gI pix (4 * (y * w + x))) (gI pix (4 * (y * w + x) + 1)) (gI pix (4 * (y * w + x) + 2))
  p2 : ∀ x y, x < w → y < h → px 2 x y = yccR (gI pix (4 * (y * w + x))) (gI pix (4 * (y * w + x) + 1)) (gI pix (4 * (y * w + x) + 2))

section
variable (C : Ctx) (w h : Nat)
theorem rgb_in (hP : C.P = Tryd.prog) (T c : Nat) (hw : 0 < w ∧ w ≤ 40) (hh : 0 < h ∧ h ≤ 40) (pix : List Int) (px : Nat → Nat → Nat → Int) (hpx : RgbOk w h pix px) (hc : pix.length ≤ c)
    (blk cb cr : List Int) (hbl : blk.length = 64) (hcb : cb.length = 256) (hcr : cr.length = 256) (o : Nat) (ho : o + 64 ≤ 256) (x y : Nat) (hx : x < 60) (hy : y < 60) (j : Nat) (hj : j < 8) (Q : VX → Env → Mem → Prop) :
    ∀ (d i : Nat), i + d = 8 →
      (∀ l : Env, Q (.exit 2) ((0, .ptr 0 0) :: (2, .ptr 2 0) :: (3, .ptr 3 o) :: (4, .ptr 4 o) :: (6, .ptr 5 0) :: (10, .ptr 6 0) :: (11, .int .i64 (w - 1 : Nat)) :: (12, .int .i64 (h - 1 : Nat)) :: (13, .int .i64 j) :: l)
        (RM T w h c pix (curO blk 0 (FB px w h x y 0) (8 * j + 8)) (curO cb o (FB px w h x y 1) (8 * j + 8)) (curO cr o (FB px w h x y 2) (8 * j + 8)) x y)) →
      VRounds 5 (VWp C 5 [] c63l0) (d + 1) [(0, .ptr 0 0), (2, .ptr 2 0), (3, .ptr 3 o), (4, .ptr 4 o), (6, .ptr 5 0), (10, .ptr 6 0), (11, .int .i64 (w - 1 : Nat)), (12, .int .i64 (h - 1 : Nat)), (13, .int .i64 j), (15, .int .i64 (mn (y + j) (h - 1) * (4 * w) : Nat)), (16, .int .i64 i)]
        (RM T w h c pix (curO blk 0 (FB px w h x y 0) (8 * j + i)) (curO cb o (FB px w h x y 1) (8 * j + i)) (curO cr o (FB px w h x y 2) (8 * j + i)) x y) Q := by
  intro d
  induction d with
  | zero =>
    intro i hi hQ
    refine round_gen fun K1 hK1 => ?_
    have h8 : i = 8 := by omega
    subst h8
    simp -implicitDefEqProofs only [vms, ↓reduceIte, Nat.reduceEqDiff, reduceCtorEq, natCast_lit, Int.reduceLT, c63l0]
    rw [hK1]
    exact hQ _
  | succ d ih =>
    intro i hi hQ
    refine round_gen fun K1 hK1 => ?_
    have hd : decide ((i : Int) < 8) = true := by simp; omega
    have hwi : IntKind.i64.wrap ((i : Int) + 1) = ((i + 1 : Nat) : Int) := by rw [wrap_i64_id (by omega) (by omega)]; rfl
    have wx : IntKind.i64.wrap ((x : Int) + (i : Int)) = ((x + i : Nat) : Int) := by rw [wrap_i64_id (by omega) (by omega)]; omega
    have main : ∀ (s : Nat) (l : Env), s = mn (x + i) (w - 1) → VWp C 5 [] c63t ((0, .ptr 0 0) :: (2, .ptr 2 0) :: (3, .ptr 3 o) :: (4, .ptr 4 o) :: (6, .ptr 5 0) :: (10, .ptr 6 0) :: (11, .int .i64 (w - 1 : Nat)) :: (12, .int .i64 (h - 1 : Nat)) :: (13, .int .i64 j) :: (15, .int .i64 (mn (y + j) (h - 1) * (4 * w) : Nat)) :: (16, .int .i64 i) :: (17, .int .i64 s) :: l)
        (RM T w h c pix (curO blk 0 (FB px w h x y 0) (8 * j + i)) (curO cb o (FB px w h x y 1) (8 * j + i)) (curO cr o (FB px w h x y 2) (8 * j + i)) x y)
        (blockK 3 (seqV C 5 [] (.reg [.op none (some 61) (.mov (.t 16)), .op none (some 62) (.bin .add (.t 61) (.c (.int .i64 1))), .op none (some 16) (.mov (.t 62))] [0, 2, 3, 4, 6, 10, 11, 12, 13, 15, 16]) K1)) := by
      intro s l hs
      have hxl := mn_le (x + i) (w - 1)
      have hyl := mn_le (y + j) (h - 1)
      rw [← hs] at hxl
      generalize hS : mn (y + j) (h - 1) = sj at *
      have hlt : sj * w + s < w * h := idx_lt (by omega) (by omega)
      have hwh : w * h ≤ 40 * 40 := Nat.mul_le_mul hw.2 hh.2
      have hpl := hpx.len
      have e4w : sj * (4 * w) = 4 * (sj * w) := by rw [← Nat.mul_assoc, Nat.mul_comm sj 4, Nat.mul_assoc]
      have hb0 := hpx.b (4 * (sj * w + s))
      have hb1 := hpx.b (4 * (sj * w + s) + 1)
      have hb2 := hpx.b (4 * (sj * w + s) + 2)
      have q0 := hpx.p0 s sj (by omega) (by omega)
      have q1 := hpx.p1 s sj (by omega) (by omega)
      have q2 := hpx.p2 s sj (by omega) (by omega)
      have v0 : px 0 s sj = FB px w h x y 0 (8 * j + i) := by simp only [FB]; rw [show (8 * j + i) % 8 = i by omega, show (8 * j + i) / 8 = j by omega, hS, ← hs]
      have v1 : px 1 s sj = FB px w h x y 1 (8 * j + i) := by simp only [FB]; rw [show (8 * j + i) % 8 = i by omega, show (8 * j + i) / 8 = j by omega, hS, ← hs]
      have v2 : px 2 s sj = FB px w h x y 2 (8 * j + i) := by simp only [FB]; rw [show (8 * j + i) % 8 = i by omega, show (8 * j + i) / 8 = j by omega, hS, ← hs]
      have w4 : IntKind.i64.wrap ((s : Int) * 4) = ((s * 4 : Nat) : Int) := by rw [wrap_i64_id (by omega) (by omega)]; omega
      have w5 : IntKind.i64.wrap (((sj * (4 * w) : Nat) : Int) + ((s * 4 : Nat) : Int)) = ((4 * (sj * w + s) : Nat) : Int) := by rw [wrap_i64_id (by omega) (by omega)]; omega
      generalize sj * w + s = I at *
      have hsl : vsliceS 1 (some (.int .i64 ((4 * I : Nat) : Int))) none none (.slice 1 0 pix.length c) = some (.slice 1 (4 * I) (pix.length - 4 * I) (c - 4 * I)) := by
        have : ¬ (c = 4 * I) := by omega
        have h2 : (4 * I : Int) ≤ (pix.length : Int) := by omega
        have h0 : (0 : Int) ≤ 4 * (I : Int) := by omega
        have h3 : (4 * (I : Int)).toNat = 4 * I := by omega
        simp [vsliceS, vbounds, vbound, this, h2, h0, h3]
      have ix : ∀ (M : Mem) (q : Nat), q < 3 → vidxS M 1 (.slice 1 (4 * I) (pix.length - 4 * I) (c - 4 * I)) (.int .i64 (q : Int)) = some (.ptr 1 (4 * I + q)) := fun M q hq => by
        rw [vidxS_slice (by omega) (by omega), Int.toNat_natCast, Nat.mul_one]
      have i0 := fun M => ix M 0 (by omega)
      have i1 := fun M => ix M 1 (by omega)
      have i2 := fun M => ix M 2 (by omega)
      simp only [natCast_lit, Nat.add_zero] at i0 i1 i2
      have ld : ∀ q, q < 3 → (intVs .u8 pix ++ List.replicate (c - pix.length) V.undef)[4 * I + q]? = some (.int .u8 (gI pix (4 * I + q))) := fun q hq => by
        rw [List.getElem?_append_left (by rw [intVs_length]; omega), intVs_get _ _ _ (by omega)]
      have l0 := ld 0 (by omega)
      have l1 := ld 1 (by omega)
      have l2 := ld 2 (by omega)
      rw [Nat.add_zero] at l0
      simp -implicitDefEqProofs only [vms, ↓reduceIte, Nat.reduceEqDiff, reduceCtorEq, c63t, RM, w4, w5, hsl, i0, i1, i2, l0, l1, l2]
      refine callK_of [] rfl (by simp) (rgb_spec C _ _ _ hP hb0 hb1 hb2 _) ?_
      rintro _ _ ⟨rfl, rfl⟩
      rw [← q0, ← q1, ← q2, v0, v1, v2]
      have k0 : ∀ a b c : V, a.known = true → tupGo 0 (.tup [a, b, c]) = some a := fun a b c h => tupGo_tup rfl h
      have t0 : ∀ a b c : Int, tupGo 0 (.tup [.int .u8 a, .int .u8 b, .int .u8 c]) = some (.int .u8 a) := fun _ _ _ => rfl
      have t1 : ∀ a b c : Int, tupGo 1 (.tup [.int .u8 a, .int .u8 b, .int .u8 c]) = some (.int .u8 b) := fun _ _ _ => rfl
      have t2 : ∀ a b c : Int, tupGo 2 (.tup [.int .u8 a, .int .u8 b, .int .u8 c]) = some (.int .u8 c) := fun _ _ _ => rfl
      have r0 : isB (FB px w h x y 0 (8 * j + i)) := by rw [← v0, q0]; exact yccY_le hb0 hb1 hb2
      have r1 : isB (FB px w h x y 1 (8 * j + i)) := by rw [← v1, q1]; exact cutN_le _
      have r2 : isB (FB px w h x y 2 (8 * j + i)) := by rw [← v2, q2]; exact cutN_le _
      unfold isB at r0 r1 r2
      have c0 : IntKind.i32.wrap (FB px w h x y 0 (8 * j + i)) = FB px w h x y 0 (8 * j + i) := wrap_i32_id (by omega) (by omega)
      have c1 : IntKind.i32.wrap (FB px w h x y 1 (8 * j + i)) = FB px w h x y 1 (8 * j + i) := wrap_i32_id (by omega) (by omega)
      have c2 : IntKind.i32.wrap (FB px w h x y 2 (8 * j + i)) = FB px w h x y 2 (8 * j + i) := wrap_i32_id (by omega) (by omega)
      have w8 : IntKind.i64.wrap (8 * (j : Int)) = ((8 * j : Nat) : Int) := by rw [wrap_i64_id (by omega) (by omega)]; omega
      have w9 : IntKind.i64.wrap (((8 * j : Nat) : Int) + (i : Int)) = ((8 * j + i : Nat) : Int) := by rw [wrap_i64_id (by omega) (by omega)]; omega
      have ia : ∀ b o, vidxA 64 1 (.ptr b o) (.int .i64 ((8 * j + i : Nat) : Int)) = some (.ptr b (o + (8 * j + i))) := fun b o => by rw [vidxA_ptr (by omega) (by omega), Int.toNat_natCast, Nat.mul_one]
      have pb : ∀ (N : Mem) (b : Nat) (l : List Int) (o' k T : Nat), o' + (8 * j + i) < l.length → putB N b (o' + (8 * j + i)) (.int .i32 (FB px w h x y k (8 * j + i))) (some (.ints .i32 (curO l o' (FB px w h x y k) (8 * j + i)) T)) = some (.undef, N.set b (.ints .i32 (curO l o' (FB px w h x y k) (8 * j + i + 1)) T)) := fun N b l o' k T hl => by
        rw [putB_ints (by rw [curO_len]; exact hl), curO_set l o' _ _ hl]
      have pb0 := fun N => pb N 2 blk 0 0 146 (by omega)
      have pb1 := fun N => pb N 3 cb o 1 147 (by omega)
      have pb2 := fun N => pb N 4 cr o 2 147 (by omega)
      have ia0 := ia 2 0
      rw [Nat.zero_add] at ia0
      simp only [Nat.zero_add] at pb0
      simp -implicitDefEqProofs only [vms, ↓reduceIte, Nat.reduceEqDiff, reduceCtorEq, callC, t0, t1, t2, c0, c1, c2, w8, w9, ia0, ia 3 o, ia 4 o, pb0, pb1, pb2, hwi]
      rw [hK1, roundK_normal]
      exact ih (i + 1) (by omega) hQ
    simp -implicitDefEqProofs only [vms, ↓reduceIte, Nat.reduceEqDiff, reduceCtorEq, c63l0, hd, RM, wx]
    apply condGo_dec <;> intro hgt
    · simp -implicitDefEqProofs only [vms, ↓reduceIte, Nat.reduceEqDiff, reduceCtorEq]
      exact main _ _ (by unfold mn; omega)
    · simp -implicitDefEqProofs only [vms]
      exact main _ _ (by unfold mn; omega)

theorem rgb_out (hP : C.P = Tryd.prog) (T c : Nat) (hw : 0 < w ∧ w ≤ 40) (hh : 0 < h ∧ h ≤ 40) (pix : List Int) (px : Nat → Nat → Nat → Int) (hpx : RgbOk w h pix px) (hc : pix.length ≤ c)
    (blk cb cr : List Int) (hbl : blk.length = 64) (hcb : cb.length = 256) (hcr : cr.length = 256) (o : Nat) (ho : o + 64 ≤ 256) (x y : Nat) (hx : x < 60) (hy : y < 60) (Q : VX → Env → Mem → Prop) :
    ∀ (d j : Nat), j + d = 8 →
      (∀ l : Env, Q (.exit 0) l (RM T w h c pix (curO blk 0 (FB px w h x y 0) 64) (curO cb o (FB px w h x y 1) 64) (curO cr o (FB px w h x y 2) 64) x y)) →
      VRounds 5 (VWp C 5 [] c63l1) (d + 1) [(0, .ptr 0 0), (2, .ptr 2 0), (3, .ptr 3 o), (4, .ptr 4 o), (6, .ptr 5 0), (10, .ptr 6 0), (11, .int .i64 (w - 1 : Nat)), (12, .int .i64 (h - 1 : Nat)), (13, .int .i64 j)]
        (RM T w h c pix (curO blk 0 (FB px w h x y 0) (8 * j)) (curO cb o (FB px w h x y 1) (8 * j)) (curO cr o (FB px w h x y 2) (8 * j)) x y) Q := by
  intro d
  induction d with
  | zero =>
    intro j hi hQ
    refine round_gen fun K1 hK1 => ?_
    have h8 : j = 8 := by omega
    subst h8
    simp -implicitDefEqProofs only [vms, ↓reduceIte, Nat.reduceEqDiff, reduceCtorEq, natCast_lit, Int.reduceLT, Nat.reduceMul, c63l1]
    rw [hK1]
    exact hQ _
  | succ d ih =>
    intro j hi hQ
    refine round_gen fun K1 hK1 => ?_
    have hd : decide ((j : Int) < 8) = true := by simp; omega
    have hwi : IntKind.i64.wrap ((j : Int) + 1) = ((j + 1 : Nat) : Int) := by rw [wrap_i64_id (by omega) (by omega)]; rfl
    have wy : IntKind.i64.wrap ((y : Int) + (j : Int)) = ((y + j : Nat) : Int) := by rw [wrap_i64_id (by omega) (by omega)]; omega
    have main : ∀ (s : Nat) (l : Env), s = mn (y + j) (h - 1) → VWp C 5 [] c63u ((0, .ptr 0 0) :: (2, .ptr 2 0) :: (3, .ptr 3 o) :: (4, .ptr 4 o) :: (6, .ptr 5 0) :: (10, .ptr 6 0) :: (11, .int .i64 (w - 1 : Nat)) :: (12, .int .i64 (h - 1 : Nat)) :: (13, .int .i64 j) :: (14, .int .i64 s) :: l)
        (RM T w h c pix (curO blk 0 (FB px w h x y 0) (8 * j)) (curO cb o (FB px w h x y 1) (8 * j)) (curO cr o (FB px w h x y 2) (8 * j)) x y)
        (blockK 1 (seqV C 5 [] (.reg [.op none (some 34) (.mov (.t 13)), .op none (some 35) (.bin .add (.t 34) (.c (.int .i64 1))), .op none (some 13) (.mov (.t 35))] [0, 2, 3, 4, 6, 10, 11, 12, 13]) K1)) := by
      intro s l hs
      have hyl := mn_le (y + j) (h - 1)
      have hsw : s * (4 * w) ≤ 40 * 160 := Nat.mul_le_mul (by omega) (by omega)
      have e1 : IntKind.i64.wrap ((s : Int) - 0) = (s : Int) := by rw [wrap_i64_id (by omega) (by omega)]; omega
      have e2 : IntKind.i64.wrap ((s : Int) * ((4 * w : Nat) : Int)) = ((s * (4 * w) : Nat) : Int) := by
        have : (s : Int) * ((4 * w : Nat) : Int) = ((s * (4 * w) : Nat) : Int) := by simp
        rw [this, wrap_i64_id (by omega) (by omega)]
      have e3 : IntKind.i64.wrap (((s * (4 * w) : Nat) : Int) - 0) = ((s * (4 * w) : Nat) : Int) := by rw [wrap_i64_id (by omega) (by omega)]; omega
      have g0 : (imgR w h)[0]? = some (.int .i64 0) := rfl
      have g1 : (imgR w h)[1]? = some (.int .i64 0) := rfl
      simp -implicitDefEqProofs only [vms, ↓reduceIte, Nat.reduceEqDiff, reduceCtorEq, Int.reduceLE, Int.reduceMul, Int.reduceNeg, wl64, c63u, RM, g0, g1, e1, e2, e3]
      apply VWp_loop_of (k := 9)
      rw [hs]
      refine rgb_in C w h hP T c hw hh pix px hpx hc blk cb cr hbl hcb hcr o ho x y hx hy j (by omega) _ 8 0 rfl ?_
      intro l
      simp -implicitDefEqProofs only [vms, ↓reduceIte, Nat.reduceEqDiff, reduceCtorEq, hwi]
      rw [hK1, roundK_normal]
      have := ih (j + 1) (by omega) hQ
      rwa [show 8 * (j + 1) = 8 * j + 8 by omega] at this
    simp -implicitDefEqProofs only [vms, ↓reduceIte, Nat.reduceEqDiff, reduceCtorEq, c63l1, hd, RM, wy]
    apply condGo_dec <;> intro hgt
    · simp -implicitDefEqProofs only [vms, ↓reduceIte, Nat.reduceEqDiff, reduceCtorEq]
      exact main _ _ (by unfold mn; omega)
    · simp -implicitDefEqProofs only [vms]
      exact main _ _ (by unfold mn; omega)

theorem rgb_fix (hP : C.P = Tryd.prog) (T c : Nat) (hw : 0 < w ∧ w ≤ 40) (hh : 0 < h ∧ h ≤ 40) (pix : List Int) (px : Nat → Nat → Nat → Int) (hpx : RgbOk w h pix px) (hc : pix.length ≤ c)
    (blk cb cr : List Int) (hbl : blk.length = 64) (hcb : cb.length = 256) (hcr : cr.length = 256) (o : Nat) (ho : o + 64 ≤ 256) (x y : Nat) (hx : x < 60) (hy : y < 60) :
    VCalls C 63 [.ptr 0 0, .agg [.int .i64 x, .int .i64 y], .ptr 2 0, .ptr 3 o, .ptr 4 o] ((RM T w h c pix blk cb cr x y).take 5) []
      (fun v M' => v = .tup [] ∧ M' = (RM T w h c pix (blkAt px 0 w h x y) (curO cb o (FB px w h x y 1) 64) (curO cr o (FB px w h x y 2) 64) x y).take 5) := by
  refine VCalls.of_fn (hs := h63) (F := F63) (by rw [hP]; exact is63) (by simp [F63]) ?_
  have vb : vbox 87 (.agg [.int .i64 x, .int .i64 y]) = some (.own [.int .i64 x, .int .i64 y] 87) := rfl
  have ao : ((imgR w h).all V.one) = true := rfl
  have il : (imgR w h).length = 4 := rfl
  have i2 : (imgR w h)[2]? = some (.int .i64 w) := rfl
  have i3 : (imgR w h)[3]? = some (.int .i64 h) := rfl
  have ww : IntKind.i64.wrap ((w : Int) - 1) = ((w - 1 : Nat) : Int) := by rw [wrap_i64_id (by omega) (by omega)]; omega
  have wh : IntKind.i64.wrap ((h : Int) - 1) = ((h - 1 : Nat) : Int) := by rw [wrap_i64_id (by omega) (by omega)]; omega
  have hcl : ∀ blk cb cr : List Int, memCl 5 ((RM T w h c pix blk cb cr x y).take 5) = true := fun _ _ _ => by
    simp only [RM, memCl, List.take_succ_cons, List.take_zero, List.all_cons, List.all_nil, Blk.refs, refsL_append, refsL_ints, refsL_undef, V.refsL, V.refs, imgR]
    rfl
  have b1 : VCalls C 73 [.ptr 0 0] ((RM T w h c pix blk cb cr x y).take 6) [] (fun v M' => v = .agg (imgR w h) ∧ M' = (RM T w h c pix blk cb cr x y).take 6) := by
    refine VCalls.of_fn (hs := kz c73) (F := F73) (by rw [hP]; exact is73) (by simp [F73]) ?_
    have rr : rangeB (some (.own (.slice 1 0 pix.length c :: .int .i64 (4 * w : Nat) :: imgR w h) T)) 2 4 = some (.agg (imgR w h)) := rfl
    have rr2 : rangeB (some (.own (imgR w h) 89)) 0 4 = some (.agg (imgR w h)) := rfl
    simp -implicitDefEqProofs only [vms, ↓reduceIte, Nat.reduceEqDiff, Nat.reduceAdd, reduceCtorEq, F73, c73, RM, List.take_succ_cons, List.take_zero, range_eqB, rr, stGo_putA, putA_own, ao, il, rr2]
    refine retGo_take 6 (Nat.le_refl _) (by simp) rfl ?_ ⟨rfl, rfl⟩
    simp only [memCl, List.take_succ_cons, List.take_zero, List.all_cons, List.all_nil, Blk.refs, refsL_append, refsL_ints, refsL_undef, V.refsL, V.refs, imgR]
    rfl
  simp -implicitDefEqProofs only [vms, ↓reduceIte, Nat.reduceEqDiff, Nat.reduceAdd, reduceCtorEq, F63, c63, RM, List.take_succ_cons, List.take_zero, vb]
  refine callK_of [] rfl (by simp) b1 ?_
  rintro _ _ ⟨rfl, rfl⟩
  simp -implicitDefEqProofs only [vms, ↓reduceIte, Nat.reduceEqDiff, Nat.reduceAdd, reduceCtorEq, callC, RM, List.take_succ_cons, List.take_zero, stGo_putA, putA_own, ao, il, i2, i3, ww, wh]
  apply VWp_loop_of (k := 9)
  have := rgb_out C w h hP T c hw hh pix px hpx hc blk cb cr hbl hcb hcr o ho x y hx hy
  have t := this (blockK 0 (fnPost 5 [] fun v M' => v = .tup [] ∧ M' = (RM T w h c pix (blkAt px 0 w h x y) (curO cb o (FB px w h x y 1) 64) (curO cr o (FB px w h x y 2) 64) x y).take 5)) 8 0 rfl ?_
  · rw [Nat.mul_zero, curO_zero, curO_zero, curO_zero] at t
    exact t
  · intro l
    rw [curO_all _ _ _ hbl]
    simp -implicitDefEqProofs only [vms, vres_nil]
    exact retGo_take 5 (Nat.le_refl _) (by simp [RM]) rfl (hcl _ _ _) ⟨rfl, rfl⟩

def RV (T w h : Nat) (pix blk cb cr : List Int) : Mem := [imgB T 1 pix.length w h (4 * w), .vec .u8 pix 5, .ints .i32 blk 146, .ints .i32 cb 147, .ints .i32 cr 147]

theorem rgba_spec (hP : C.P = Tryd.prog) (T : Nat) (hw : 0 < w ∧ w ≤ 40) (hh : 0 < h ∧ h ≤ 40) (pix : List Int) (px : Nat → Nat → Nat → Int) (hpx : RgbOk w h pix px)
    (blk cb cr : List Int) (hbl : blk.length = 64) (hcb : cb.length = 256) (hcr : cr.length = 256) (o : Nat) (ho : o + 64 ≤ 256) (x y : Nat) (hx : x < 60) (hy : y < 60) :
    VCalls C 63 [.ptr 0 0, .agg [.int .i64 x, .int .i64 y], .ptr 2 0, .ptr 3 o, .ptr 4 o] (RV T w h pix blk cb cr) []
      (fun v M' => v = .tup [] ∧ M' = RV T w h pix (blkAt px 0 w h x y) (curO cb o (FB px w h x y 1) 64) (curO cr o (FB px w h x y 2) 64)) := by
  have hne : pix ≠ [] := by
    intro he
    have := hpx.len
    rw [he] at this
    have h1 : 1 * 1 ≤ w * h := Nat.mul_le_mul hw.1 hh.1
    simp at this
    omega
  refine VCalls.unvec 0 1 .u8 pix 5 (.int .i64 (4 * w : Nat) :: imgR w h) T rfl rfl (by decide) hne (by simp) rfl rfl (Nat.le_refl _) rfl ?_
  intro c hc _
  exact rgb_fix C w h hP T c hw hh pix px hpx hc blk cb cr hbl hcb hcr o ho x y hx hy
end
end Go.VM
end
