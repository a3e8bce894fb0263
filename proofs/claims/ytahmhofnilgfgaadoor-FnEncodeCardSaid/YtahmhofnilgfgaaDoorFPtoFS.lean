/-
  A part of a machine over the model and of a walk by it, proved right against the model; proved outright, under no condition but what each theorem names.
-/
import Derived.Test.YtahmhofnilgfgaaDoorFMtoFO
set_option linter.unusedVariables false
set_option linter.unusedSimpArgs false
section
set_option linter.unusedSimpArgs false
namespace Go.VM
open Go Go.Proofs Go.Bits

/-! The reference's tables by quality; a segment. -/
def putP (M : Mem) (n b : Nat) (k : IntKind) (ys : List Int) : Option Blk → Option (V × Mem)
  | some (.ints k' xs T) => if k = k' ∧ n = ys.length ∧ ys.length = xs.length then some (.undef, M.set b (.ints k ys T)) else stGo M n (.ints k ys) (.ptr b 0)
  | _ => stGo M n (.ints k ys) (.ptr b 0)
theorem stGo_putP {M : Mem} {n b : Nat} {k : IntKind} {ys : List Int} : stGo M n (.ints k ys) (.ptr b 0) = putP M n b k ys M[b]? := by
  unfold putP
  split
  · rename_i k' xs T h
    split
    · rename_i hc
      obtain ⟨rfl, h1, h2⟩ := hc
      exact (stGo_all h h1 h2)
    · rfl
  · rfl
theorem putP_ints {M : Mem} {n b T : Nat} {k : IntKind} {ys xs : List Int} (h1 : n = ys.length) (h2 : ys.length = xs.length) : putP M n b k ys (some (.ints k xs T)) = some (.undef, M.set b (.ints k ys T)) := by
  simp only [putP, h1, h2, and_self, if_true]
theorem rep_len64 (x : Int) : (List.replicate 64 x).length = 64 := by simp only [List.length_replicate]

def byQ (q : Int) : Int := if q < 50 then 5000 / q else 200 - 2 * q
def clampQ (x : Int) : Int := if x < 1 then 1 else if 255 < x then 255 else x
def qv (b q : Int) : Int := clampQ ((b * byQ q + 50) / 100)
def baseL (ch : Bool) : List Int := if ch then ba1L else ba0L
def scaledF (ch : Bool) (q : Int) (j : Nat) : Int := qv (gI (baseL ch) (gI zzL j).toNat) q
def scaledL (ch : Bool) (q : Int) : List Int := (List.range 64).map (scaledF ch q)
theorem scaledL_len (ch : Bool) (q : Int) : (scaledL ch q).length = 64 := by simp [scaledL]
theorem clampQ_le (x : Int) : 1 ≤ clampQ x ∧ clampQ x ≤ 255 := by
  unfold clampQ
  split
  · omega
  · split <;> omega
theorem scaledL_le (ch : Bool) (q : Int) (j : Nat) (hj : j < 64) : 1 ≤ gI (scaledL ch q) j ∧ gI (scaledL ch q) j ≤ 255 := by
  unfold scaledL
  rw [gI_map hj]
  exact clampQ_le _

theorem base_check : ([false, true].all fun ch => (List.range 64).all fun j => decide (0 ≤ gI (baseL ch) j ∧ gI (baseL ch) j ≤ 255)) = true := by kernel_rfl
theorem base_le (ch : Bool) (j : Nat) (hj : j < 64) : 0 ≤ gI (baseL ch) j ∧ gI (baseL ch) j ≤ 255 := by
  have h := List.all_eq_true.1 (List.all_eq_true.1 base_check ch (by cases ch <;> simp)) j (by simpa using hj)
  exact of_decide_eq_true h
theorem baseL_len (ch : Bool) : (baseL ch).length = 64 := by cases ch <;> rfl
theorem byQ_le (q : Int) (h1 : 1 ≤ q) (h2 : q ≤ 100) : 0 ≤ byQ q ∧ byQ q ≤ 5000 := by
  unfold byQ
  split
  · have := Int.ediv_nonneg (a := 5000) (b := q) (by omega) (by omega)
    have := Int.ediv_le_self (b := q) (a := 5000) (by omega)
    omega
  · omega
theorem clamp_mm (x : Int) : (if (255 : Int) < (if x < 1 then 1 else x) then 255 else (if x < 1 then 1 else x)) = clampQ x := by
  unfold clampQ
  split
  · rfl
  · rfl

theorem scaled_loop (C : Ctx) (ch : Bool) (q : Int) (h1 : 1 ≤ q) (h2 : q ≤ 100) (A : Blk) (Q : VX → Env → Mem → Prop) : ∀ (d j : Nat) (e : Env), j + d = 64 → e.get 4 = .ptr 0 0 → e.get 5 = .int .i64 (byQ q) → e.get 6 = .ptr 1 0 → e.get 7 = .ptr 2 0 → e.get 8 = .ptr 3 0 → e.get 21 = .int .i64 j →
    (∀ e' : Env, e'.get 4 = .ptr 0 0 → e'.get 8 = .ptr 3 0 → Q (.exit 0) e' [A, .ints .i64 (baseL ch) 60, .ints .i64 zzL 60, .ints .i64 (scaledL ch q) 60]) →
    VRounds 0 (VWp C 0 [] c19l0) (d + 1) e [A, .ints .i64 (baseL ch) 60, .ints .i64 zzL 60, .ints .i64 (cur 64 (scaledF ch q) j) 60] Q := by
  intro d
  induction d with
  | zero =>
    intro j e hj g4 g5 g6 g7 g8 g21 hQ
    refine round_gen fun K1 hK1 => ?_
    have hj' : j = 64 := by omega
    subst hj'
    have hd : decide (((64 : Nat) : Int) < 64) = false := by decide
    simp -implicitDefEqProofs only [vms, ↓reduceIte, Nat.reduceEqDiff, natCast_lit, Int.reduceLT, c19l0, g21]
    rw [hK1, cur_full]
    refine hQ _ ?_ ?_ <;> simp -implicitDefEqProofs only [vms, ↓reduceIte, Nat.reduceEqDiff, g4, g8]
  | succ d ih =>
    intro j e hj g4 g5 g6 g7 g8 g21 hQ
    refine round_gen fun K1 hK1 => ?_
    have hd : decide ((j : Int) < 64) = true := by simp; omega
    have hwj : IntKind.i64.wrap ((j : Int) + 1) = ((j + 1 : Nat) : Int) := by rw [wrap_i64_id (by omega) (by omega)]; rfl
    obtain ⟨z1, z2, z3⟩ := zz_le j (by omega)
    obtain ⟨b1, b2⟩ := base_le ch (gI zzL j).toNat (by omega)
    obtain ⟨y1, y2⟩ := byQ_le q h1 h2
    have i1 : vidxA 64 1 (.ptr 2 0) (.int .i64 j) = some (.ptr 2 j) := by rw [vidxA_ptr (by omega) (by omega)]; simp
    have i2 : cellB (some (.ints .i64 zzL 60)) j = some (.int .i64 (gI zzL j)) := cellB_ints (gI_get zzL _ (by show j < 64; omega))
    have i3 : vidxA 64 1 (.ptr 1 0) (.int .i64 (gI zzL j)) = some (.ptr 1 (gI zzL j).toNat) := by rw [vidxA_ptr z1 (by omega)]; simp
    have i4 : cellB (some (.ints .i64 (baseL ch) 60)) (gI zzL j).toNat = some (.int .i64 (gI (baseL ch) (gI zzL j).toNat)) := cellB_ints (gI_get _ _ (by rw [baseL_len]; omega))
    have i5 : vidxA 64 1 (.ptr 3 0) (.int .i64 j) = some (.ptr 3 j) := by rw [vidxA_ptr (by omega) (by omega)]; simp
    have hF : scaledF ch q j = clampQ ((gI (baseL ch) (gI zzL j).toNat * byQ q + 50) / 100) := rfl
    generalize gI (baseL ch) (gI zzL j).toNat = b at *
    have hm1 : 0 ≤ b * byQ q := Int.mul_nonneg b1 y1
    have hm2 : b * byQ q ≤ 255 * 5000 := Int.mul_le_mul b2 y2 y1 (by omega)
    have w1 : IntKind.i64.wrap (b * byQ q) = b * byQ q := wrap_i64_id (by omega) (by omega)
    have w2 : IntKind.i64.wrap (b * byQ q + 50) = b * byQ q + 50 := wrap_i64_id (by omega) (by omega)
    have w3 : vbin .quo (.int .i64 (b * byQ q + 50)) (.int .i64 100) = some (.int .i64 ((b * byQ q + 50) / 100)) := by
      rw [vbin_quo (by decide), Int.tdiv_eq_ediv_of_nonneg (by omega), wrap_i64_id (by omega) (by omega)]
    have hpb : ∀ N : Mem, putB N 3 j (.int .i64 (clampQ ((b * byQ q + 50) / 100))) (some (.ints .i64 (cur 64 (scaledF ch q) j) 60)) = some (.undef, N.set 3 (.ints .i64 (cur 64 (scaledF ch q) (j + 1)) 60)) := fun N => by
      rw [putB_ints (by rw [cur_len]; omega), ← hF, cur_set]
    simp -implicitDefEqProofs only [vms, ↓reduceIte, Nat.reduceEqDiff, c19l0, g4, g5, g6, g7, g8, g21, hd, i1, i2, i3, i4, i5, w1, w2, w3, clamp_mm, hpb, hwj]
    rw [hK1, roundK_normal]
    refine ih (j + 1) _ (by omega) ?_ ?_ ?_ ?_ ?_ ?_ hQ <;> simp -implicitDefEqProofs only [vms, ↓reduceIte, Nat.reduceEqDiff]

theorem base_spec (C : Ctx) (hP : C.P = Tryd.prog) (ch : Bool) : VCalls C 49 [.bool ch] [] [] fun v M' => v = .ints .i64 (baseL ch) ∧ M' = [] := by
  cases ch
  · exact ba0_spec C hP
  · exact ba1_spec C hP

theorem scaled_spec (C : Ctx) (hP : C.P = Tryd.prog) (ch : Bool) (q : Int) (h1 : 1 ≤ q) (h2 : q ≤ 100) : VCalls C 19 [.bool ch, .int .i64 q] [] [] fun v M' => v = .ints .i64 (scaledL ch q) ∧ M' = [] := by
  refine VCalls.of_fn (hs := kz c19) (F := F19) (by rw [hP]; exact is19) (by simp [F19]) ?_
  have w1 : IntKind.i64.wrap (2 * q) = 2 * q := wrap_i64_id (by omega) (by omega)
  have w2 : IntKind.i64.wrap (200 - 2 * q) = 200 - 2 * q := wrap_i64_id (by omega) (by omega)
  have w3 : vbin .quo (.int .i64 5000) (.int .i64 q) = some (.int .i64 (5000 / q)) := by
    have := Int.ediv_nonneg (a := 5000) (b := q) (by omega) (by omega)
    have := Int.ediv_le_self (b := q) (a := 5000) (by omega)
    rw [vbin_quo (by omega), Int.tdiv_eq_ediv_of_nonneg (by omega), wrap_i64_id (by omega) (by omega)]
  have hz : zzL.length = 64 := rfl
  have hc0 := cur_zero 64 (scaledF ch q)
  have tail : ∀ e : Env, e.get 0 = .bool ch → e.get 4 = .ptr 0 0 → e.get 5 = .int .i64 (byQ q) → VWp C 0 [] c19t e [.ints .i64 (List.replicate 64 0) 60] (fnPost 0 [.cells 4 64] fun v M' => v = .ints .i64 (scaledL ch q) ∧ M' = []) := by
    intro e g0 g4 g5
    simp -implicitDefEqProofs only [vms, ↓reduceIte, c19t, g0]
    refine callK_new (base_spec C hP ch) rfl rfl (.ints .i64 (baseL ch)) [] rfl rfl ?_
    simp -implicitDefEqProofs only [vms, callC, List.append_nil]
    refine callK_new (zz_spec C hP) rfl rfl (.ints .i64 zzL) [] rfl rfl ?_
    simp -implicitDefEqProofs only [vms, ↓reduceIte, Nat.reduceEqDiff, Nat.reduceAdd, callC, List.append_nil, stGo_putP, putP_ints, baseL_len, hz, rep_len64, g4, g5]
    apply VWp_loop_of (k := 65)
    rw [← hc0]
    have := scaled_loop C ch q h1 h2 (.ints .i64 (cur 64 (scaledF ch q) 0) 60)
    refine this _ 64 0 _ rfl ?_ ?_ ?_ ?_ ?_ ?_ ?_
    · simp -implicitDefEqProofs only [vms, ↓reduceIte, Nat.reduceEqDiff]
    · simp -implicitDefEqProofs only [vms, ↓reduceIte, Nat.reduceEqDiff]
    · simp -implicitDefEqProofs only [vms, ↓reduceIte, Nat.reduceEqDiff]
    · simp -implicitDefEqProofs only [vms, ↓reduceIte, Nat.reduceEqDiff]
    · simp -implicitDefEqProofs only [vms, ↓reduceIte, Nat.reduceEqDiff]
    · (simp -implicitDefEqProofs only [vms, ↓reduceIte, Nat.reduceEqDiff, natCast_lit]; try rfl)
    · intro e' g4 g8
      have r1 : rangeB (some (.ints .i64 (scaledL ch q) 60)) 0 64 = some (.ints .i64 (scaledL ch q)) := rangeB_ints (scaledL_len ..).symm
      have hcl := cur_len 64 (scaledF ch q) 0
      simp -implicitDefEqProofs only [vms, ↓reduceIte, Nat.reduceEqDiff, g4, g8, range_eqB, r1, stGo_putP, putP_ints, scaledL_len, hcl]
      exact retGo_take 0 (Nat.le_refl _) (by simp) rfl rfl ⟨rfl, rfl⟩
  by_cases h50 : q < 50
  · have hd : decide (q < 50) = true := by simp [h50]
    have hb : byQ q = 5000 / q := by simp only [byQ, h50, if_true]
    simp -implicitDefEqProofs only [vms, ↓reduceIte, Nat.reduceEqDiff, Nat.reduceAdd, reduceCtorEq, F19, c19, w1, w2, hd, w3]
    refine tail _ ?_ ?_ ?_ <;> simp -implicitDefEqProofs only [vms, ↓reduceIte, Nat.reduceEqDiff, reduceCtorEq, hb]
  · have hd : decide (q < 50) = false := by simp [h50]
    have hb : byQ q = 200 - 2 * q := by simp only [byQ, h50, if_false]
    simp -implicitDefEqProofs only [vms, ↓reduceIte, Nat.reduceEqDiff, Nat.reduceAdd, reduceCtorEq, F19, c19, w1, w2, hd]
    refine tail _ ?_ ?_ ?_ <;> simp -implicitDefEqProofs only [vms, ↓reduceIte, Nat.reduceEqDiff, reduceCtorEq, hb]

theorem segment_spec (C : Ctx) (hP : C.P = Tryd.prog) (m : Int) (xs : List Int) (hl : xs.length ≤ 60000) :
    VCalls C 20 [.int .u8 m, .vec 0 xs.length] [.vec .u8 xs 5] [] (fun v M' => v = .vec 1 (xs.length + 4) ∧ M' = [.vec .u8 xs 5, .vec .u8 ([255, m, ((xs.length : Int) + 2) / 256, ((xs.length : Int) + 2) % 256] ++ xs) 5]) := by
  refine VCalls.of_fn (hs := kz c20) (F := F20) (by rw [hP]; exact is20) (by simp [F20]) ?_
  have hlen : lenB (some (.vec .u8 xs 5)) xs.length = some (.int .i64 xs.length) := lenB_vec rfl
  have w1 : IntKind.i64.wrap ((xs.length : Int) + 2) = (xs.length : Int) + 2 := wrap_i64_id (by omega) (by omega)
  have w2 : IntKind.u8.wrap (((xs.length : Int) + 2) / 256) = ((xs.length : Int) + 2) / 256 := wrap_u8_id (by omega) (by omega)
  have w3 : IntKind.u8.wrap ((xs.length : Int) + 2) = ((xs.length : Int) + 2) % 256 := by simp [IntKind.wrap, IntKind.bits, IntKind.signed]
  have hb : ∀ a b c : Int, vfill [(0, 1, .int .u8 255), (1, 1, .int .u8 a), (2, 1, .int .u8 b), (3, 1, .int .u8 c)] (.ints .u8 [0, 0, 0, 0]) = some (.ints .u8 [255, a, b, c]) := fun _ _ _ => rfl
  simp -implicitDefEqProofs only [vms, ↓reduceIte, Nat.reduceEqDiff, Nat.reduceAdd, reduceCtorEq, Nat.min_def, IntKind.bits, Nat.reduceLeDiff, Int.reducePow, Int.reduceToNat, Int.reduceLE, F20, c20, hlen, w1, w2, w3, hb]
  refine app_of (xs := [255, m, ((xs.length : Int) + 2) / 256, ((xs.length : Int) + 2) % 256]) rfl rfl (.inl (by simp)) (elems_vec rfl rfl) (by simp; omega) ?_
  simp -implicitDefEqProofs only [vms, ↓reduceIte, Nat.reduceEqDiff, reduceCtorEq, callC, Nat.reduceBEq, knownGo]
  simp only [V.known, if_true]
  refine retGo_refl ⟨?_, rfl⟩
  rw [Nat.add_comm]
end Go.VM
end

section
set_option linter.unusedSimpArgs false
namespace Go.VM
open Go Go.Proofs Go.Bits

/-! The reference's Encoded: the tables' row. -/
def EM0 (w h f : Nat) (caps : List V) (tabs b row : List Int) : Mem :=
  [.own [.int .i64 w] 3, .own [.int .i64 h] 3, .own [.fn f caps] 33, .own [.fn 13 []] 41, .ints .i64 tabs 62, .vec .u8 b 5, .vec .u8 row 5]

theorem elems_one {M : Mem} {b : Nat} {x : Int} {T : Nat} (h : M[b]? = some (.vec .u8 [x] T)) : elems M .u8 (.vec b 1) = some [x] := elems_vec h rfl

theorem efn0 {b g : Nat} : V.eraseB b (.fn g []) = .fn g [] := rfl
section
variable (C : Ctx) (w h f : Nat) (caps : List V) (hcap : V.refsL caps = [])

include hcap in
theorem fn_erase (b : Nat) : V.eraseB b (.fn f caps) = .fn f caps := by
  simp [V.eraseB, V.refs, hcap]
include hcap in
include hcap in
theorem fn_cl (n : Nat) (T : Nat) : clB n (Blk.own [.fn f caps] T).refs = true := by
  simp [Blk.refs, V.refsL, V.refs, hcap, clB]

theorem row_loop (hcap : V.refsL caps = []) (gray : Bool) (tabs : List Int) (b : List Int) (A : Blk) (hA : A.refs = []) (hAe : ∀ b, A.erase b = A) (t : List Int) (ht : t.length = 64) (hq : ∀ i, i < 64 → 1 ≤ gI t i ∧ gI t i ≤ 255) (T2 : List Int) (k : Nat) (Q : VX → Env → Mem → Prop) :
    ∀ (d j : Nat) (row : List Int), j + d = 64 → row.length ≤ 1000 + j →
      (Q (.exit 2) [(2, .bool gray), (6, .ptr 0 0), (7, .ptr 1 0), (10, .ptr 2 0), (11, .ptr 3 0), (13, .ptr 4 0), (14, .vec 5 b.length), (15, .vec 6 (row ++ t.drop j).length), (50, .ints .i64 T2), (51, .int .i64 k), (60, .ints .i64 t), (61, .int .i64 64), (62, .bool false), (113, .undef), (114, .undef)]
        (EM0 w h f caps tabs b (row ++ t.drop j) ++ [A])) →
      VRounds 0 (VWp C 0 [] c11l0) (d + 1) [(2, .bool gray), (6, .ptr 0 0), (7, .ptr 1 0), (10, .ptr 2 0), (11, .ptr 3 0), (13, .ptr 4 0), (14, .vec 5 b.length), (15, .vec 6 row.length), (50, .ints .i64 T2), (51, .int .i64 k), (60, .ints .i64 t), (61, .int .i64 j), (113, .undef), (114, .undef)]
        (EM0 w h f caps tabs b row ++ [A]) Q := by
  intro d
  induction d with
  | zero =>
    intro j row hj hr hQ
    refine round_gen fun K1 hK1 => ?_
    have hj' : j = 64 := by omega
    subst hj'
    have hd : decide (((64 : Nat) : Int) < 64) = false := by decide
    simp -implicitDefEqProofs only [vms, ↓reduceIte, Nat.reduceEqDiff, natCast_lit, Int.reduceLT, c11l0]
    rw [hK1]
    have hdr : t.drop 64 = [] := List.drop_eq_nil_of_le (by omega)
    rw [hdr, List.append_nil] at hQ
    exact hQ
  | succ d ih =>
    intro j row hj hr hQ
    refine round_gen fun K1 hK1 => ?_
    have hd : decide ((j : Int) < 64) = true := by simp; omega
    have hwj : IntKind.i64.wrap ((j : Int) + 1) = ((j + 1 : Nat) : Int) := by rw [wrap_i64_id (by omega) (by omega)]; rfl
    obtain ⟨q1, q2⟩ := hq j (by omega)
    have hiv : vidxV false 64 1 (.ints .i64 t) (.int .i64 (j : Int)) = some (.int .i64 (gI t j)) := vidxV_ints (by omega) (by omega) (by simpa using gI_get t j (by omega))
    have hw8 : IntKind.u8.wrap (gI t j) = gI t j := wrap_u8_id (by omega) (by omega)
    have hfe := fn_erase f caps hcap
    have hcl := fn_cl f caps hcap
    have hdr : t.drop j = gI t j :: t.drop (j + 1) := by
      have h1 : j < t.length := by omega
      rw [List.drop_eq_getElem_cons h1]
      simp [gI, h1]
    rw [hdr] at hQ
    simp -implicitDefEqProofs only [vms, ↓reduceIte, Nat.reduceEqDiff, Nat.reduceAdd, Nat.reduceLeDiff, c11l0, hd, hiv, hw8, EM0]
    refine app_of rfl rfl (.inl (by omega)) (elems_one rfl) (by simp; omega) ?_
    simp -implicitDefEqProofs only [vms, ↓reduceIte, Nat.reduceEqDiff, callC, Nat.reduceBEq, hfe, efn0, hAe, hwj]
    rw [hK1, roundK_normal]
    refine VRounds_adj (adj_take 8 (by simp) (by simp) rfl ?_) ?_
    · simp only [memCl, List.take_succ_cons, List.take_zero, List.all_cons, List.all_nil, hcl, hA]
      rfl
    have := ih (j + 1) (row ++ [gI t j]) (by omega) (by simp; omega) (by simpa using hQ)
    simpa [EM0] using this

theorem em0_cl (hcap : V.refsL caps = []) (tabs b row : List Int) (R : Mem) : memCl 7 ((EM0 w h f caps tabs b row ++ R).take 7) = true := by
  have hcl := fn_cl f caps hcap
  simp only [EM0, memCl, List.cons_append, List.take_succ_cons, List.take_zero, List.all_cons, List.all_nil, hcl]
  rfl
theorem em0_take (tabs b row : List Int) (R : Mem) : (EM0 w h f caps tabs b row ++ R).take 7 = EM0 w h f caps tabs b row := rfl

def dqtRow (s0 s1 : List Int) : List Int := 0 :: (s0 ++ [1] ++ s1)

theorem dqt_loop (hcap : V.refsL caps = []) (gray : Bool) (tabs : List Int) (b : List Int) (s0 s1 : List Int) (h0 : s0.length = 64) (h1 : s1.length = 64) (hq0 : ∀ i, i < 64 → 1 ≤ gI s0 i ∧ gI s0 i ≤ 255) (hq1 : ∀ i, i < 64 → 1 ≤ gI s1 i ∧ gI s1 i ≤ 255) (Q : VX → Env → Mem → Prop)
    (hQ : Q (.exit 0) [(2, .bool gray), (6, .ptr 0 0), (7, .ptr 1 0), (10, .ptr 2 0), (11, .ptr 3 0), (13, .ptr 4 0), (14, .vec 5 b.length), (15, .vec 6 (dqtRow s0 s1).length), (50, .ints .i64 (s0 ++ s1)), (51, .int .i64 2), (52, .bool false), (113, .undef), (114, .undef)]
        (EM0 w h f caps tabs b (dqtRow s0 s1))) :
    VRounds 0 (VWp C 0 [] c11l1) 3 [(2, .bool gray), (6, .ptr 0 0), (7, .ptr 1 0), (10, .ptr 2 0), (11, .ptr 3 0), (13, .ptr 4 0), (14, .vec 5 b.length), (15, .vec 6 0), (50, .ints .i64 (s0 ++ s1)), (51, .int .i64 0), (113, .undef), (114, .undef)]
        (EM0 w h f caps tabs b []) Q := by
  have hfe := fn_erase f caps hcap
  have hcl := fn_cl f caps hcap
  have v0 : vidxV true 2 64 (.ints .i64 (s0 ++ s1)) (.int .i64 0) = some (.ints .i64 s0) := by
    simp [vidxV, vpart, h0, h1]
  have v1 : vidxV true 2 64 (.ints .i64 (s0 ++ s1)) (.int .i64 1) = some (.ints .i64 s1) := by
    simp [vidxV, vpart, h0, h1]
    exact List.take_of_length_le (by omega)
  have r0 : rangeB (some (.ints .i64 s0 60)) 0 64 = some (.ints .i64 s0) := rangeB_ints h0.symm
  have r1 : rangeB (some (.ints .i64 s1 60)) 0 64 = some (.ints .i64 s1) := rangeB_ints h1.symm
  refine round_gen fun K1 hK1 => ?_
  simp -implicitDefEqProofs only [vms, ↓reduceIte, Nat.reduceEqDiff, Nat.reduceAdd, Nat.reduceLeDiff, Int.reduceLE, wl8, Int.reduceLT, c11l1, v0, EM0, stGo_putP, putP_ints, h0, rep_len64]
  refine app_of (xs := []) rfl rfl (.inl (by omega)) (elems_one rfl) (by simp) ?_
  simp -implicitDefEqProofs only [vms, ↓reduceIte, Nat.reduceEqDiff, callC, Nat.reduceBEq, hfe, efn0, range_eqB, r0]
  apply VWp_loop_of (k := 65)
  refine VRounds_adj (adj_take 8 (by simp) (by simp) rfl ?_) ?_
  · simp only [memCl, List.take_succ_cons, List.take_zero, List.all_cons, List.all_nil, hcl]
    rfl
  refine row_loop C w h f caps hcap gray tabs b (.ints .i64 s0 60) rfl (fun _ => rfl) s0 h0 hq0 (s0 ++ s1) 0 _ 64 0 [0] rfl (by simp) ?_
  have hd0 : s0.drop 0 = s0 := rfl
  rw [hd0]
  simp -implicitDefEqProofs only [vms, ↓reduceIte, Nat.reduceEqDiff, Int.reduceLE, Int.reduceAdd, Int.reduceNeg, wl64, natCast_lit]
  rw [hK1, roundK_normal]
  refine VRounds_adj (adj_take 7 (by simp) (by simp [EM0]) rfl (em0_cl w h f caps hcap _ _ _ _)) ?_
  rw [em0_take]
  refine round_gen fun K1 hK1 => ?_
  simp -implicitDefEqProofs only [vms, ↓reduceIte, Nat.reduceEqDiff, Nat.reduceAdd, Nat.reduceLeDiff, Int.reduceLE, wl8, Int.reduceLT, c11l1, v1, EM0, stGo_putP, putP_ints, h1, rep_len64]
  refine app_of (xs := [0] ++ s0) rfl rfl (.inl (by omega)) (elems_one rfl) (by simp [h0]) ?_
  simp -implicitDefEqProofs only [vms, ↓reduceIte, Nat.reduceEqDiff, callC, Nat.reduceBEq, hfe, efn0, range_eqB, r1]
  apply VWp_loop_of (k := 65)
  refine VRounds_adj (adj_take 8 (by simp) (by simp) rfl ?_) ?_
  · simp only [memCl, List.take_succ_cons, List.take_zero, List.all_cons, List.all_nil, hcl]
    rfl
  have hr := row_loop C w h f caps hcap gray tabs b (.ints .i64 s1 60) rfl (fun _ => rfl) s1 h1 hq1 (s0 ++ s1) 1
  have hln : s0.length + 1 + 1 = (0 :: (s0 ++ [1])).length := by simp
  rw [hln]
  refine hr _ 64 0 (0 :: (s0 ++ [1])) rfl (by simp [h0]) ?_
  have hd1 : s1.drop 0 = s1 := rfl
  rw [hd1]
  simp -implicitDefEqProofs only [vms, ↓reduceIte, Nat.reduceEqDiff, Int.reduceLE, Int.reduceAdd, Int.reduceNeg, wl64, natCast_lit]
  rw [hK1, roundK_normal]
  refine VRounds_adj (adj_take 7 (by simp) (by simp [EM0]) rfl (em0_cl w h f caps hcap _ _ _ _)) ?_
  rw [em0_take]
  refine round_gen fun K1 hK1 => ?_
  simp -implicitDefEqProofs only [vms, ↓reduceIte, Nat.reduceEqDiff, Int.reduceLT, c11l1]
  rw [hK1]
  exact hQ
end
end Go.VM
end

section
set_option linter.unusedSimpArgs false
namespace Go.VM
open Go Go.Proofs Go.Bits

/-! The reference's Encoded: the row of the codes. -/
def cBg (k s : Nat) : Blk := .own (intVs .i64 (tabC k) ++ (.vec s (tabS k).length :: (intVs .i64 (tabK k) ++ intVs .i64 (tabW k)))) 71
theorem cBg_eq (k : Nat) : cB k = cBg k (5 + 2 * k) := rfl
theorem cBg_ren (k s : Nat) (σ : Nat → Nat) : (cBg k s).ren σ = cBg k (σ s) := by
  simp only [cBg, Blk.ren, renL_append, renL_ints, V.renL, V.ren]
theorem cBg_refs (k s : Nat) : (cBg k s).refs = [s] := by
  simp only [cBg, Blk.refs, refsL_append, V.refsL, refsL_ints, V.refs]
  rfl
theorem cBg_erase (k s b : Nat) (h : (s == b) = false) : (cBg k s).erase b = cBg k s := by
  simp only [cBg, Blk.erase, List.map_append, List.map_cons, erase_intVs, eraseB_vec, h]
  rfl
theorem cBg_count (k s l : Nat) (hk : k < 4) (hl : l < 17) : cellB (some (cBg k s)) l = some (.int .i64 (gI (tabC k) l)) := by
  obtain ⟨h1, h2, h3⟩ := tab_len k hk
  simp only [cBg, cellB]
  rw [List.getElem?_append_left (by simp [intVs_length]; omega), intVs_get _ _ _ (by omega)]
theorem cBg_signs (k s : Nat) (hk : k < 4) : cellB (some (cBg k s)) 17 = some (.vec s (tabS k).length) := by
  obtain ⟨h1, h2, h3⟩ := tab_len k hk
  simp only [cBg, cellB]
  rw [List.getElem?_append_right (by simp [intVs_length]; omega), intVs_length, h1]
  rfl

theorem adj_pick {e : Env} {M : Mem} (idx : List Nat) (e' : Env) (M' : Mem) (hl : idx.length = M'.length) (hnd : idx.Nodup) (hM : idx.map (M[·]?) = M'.map (fun b => some (b.ren (idxσ idx)))) (he : e = e'.map fun p => (p.1, p.2.ren (idxσ idx)))
    (hce : envClB M'.length e' = true) (hcM : memCl M'.length M' = true) : Adj 0 e M e' M' := by
  refine .ren e M e' M' (idxσ idx) (by simp) (by simp) (fun i j hi hj h => ?_) (fun j b hb => ?_) (fun j => .inr ?_) (envCl_of hce) (fun j b hb => clB_iff (List.all_eq_true.1 hcM b (List.mem_of_getElem? hb)))
  · have hi' : i < idx.length := by omega
    have hj' : j < idx.length := by omega
    unfold idxσ at h
    rw [List.getD_eq_getElem?_getD, List.getD_eq_getElem?_getD, List.getElem?_eq_getElem hi', List.getElem?_eq_getElem hj'] at h
    exact (List.getElem_inj hnd).1 h
  · have hj : j < idx.length := by rw [hl]; exact (List.getElem?_eq_some_iff.1 hb).1
    have h1 := congrArg (·[j]?) hM
    simp only [List.getElem?_map, List.getElem?_eq_getElem hj, hb, Option.map_some, Option.some.injEq] at h1
    unfold idxσ
    rw [List.getD_eq_getElem?_getD, List.getElem?_eq_getElem hj]
    exact h1
  · subst he
    clear hce
    induction e' with
    | nil => rfl
    | cons p r ih =>
      obtain ⟨k, v⟩ := p
      simp only [List.map_cons, get_cons]
      split
      · rfl
      · exact ih

def arrB : Blk := .own [.ptr 8 0, .ptr 10 0, .ptr 12 0, .ptr 14 0] 66
def arrV : V := .agg [.ptr 8 0, .ptr 10 0, .ptr 12 0, .ptr 14 0]
def EM1 (w h f : Nat) (caps : List V) (tabs b row : List Int) : Mem :=
  [.own [.int .i64 w] 3, .own [.int .i64 h] 3, .own [.fn f caps] 33, .own [.fn 13 []] 41, .ints .i64 tabs 62, .vec .u8 b 5, .vec .u8 row 5, arrB, cBg 0 9, sB 0, cBg 1 11, sB 1, cBg 2 13, sB 2, cBg 3 15, sB 3]

section
variable (C : Ctx) (w h f : Nat) (caps : List V) (tabs b row : List Int)
theorem em1_c (R : Mem) (k : Nat) (hk : k < 4) : (EM1 w h f caps tabs b row ++ R)[8 + 2 * k]? = some (cBg k (9 + 2 * k)) := by
  have : k = 0 ∨ k = 1 ∨ k = 2 ∨ k = 3 := by omega
  rcases this with rfl | rfl | rfl | rfl <;> rfl
theorem em1_s (R : Mem) (k : Nat) (hk : k < 4) : (EM1 w h f caps tabs b row ++ R)[9 + 2 * k]? = some (sB k) := by
  have : k = 0 ∨ k = 1 ∨ k = 2 ∨ k = 3 := by omega
  rcases this with rfl | rfl | rfl | rfl <;> rfl
theorem em1_len : (EM1 w h f caps tabs b row).length = 16 := rfl
theorem em1_take (R : Mem) : (EM1 w h f caps tabs b row ++ R).take 16 = EM1 w h f caps tabs b row := rfl
theorem em1_cl (hcap : V.refsL caps = []) : memCl 16 (EM1 w h f caps tabs b row) = true := by
  have hcl := fn_cl f caps hcap
  simp only [EM1, memCl, List.all_cons, List.all_nil, hcl, cBg_refs]
  rfl
theorem em1_erase (hcap : V.refsL caps = []) (B : Blk) (hB : B.erase 6 = B) (row' : List Int) : ((EM1 w h f caps tabs b row ++ [B]).erase 6).set 6 (.vec .u8 row' 5) = EM1 w h f caps tabs b row' ++ [B] := by
  have hfe := fn_erase f caps hcap 6
  simp only [EM1, Mem.erase, List.cons_append, List.nil_append, List.map_cons, List.map_nil, hB, cBg_erase 0 9 6 rfl, cBg_erase 1 11 6 rfl, cBg_erase 2 13 6 rfl, cBg_erase 3 15 6 rfl, erase_own, hfe]
  rfl

theorem count_check : ((List.range 4).all fun k => ((List.range 17).all fun l => decide (0 ≤ gI (tabC k) l ∧ gI (tabC k) l ≤ 255)) && (tabS k).all fun s => decide (0 ≤ s ∧ s ≤ 255)) = true := by kernel_rfl
theorem count_le (k l : Nat) (hk : k < 4) (hl : l < 17) : 0 ≤ gI (tabC k) l ∧ gI (tabC k) l ≤ 255 := by
  have := List.all_eq_true.1 count_check k (by simpa using hk)
  rw [Bool.and_eq_true] at this
  exact of_decide_eq_true (List.all_eq_true.1 this.1 l (by simpa using hl))
theorem sign_le (k : Nat) (hk : k < 4) (s : Int) (hs : s ∈ tabS k) : 0 ≤ s ∧ s ≤ 255 := by
  have := List.all_eq_true.1 count_check k (by simpa using hk)
  rw [Bool.and_eq_true] at this
  exact of_decide_eq_true (List.all_eq_true.1 this.2 s hs)

theorem counts_loop (hcap : V.refsL caps = []) (gray : Bool) (k : Nat) (hk : k < 4) (u v : V) (hu : u.drops [6] = u) (hv : v.drops [6] = v) (hu2 : u.refs = []) (hv2 : v.refs = []) (Q : VX → Env → Mem → Prop) :
    ∀ (d l : Nat) (row : List Int), l + d = 17 → 1 ≤ l → row.length ≤ 10000 + l →
      (∀ e130, Q (.exit 6) [(2, .bool gray), (6, .ptr 0 0), (7, .ptr 1 0), (10, .ptr 2 0), (11, .ptr 3 0), (13, .ptr 4 0), (14, .vec 5 b.length), (15, .vec 6 (row ++ (tabC k).drop l).length), (21, .ptr 7 0), (23, .ptr (8 + 2 * k) 0), (24, .int .i64 17), (106, arrV), (107, .int .i64 k), (113, u), (114, v), (127, e130)]
        (EM1 w h f caps tabs b (row ++ (tabC k).drop l))) →
      VRounds 0 (VWp C 0 [] c11l2) (d + 1) [(2, .bool gray), (6, .ptr 0 0), (7, .ptr 1 0), (10, .ptr 2 0), (11, .ptr 3 0), (13, .ptr 4 0), (14, .vec 5 b.length), (15, .vec 6 row.length), (21, .ptr 7 0), (23, .ptr (8 + 2 * k) 0), (24, .int .i64 l), (106, arrV), (107, .int .i64 k), (113, u), (114, v)]
        (EM1 w h f caps tabs b row) Q := by
  obtain ⟨h17, -, -⟩ := tab_len k hk
  intro d
  induction d with
  | zero =>
    intro l row hj hl hr hQ
    refine round_gen fun K1 hK1 => ?_
    have hj' : l = 17 := by omega
    subst hj'
    have hd : decide (((17 : Nat) : Int) ≤ 16) = false := by decide
    simp -implicitDefEqProofs only [vms, ↓reduceIte, Nat.reduceEqDiff, Int.reduceLE, natCast_lit, c11l2]
    rw [hK1]
    have hdr : (tabC k).drop 17 = [] := List.drop_eq_nil_of_le (by omega)
    rw [hdr, List.append_nil] at hQ
    exact hQ _
  | succ d ih =>
    intro l row hj hl hr hQ
    refine round_gen fun K1 hK1 => ?_
    have hd : decide ((l : Int) ≤ 16) = true := by simp; omega
    have hwj : IntKind.i64.wrap ((l : Int) + 1) = ((l + 1 : Nat) : Int) := by rw [wrap_i64_id (by omega) (by omega)]; rfl
    obtain ⟨q1, q2⟩ := count_le k l hk (by omega)
    have hw8 : IntKind.u8.wrap (gI (tabC k) l) = gI (tabC k) l := wrap_u8_id (by omega) (by omega)
    have hdr : (tabC k).drop l = gI (tabC k) l :: (tabC k).drop (l + 1) := by
      have h1 : l < (tabC k).length := by omega
      rw [List.drop_eq_getElem_cons h1]
      simp [gI, h1]
    rw [hdr] at hQ
    have mc := em1_c w h f caps tabs b row [] k hk
    rw [List.append_nil] at mc
    have i1 : vidxA 17 1 (.ptr (8 + 2 * k) 0) (.int .i64 l) = some (.ptr (8 + 2 * k) l) := by rw [vidxA_ptr (by omega) (by omega)]; simp
    have lc := cBg_count k (9 + 2 * k) l hk (by omega)
    have hne : (8 + 2 * k == 6) = false := by simp; omega
    have harr : V.drops [6] arrV = arrV := rfl
    simp -implicitDefEqProofs only [vms, ↓reduceIte, Nat.reduceEqDiff, Nat.reduceLeDiff, c11l2, hd, mc, i1, lc, hw8, em1_len]
    refine app_of (xs := row) (T := 5) rfl rfl (.inl (by omega)) (elems_one rfl) (by simp; omega) ?_
    rw [em1_erase w h f caps tabs b row hcap _ rfl]
    simp -implicitDefEqProofs only [vms, ↓reduceIte, Nat.reduceEqDiff, callC, Nat.reduceBEq, hne, harr, hu, hv, hwj]
    rw [hK1, roundK_normal]
    refine VRounds_adj (adj_take 16 (by simp) (by simp [em1_len]) ?_ (by rw [em1_take]; exact em1_cl w h f caps tabs b _ hcap)) ?_
    · simp only [envClB, List.all_cons, List.all_nil, hu2, hv2, V.refs, clB]
      simp [arrV, V.refsL, V.refs]
      omega
    rw [em1_take]
    have := ih (l + 1) (row ++ [gI (tabC k) l]) (by omega) (by omega) (by simp; omega) (by simpa using hQ)
    simpa using this

theorem signs_loop (hcap : V.refsL caps = []) (gray : Bool) (k : Nat) (hk : k < 4) (u v : V) (hu : u.drops [6] = u) (hv : v.drops [6] = v) (hu2 : u.refs = []) (hv2 : v.refs = []) (hlen : (tabS k).length ≤ 200) (Q : VX → Env → Mem → Prop) :
    ∀ (d i : Nat) (row : List Int), i + d = (tabS k).length → row.length ≤ 10000 + i →
      (Q (.exit 8) [(2, .bool gray), (6, .ptr 0 0), (7, .ptr 1 0), (10, .ptr 2 0), (11, .ptr 3 0), (13, .ptr 4 0), (14, .vec 5 b.length), (15, .vec 6 (row ++ (tabS k).drop i).length), (21, .ptr 7 0), (106, arrV), (107, .int .i64 k), (113, u), (114, v), (143, .vec (9 + 2 * k) (tabS k).length), (144, .int .i64 (tabS k).length), (145, .int .i64 (tabS k).length), (146, .bool false)]
        (EM1 w h f caps tabs b (row ++ (tabS k).drop i))) →
      VRounds 0 (VWp C 0 [] c11l3) (d + 1) [(2, .bool gray), (6, .ptr 0 0), (7, .ptr 1 0), (10, .ptr 2 0), (11, .ptr 3 0), (13, .ptr 4 0), (14, .vec 5 b.length), (15, .vec 6 row.length), (21, .ptr 7 0), (106, arrV), (107, .int .i64 k), (113, u), (114, v), (143, .vec (9 + 2 * k) (tabS k).length), (144, .int .i64 (tabS k).length), (145, .int .i64 i)]
        (EM1 w h f caps tabs b row) Q := by
  intro d
  induction d with
  | zero =>
    intro i row hj hr hQ
    refine round_gen fun K1 hK1 => ?_
    have hj' : i = (tabS k).length := by omega
    subst hj'
    have hd : decide (((tabS k).length : Int) < (tabS k).length) = false := by simp
    simp -implicitDefEqProofs only [vms, ↓reduceIte, Nat.reduceEqDiff, c11l3, hd]
    rw [hK1]
    have hdr : (tabS k).drop (tabS k).length = [] := List.drop_eq_nil_of_le (by omega)
    rw [hdr, List.append_nil] at hQ
    exact hQ
  | succ d ih =>
    intro i row hj hr hQ
    refine round_gen fun K1 hK1 => ?_
    have hil : i < (tabS k).length := by omega
    have hd : decide ((i : Int) < (tabS k).length) = true := by simp; omega
    have hwj : IntKind.i64.wrap ((i : Int) + 1) = ((i + 1 : Nat) : Int) := by rw [wrap_i64_id (by omega) (by omega)]; rfl
    obtain ⟨q1, q2⟩ := sign_le k hk (gI (tabS k) i) (by simp [gI, hil])
    have hw8 : IntKind.u8.wrap (gI (tabS k) i) = gI (tabS k) i := wrap_u8_id (by omega) (by omega)
    have hdr : (tabS k).drop i = gI (tabS k) i :: (tabS k).drop (i + 1) := by
      rw [List.drop_eq_getElem_cons hil]
      simp [gI, hil]
    rw [hdr] at hQ
    have ms := em1_s w h f caps tabs b row [] k hk
    rw [List.append_nil] at ms
    have i1 : vidxS (EM1 w h f caps tabs b row) 1 (.vec (9 + 2 * k) (tabS k).length) (.int .i64 i) = some (.ptr (9 + 2 * k) i) := by rw [vidxS_vec ms rfl (by omega) (by omega)]; simp
    have lc : cellB (some (sB k)) i = some (.int .i64 (gI (tabS k) i)) := cellB_vec (gI_get _ _ hil)
    have hne : (9 + 2 * k == 6) = false := by simp; omega
    have harr : V.drops [6] arrV = arrV := rfl
    simp -implicitDefEqProofs only [vms, ↓reduceIte, Nat.reduceEqDiff, Nat.reduceLeDiff, c11l3, hd, i1, ms, lc, hw8, em1_len]
    refine app_of (xs := row) (T := 5) rfl rfl (.inl (by omega)) (elems_one rfl) (by simp; omega) ?_
    rw [em1_erase w h f caps tabs b row hcap _ rfl]
    simp -implicitDefEqProofs only [vms, ↓reduceIte, Nat.reduceEqDiff, callC, Nat.reduceBEq, hne, harr, hu, hv, hwj]
    rw [hK1, roundK_normal]
    refine VRounds_adj (adj_take 16 (by simp) (by simp [em1_len]) ?_ (by rw [em1_take]; exact em1_cl w h f caps tabs b _ hcap)) ?_
    · simp only [envClB, List.all_cons, List.all_nil, hu2, hv2, V.refs, clB]
      simp [arrV, V.refsL, V.refs]
      omega
    rw [em1_take]
    have := ih (i + 1) (row ++ [gI (tabS k) i]) (by omega) (by simp; omega) (by simpa using hQ)
    simpa using this

def tcB (k : Nat) : Int := ((k % 2 * 16 + k / 2 : Nat) : Int)
def dhtOne (k : Nat) : List Int := tcB k :: ((tabC k).drop 1 ++ tabS k)

theorem tabS_lens : ((List.range 4).all fun k => decide ((tabS k).length ≤ 200)) = true := by kernel_rfl
theorem tabS_len (k : Nat) (hk : k < 4) : (tabS k).length ≤ 200 := of_decide_eq_true (List.all_eq_true.1 tabS_lens k (by simpa using hk))

/-- one round of the row of codes -/
theorem dht_round (hcap : V.refsL caps = []) (gray : Bool) (k : Nat) (hk : k < 4) (hg : (gray && decide (1 < (k : Int))) = false) (u v : V) (hu : u.drops [6] = u) (hv : v.drops [6] = v) (hu2 : u.refs = []) (hv2 : v.refs = []) (Q : VX → Env → Mem → Prop) (d : Nat) (row : List Int) (hr : row.length ≤ 2000)
    (hQ : ∀ u v : V, u.drops [6] = u → v.drops [6] = v → u.refs = [] → v.refs = [] → VRounds 0 (VWp C 0 [] c11l4) d [(2, .bool gray), (6, .ptr 0 0), (7, .ptr 1 0), (10, .ptr 2 0), (11, .ptr 3 0), (13, .ptr 4 0), (14, .vec 5 b.length), (15, .vec 6 (row ++ dhtOne k).length), (21, .ptr 7 0), (106, arrV), (107, .int .i64 (k + 1 : Nat)), (113, u), (114, v)]
        (EM1 w h f caps tabs b (row ++ dhtOne k)) Q) :
    VRounds 0 (VWp C 0 [] c11l4) (d + 1) [(2, .bool gray), (6, .ptr 0 0), (7, .ptr 1 0), (10, .ptr 2 0), (11, .ptr 3 0), (13, .ptr 4 0), (14, .vec 5 b.length), (15, .vec 6 row.length), (21, .ptr 7 0), (106, arrV), (107, .int .i64 k), (113, u), (114, v)]
        (EM1 w h f caps tabs b row) Q := by
  refine round_gen fun K1 hK1 => ?_
  have hd : decide ((k : Int) < 4) = true := by simp; omega
  have hwj : IntKind.i64.wrap ((k : Int) + 1) = ((k + 1 : Nat) : Int) := by rw [wrap_i64_id (by omega) (by omega)]; rfl
  have i1 : vidxV false 4 1 arrV (.int .i64 k) = some (.ptr (8 + 2 * k) 0) := by
    have : k = 0 ∨ k = 1 ∨ k = 2 ∨ k = 3 := by omega
    rcases this with rfl | rfl | rfl | rfl <;> rfl
  have kp : ∀ o, knownGo (some (.ptr (8 + 2 * k) o)) = some (.ptr (8 + 2 * k) o) := fun _ => rfl
  have r2 : vbin .rem (.int .i64 (k : Int)) (.int .i64 2) = some (.int .i64 ((k % 2 : Nat) : Int)) := by
    rw [vbin_rem (by decide), Int.tmod_eq_emod_of_nonneg (by omega)]; rfl
  have q2 : vbin .quo (.int .i64 (k : Int)) (.int .i64 2) = some (.int .i64 ((k / 2 : Nat) : Int)) := by
    rw [vbin_quo (by decide), Int.tdiv_eq_ediv_of_nonneg (by omega), wrap_i64_id (by omega) (by omega)]; rfl
  have hsh : IntKind.i64.wrap (((k % 2 : Nat) : Int) * 16) = ((k % 2 * 16 : Nat) : Int) := by rw [wrap_i64_id (by omega) (by omega)]; omega
  have hor := or_i64 (k % 2) (k / 2) (by omega) (by omega)
  have hw8 : IntKind.u8.wrap ((k % 2 * 16 + k / 2 : Nat) : Int) = tcB k := wrap_u8_id (by omega) (by omega)
  have hne : (8 + 2 * k == 6) = false := by simp; omega
  have harr : V.drops [6] arrV = arrV := rfl
  have mc := fun row => em1_c w h f caps tabs b row [] k hk
  simp only [List.append_nil] at mc
  have lc := cBg_signs k (9 + 2 * k) hk
  have ms := fun row => em1_s w h f caps tabs b row [] k hk
  simp only [List.append_nil] at ms
  have hlen : lenB (some (sB k)) (tabS k).length = some (.int .i64 (tabS k).length) := lenB_vec rfl
  have ht17 := (tab_len k hk).1
  have main : ∀ u v : V, u.drops [6] = u → v.drops [6] = v → u.refs = [] → v.refs = [] →
      VWp C 0 [] c11t4 [(2, .bool gray), (6, .ptr 0 0), (7, .ptr 1 0), (10, .ptr 2 0), (11, .ptr 3 0), (13, .ptr 4 0), (14, .vec 5 b.length), (15, .vec 6 row.length), (21, .ptr 7 0), (22, .int .i64 k), (23, .ptr (8 + 2 * k) 0), (106, arrV), (107, .int .i64 k), (113, u), (114, v), (115, .bool false)]
        (EM1 w h f caps tabs b row) (blockK 5 (seqV C 0 [] (.reg [.op none (some 155) (.bin .add (.t 107) (.c (.int .i64 1))),
    .op none (some 107) (.mov (.t 155))] [2, 6, 7, 10, 11, 13, 14, 15, 21, 106, 107, 113, 114]) K1)) := by
    intro u v hu hv hu2 hv2
    simp -implicitDefEqProofs only [vms, ↓reduceIte, Nat.reduceEqDiff, Nat.min_def, IntKind.bits, Nat.reduceLeDiff, Int.reducePow, Int.reduceToNat, Int.reduceLE, c11t4, r2, q2, hsh, hor, hw8, em1_len]
    refine app_of (xs := row) (T := 5) rfl rfl (.inl (by omega)) (elems_one rfl) (by simp; omega) ?_
    rw [em1_erase w h f caps tabs b row hcap _ rfl]
    simp -implicitDefEqProofs only [vms, ↓reduceIte, Nat.reduceEqDiff, callC, Nat.reduceBEq, hne, harr, hu, hv]
    apply VWp_loop_of (k := 17)
    refine VRounds_adj (adj_take 16 (by simp) (by simp [em1_len]) ?_ (by rw [em1_take]; exact em1_cl w h f caps tabs b _ hcap)) ?_
    · simp only [envClB, List.all_cons, List.all_nil, hu2, hv2, V.refs, clB]
      simp [arrV, V.refsL, V.refs]
      omega
    rw [em1_take]
    have hl1 : row.length + 1 = (row ++ [tcB k]).length := by simp
    rw [hl1]
    refine counts_loop C w h f caps tabs b hcap gray k hk u v hu hv hu2 hv2 _ 16 1 (row ++ [tcB k]) rfl (by omega) (by simp; omega) ?_
    intro e130
    simp -implicitDefEqProofs only [vms, ↓reduceIte, Nat.reduceEqDiff, mc, lc, ms, hlen]
    apply VWp_loop_of (k := (tabS k).length + 1)
    refine signs_loop C w h f caps tabs b hcap gray k hk u v hu hv hu2 hv2 (tabS_len k hk) _ (tabS k).length 0 (row ++ [tcB k] ++ (tabC k).drop 1) (by omega) (by simp; omega) ?_
    simp -implicitDefEqProofs only [vms, ↓reduceIte, Nat.reduceEqDiff, hwj]
    rw [hK1, roundK_normal]
    have e : row ++ [tcB k] ++ (tabC k).drop 1 ++ (tabS k).drop 0 = row ++ dhtOne k := by simp [dhtOne]
    rw [e]
    exact hQ u v hu hv hu2 hv2
  cases gray with
  | false =>
    simp -implicitDefEqProofs only [vms, ↓reduceIte, Nat.reduceEqDiff, c11l4, hd, i1, kp]
    exact main _ _ rfl rfl rfl rfl
  | true =>
    have hd1 : decide ((1 : Int) < (k : Int)) = false := by simpa using hg
    simp -implicitDefEqProofs only [vms, ↓reduceIte, Nat.reduceEqDiff, c11l4, hd, i1, kp, hd1]
    exact main _ _ rfl rfl rfl rfl
end
end Go.VM
end

section
set_option linter.unusedSimpArgs false
namespace Go.VM
open Go Go.Proofs Go.Bits

/-! The scan: plain; the reference's loops. -/
abbrev ScS := (List Bool × List Int) × List Int
/-- one block more -/
def stepB (tabs : List Int) (part c : Nat) (xs : List Int) (st : ScS) : ScS :=
  (feed st.1 (blkBits c (gI st.2 part) (quantF (fwd xs) tabs c)), st.2.set part (quantF (fwd xs) tabs c 0))

structure Inv (st : ScS) (n : Nat) : Prop where
  p : st.1.1.length < 8
  out : st.1.2.length ≤ 12000 * n
  l3 : st.2.length = 3
  l : ∀ i, i < 3 → -1024 ≤ gI st.2 i ∧ gI st.2 i ≤ 1020

structure TabOk (tabs : List Int) : Prop where
  len : tabs.length = 128
  q : ∀ i, i < 128 → 1 ≤ gI tabs i ∧ gI tabs i ≤ 255

structure BlkOk (xs : List Int) : Prop where
  len : xs.length = 64
  b : ∀ i, i < 64 → inB 0 255 (gI xs i)

theorem gI_set (xs : List Int) (i j : Nat) (v : Int) (h : j < xs.length) : gI (xs.set j v) i = if j = i then v else gI xs i := by
  unfold gI
  rw [List.getD_eq_getElem?_getD, List.getElem?_set]
  by_cases hj : j = i
  · subst hj; rw [if_pos rfl, if_pos h, if_pos rfl]; rfl
  · rw [if_neg hj, if_neg hj, List.getD_eq_getElem?_getD]

theorem blk_le {tabs : List Int} (ht : TabOk tabs) {xs : List Int} (hx : BlkOk xs) {st : ScS} {n : Nat} (hi : Inv st n) {part c : Nat} (hp : part < 3) (hc : c < 2) : (blkBits c (gI st.2 part) (quantF (fwd xs) tabs c)).length ≤ 6000 := by
  obtain ⟨f1, f2, -⟩ := quantF_le xs tabs c hc hx.b ht.q 0 (by omega)
  obtain ⟨l1, l2⟩ := hi.l part hp
  refine blkBits_len c _ _ hc (by omega) (fun i h1 h2 => ?_)
  obtain ⟨g1, g2, g3⟩ := quantF_le xs tabs c hc hx.b ht.q i h2
  have := g3 (by omega)
  omega

theorem stepB_inv {tabs : List Int} (ht : TabOk tabs) {xs : List Int} (hx : BlkOk xs) {st : ScS} {n : Nat} (hi : Inv st n) {part c : Nat} (hp : part < 3) (hc : c < 2) : Inv (stepB tabs part c xs st) (n + 1) := by
  have hb := blk_le ht hx hi hp hc
  refine ⟨feed_lt _ hi.p, ?_, by simp [stepB, hi.l3], fun i h3 => ?_⟩
  · have := feed_len (blkBits c (gI st.2 part) (quantF (fwd xs) tabs c)) st.1
    have h0 := hi.out
    simp only [stepB]
    omega
  · obtain ⟨f1, f2, -⟩ := quantF_le xs tabs c hc hx.b ht.q 0 (by omega)
    simp only [stepB]
    rw [gI_set _ _ _ _ (by rw [hi.l3]; exact hp)]
    split
    · exact ⟨f1, f2⟩
    · exact hi.l i h3

theorem blkAt_ok {px : Nat → Nat → Nat → Int} (hpx : ∀ k x y, 0 ≤ px k x y ∧ px k x y ≤ 255) (k w h x y : Nat) : BlkOk (blkAt px k w h x y) := by
  refine ⟨blkAt_len .., fun i hi => ?_⟩
  unfold blkAt
  rw [gI_map hi]
  exact hpx ..

/-! chroma: the average of two by two -/
def rankC (i : Nat) : Nat := 16 * (i / 8 / 4 * 2 + i % 8 / 4) + (i / 8 % 4 * 4 + i % 8 % 4)
def idxC (t : Nat) : Nat := t / 16 / 2 * 32 + t / 16 % 2 * 4 + t % 16 / 4 * 8 + t % 16 % 4
theorem rank_check : ((List.range 64).all fun i => decide (idxC (rankC i) = i ∧ rankC (idxC i) = i ∧ idxC i < 64 ∧ rankC i < 64)) = true := by kernel_rfl
theorem rank_ok (i : Nat) (h : i < 64) : idxC (rankC i) = i ∧ rankC (idxC i) = i ∧ idxC i < 64 ∧ rankC i < 64 := of_decide_eq_true (List.all_eq_true.1 rank_check i (by simpa using h))
def avgAt (p : List Int) (j : Nat) : Int := (gI p (j / 4 * 16 + j % 4 * 2) + gI p (j / 4 * 16 + j % 4 * 2 + 1) + gI p (j / 4 * 16 + j % 4 * 2 + 8) + gI p (j / 4 * 16 + j % 4 * 2 + 9) + 2) / 4
def chrF (P : Nat → List Int) (i : Nat) : Int := avgAt (P (rankC i / 16)) (rankC i % 16)
def curC (F : Nat → Int) (t : Nat) : List Int := (List.range 64).map fun i => if rankC i < t then F i else 0
theorem curC_len (F : Nat → Int) (t : Nat) : (curC F t).length = 64 := by simp [curC]
theorem curC_zero (F : Nat → Int) : curC F 0 = List.replicate 64 0 := by
  apply List.ext_getElem
  · simp [curC]
  · intro i h1 h2; simp [curC, -List.reduceReplicate]
theorem curC_full (F : Nat → Int) : curC F 64 = (List.range 64).map F := by
  unfold curC
  refine List.map_congr_left fun i hi => ?_
  have := (rank_ok i (by simpa using hi)).2.2.2
  simp [this]
theorem curC_set (F : Nat → Int) (t : Nat) (ht : t < 64) : (curC F t).set (idxC t) (F (idxC t)) = curC F (t + 1) := by
  obtain ⟨-, r1, r2, -⟩ := rank_ok t ht
  apply List.ext_getElem?
  intro i
  rw [List.getElem?_set]
  unfold curC
  by_cases hi : i < 64
  · by_cases hij : idxC t = i
    · subst hij
      rw [if_pos rfl, if_pos (by simpa using hi)]
      simp [hi, r1]
    · rw [if_neg hij]
      simp only [List.getElem?_map, List.getElem?_range hi, Option.map_some]
      have hne : rankC i ≠ t := by
        intro h
        apply hij
        rw [← h]
        exact (rank_ok i hi).1
      congr 1
      by_cases h : rankC i < t
      · rw [if_pos h, if_pos (by omega)]
      · rw [if_neg h, if_neg (by omega)]
  · have h1 : (List.range 64)[i]? = none := List.getElem?_eq_none (by simpa using hi)
    simp only [List.getElem?_map, h1, Option.map_none]
    split
    · rename_i h; subst h; exact absurd r2 hi
    · rfl
def chr (P : Nat → List Int) : List Int := (List.range 64).map (chrF P)
theorem avg_ok {p : List Int} (h : BlkOk p) (j : Nat) (hj : j < 16) : inB 0 255 (avgAt p j) := by
  have a1 := h.b (j / 4 * 16 + j % 4 * 2) (by omega)
  have a2 := h.b (j / 4 * 16 + j % 4 * 2 + 1) (by omega)
  have a3 := h.b (j / 4 * 16 + j % 4 * 2 + 8) (by omega)
  have a4 := h.b (j / 4 * 16 + j % 4 * 2 + 9) (by omega)
  unfold inB at *
  unfold avgAt
  omega
theorem chr_ok {P : Nat → List Int} (h : ∀ k, k < 4 → BlkOk (P k)) : BlkOk (chr P) := by
  refine ⟨by simp [chr], fun i hi => ?_⟩
  unfold chr
  rw [gI_map hi]
  have := (rank_ok i hi).2.2.2
  exact avg_ok (h _ (by omega)) _ (by omega)

/-! the scan -/
section
variable (tabs : List Int) (px : Nat → Nat → Nat → Int) (w h : Nat)
def grayX (y : Nat) : Nat → Nat → ScS → ScS
  | 0, _, st => st
  | d + 1, x, st => if x < w then grayX y d (x + 8) (stepB tabs 0 0 (blkAt px 0 w h x y) st) else st
def grayY : Nat → Nat → ScS → ScS
  | 0, _, st => st
  | d + 1, y, st => if y < h then grayY d (y + 8) (grayX tabs px w h y 5 0 st) else st
def lumK (x y : Nat) : Nat → Nat → ScS → ScS
  | 0, _, st => st
  | d + 1, k, st => lumK x y d (k + 1) (stepB tabs 0 0 (blkAt px 0 w h (x + k % 2 * 8) (y + k / 2 * 8)) st)
def chrP (c x y : Nat) (k : Nat) : List Int := blkAt px c w h (x + k % 2 * 8) (y + k / 2 * 8)
def mcu (x y : Nat) (st : ScS) : ScS := stepB tabs 2 1 (chr (chrP px w h 2 x y)) (stepB tabs 1 1 (chr (chrP px w h 1 x y)) (lumK tabs px w h x y 4 0 st))
def colX (y : Nat) : Nat → Nat → ScS → ScS
  | 0, _, st => st
  | d + 1, x, st => if x < w then colX y d (x + 16) (mcu tabs px w h x y st) else st
def colY : Nat → Nat → ScS → ScS
  | 0, _, st => st
  | d + 1, y, st => if y < h then colY d (y + 16) (colX tabs px w h y 3 0 st) else st
def scan (gray : Bool) (st : ScS) : ScS := if gray then grayY tabs px w h 5 0 st else colY tabs px w h 3 0 st
end
end Go.VM
end
