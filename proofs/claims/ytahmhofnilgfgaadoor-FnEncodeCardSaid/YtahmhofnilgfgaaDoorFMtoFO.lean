/-
  A part of a machine over the model and of a walk by it, proved right against the model; proved outright, under no condition but what each theorem names.
-/
import Derived.Test.YtahmhofnilgfgaaDoorFDLtoFL
import Derived.Test.YtahmhofnilgfgaaDoorVWtoBB
import Derived.Test.YtahmhofnilgfgaaDoorETtoFG
set_option linter.unusedVariables false
set_option linter.unusedSimpArgs false
section
set_option linter.unusedSimpArgs false
namespace Go.VM
open Go Go.Proofs Go.Bits

/-! The reference: its tables of codes in memory, and what puts a code and a number. -/
def tabC : Nat → List Int
  | 0 => stC0
  | 1 => stC1
  | 2 => stC2
  | _ => stC3
def tabS : Nat → List Int
  | 0 => stS0
  | 1 => stS1
  | 2 => stS2
  | _ => stS3
def cB (k : Nat) : Blk := .own (intVs .i64 (tabC k) ++ (.vec (5 + 2 * k) (tabS k).length :: (intVs .i64 (tabK k) ++ intVs .i64 (tabW k)))) 71
def sB (k : Nat) : Blk := .vec .i64 (tabS k) 3
def spT : Mem := [.own [.ptr 0 0] 72, .own [.ptr 4 0, .ptr 6 0, .ptr 8 0, .ptr 10 0] 66, cB 0, sB 0, cB 1, sB 1, cB 2, sB 2, cB 3, sB 3]

theorem tab_lens : ((List.range 4).all fun k => decide ((tabC k).length = 17 ∧ (tabK k).length = 256 ∧ (tabW k).length = 256)) = true := by kernel_rfl
theorem tab_len (k : Nat) (hk : k < 4) : (tabC k).length = 17 ∧ (tabK k).length = 256 ∧ (tabW k).length = 256 := of_decide_eq_true (List.all_eq_true.1 tab_lens k (by simpa using hk))

theorem refsL_ints (k : IntKind) (xs : List Int) : V.refsL (intVs k xs) = [] := by
  induction xs with
  | nil => rfl
  | cons x xs ih => simpa [intVs, V.refsL, V.refs] using ih
theorem refsL_append (xs ys : List V) : V.refsL (xs ++ ys) = V.refsL xs ++ V.refsL ys := by
  induction xs with
  | nil => rfl
  | cons x xs ih => simp [V.refsL, ih]
theorem cB_refs (k : Nat) : (cB k).refs = [5 + 2 * k] := by
  simp only [cB, Blk.refs, refsL_append, V.refsL, refsL_ints, V.refs]
  rfl

theorem intVs_get (k : IntKind) (xs : List Int) (i : Nat) (h : i < xs.length) : (intVs k xs)[i]? = some (.int k (gI xs i)) := by
  simp [intVs, gI, h]

theorem cB_code (k s : Nat) (hk : k < 4) (hs : s < 256) : cellB (some (cB k)) (18 + s) = some (.int .i64 (entK k s : Nat)) := by
  obtain ⟨h1, h2, h3⟩ := tab_len k hk
  simp only [cB, cellB]
  rw [List.getElem?_append_right (by simp [intVs_length]; omega), intVs_length, h1, show 18 + s - 17 = s + 1 by omega, List.getElem?_cons_succ, List.getElem?_append_left (by simp [intVs_length]; omega), intVs_get _ _ _ (by omega), (ent_nn k s hk hs).1]
theorem cB_wide (k s : Nat) (hk : k < 4) (hs : s < 256) : cellB (some (cB k)) (274 + s) = some (.int .i64 (entW k s : Nat)) := by
  obtain ⟨h1, h2, h3⟩ := tab_len k hk
  simp only [cB, cellB]
  rw [List.getElem?_append_right (by simp [intVs_length]; omega), intVs_length, h1, show 274 + s - 17 = (256 + s) + 1 by omega, List.getElem?_cons_succ, List.getElem?_append_right (by simp [intVs_length]; omega), intVs_length, h2, show 256 + s - 256 = s by omega, intVs_get _ _ _ (by omega), (ent_nn k s hk hs).2]

theorem sp_get (p : List Bool) (out : List Int) (R : Mem) (k : Nat) (hk : k < 4) : (outMem p out ++ (spT ++ R))[4 + 2 * k]? = some (cB k) := by
  have : k = 0 ∨ k = 1 ∨ k = 2 ∨ k = 3 := by omega
  rcases this with rfl | rfl | rfl | rfl <;> rfl
theorem sp_ptr (k : Nat) (hk : k < 4) : cellB (some (.own [.ptr 4 0, .ptr 6 0, .ptr 8 0, .ptr 10 0] 66)) k = some (.ptr (4 + 2 * k) 0) := by
  have : k = 0 ∨ k = 1 ∨ k = 2 ∨ k = 3 := by omega
  rcases this with rfl | rfl | rfl | rfl <;> rfl
theorem outMem_cl {p : List Bool} {out : List Int} : memCl 2 (outMem p out) = true := rfl
theorem sp_2 {p : List Bool} {out : List Int} {R : Mem} : (outMem p out ++ (spT ++ R))[2]? = some (.own [.ptr 0 0] 72) := rfl
theorem sp_3 {p : List Bool} {out : List Int} {R : Mem} : (outMem p out ++ (spT ++ R))[3]? = some (.own [.ptr 4 0, .ptr 6 0, .ptr 8 0, .ptr 10 0] 66) := rfl

def noRef (b : Nat) (R : Mem) : Bool := R.all fun B => B.refs.all fun r => ![b].contains r
theorem spT_noRef : noRef 1 spT = true := by
  simp only [noRef, spT, List.all_cons, List.all_nil, cB_refs]
  rfl
theorem noRef_append (b : Nat) (R S : Mem) : noRef b (R ++ S) = (noRef b R && noRef b S) := by simp [noRef]

theorem put_cl (C : Ctx) (hP : C.P = Tryd.prog) (R : Mem) (hR : noRef 1 R = true) (t s : Nat) (ht : t < 4) (hs : s < 256) (x k : Nat) (hx : x < 4294967296) (hk : k ≤ 32) (p : List Bool) (out : List Int) (hp : p.length < 8) (ho : out.length ≤ 14000000) :
    VCalls C 23 [.int .i64 t, .int .i64 s, .int .u32 x, .int .i64 k, .ptr 2 0, .ptr 3 0] (outMem p out ++ (spT ++ R)) [1]
      (fun v M' => v = .tup [] ∧ M' = outMem (feed (p, out) (ent t s ++ bitsOf x k)).1 (feed (p, out) (ent t s ++ bitsOf x k)).2 ++ (spT ++ R)) := by
  refine VCalls.of_fn (hs := kz c23) (F := F23) (by rw [hP]; exact is23) (by simp [F23]) ?_
  obtain ⟨e1, e2⟩ := ent_le t s ht hs
  have h16 : 2 ^ entW t s ≤ 2 ^ 16 := Nat.pow_le_pow_right (by omega) e1
  have hRR : noRef 1 (spT ++ R) = true := by rw [noRef_append, spT_noRef, hR]; rfl
  have i1 : vidxA 4 1 (.ptr 3 0) (.int .i64 t) = some (.ptr 3 t) := by rw [vidxA_ptr (by omega) (by omega)]; simp
  have i2 : vidxA 256 1 (.ptr (4 + 2 * t) 18) (.int .i64 s) = some (.ptr (4 + 2 * t) (18 + s)) := by rw [vidxA_ptr (by omega) (by omega)]; simp
  have i3 : vidxA 256 1 (.ptr (4 + 2 * t) 274) (.int .i64 s) = some (.ptr (4 + 2 * t) (274 + s)) := by rw [vidxA_ptr (by omega) (by omega)]; simp
  have pt : ([.ptr 4 0, .ptr 6 0, .ptr 8 0, .ptr 10 0] : List V)[t]? = some (.ptr (4 + 2 * t) 0) := sp_ptr t ht
  have g1 := sp_get p out R t ht
  have c1 := cB_code t s ht hs
  have c2 := cB_wide t s ht hs
  have w1 : IntKind.u32.wrap ((entK t s : Nat) : Int) = ((entK t s : Nat) : Int) := wrap_u32_id (by omega) (by omega)
  simp -implicitDefEqProofs only [vms, ↓reduceIte, Nat.reduceEqDiff, Nat.reduceAdd, reduceCtorEq, F23, c23, sp_2, sp_3, i1, i2, i3, pt, g1, c1, c2, w1]
  refine callK_pre (spT ++ R) (put_spec C hP (entK t s) (by omega) (entW t s) (by omega) p out hp (by omega)) rfl rfl outMem_cl outMem_cl rfl rfl (by simp) rfl hRR ?_
  have hfl := feed_lt (ent t s) (s := (p, out)) hp
  have hol := feed_len (ent t s) (p, out)
  have hel := ent_len t s ht hs
  simp only at hol
  simp -implicitDefEqProofs only [vms, ↓reduceIte, Nat.reduceEqDiff, reduceCtorEq, callC, Nat.reduceBEq, sp_2]
  refine callK_pre (spT ++ R) (put_spec C hP x hx k hk (feed (p, out) (ent t s)).1 (feed (p, out) (ent t s)).2 hfl (by omega)) rfl rfl outMem_cl outMem_cl rfl rfl (by simp) rfl hRR ?_
  simp -implicitDefEqProofs only [vms, ↓reduceIte, callC, Nat.reduceBEq, vres_nil]
  refine retGo_refl ⟨rfl, ?_⟩
  rw [feed_append]
end Go.VM
end

section
set_option linter.unusedSimpArgs false
namespace Go.VM
open Go Go.Proofs Go.Bits

/-! The reference writes a block. -/
def RB (tabs last : List Int) : Mem := [.ints .i64 tabs 62, .ints .i64 last 75, .own [.fn 23 [.ptr 2 0, .ptr 3 0]] 78, .ints .i64 zzL 60, .own [.fn 13 []] 41]
def RQ (tabs last xs ys : List Int) : Mem := RB tabs last ++ [.ints .i32 xs 79, .ints .i32 ys 79]
def MM (p : List Bool) (out tabs last xs ys : List Int) : Mem := outMem p out ++ (spT ++ RQ tabs last xs ys)

section
variable {p : List Bool} {out tabs last xs ys : List Int}
theorem mm_12 : (MM p out tabs last xs ys)[12]? = some (.ints .i64 tabs 62) := rfl
theorem mm_13 : (MM p out tabs last xs ys)[13]? = some (.ints .i64 last 75) := rfl
theorem mm_14 : (MM p out tabs last xs ys)[14]? = some (.own [.fn 23 [.ptr 2 0, .ptr 3 0]] 78) := rfl
theorem mm_15 : (MM p out tabs last xs ys)[15]? = some (.ints .i64 zzL 60) := rfl
theorem mm_18 : (MM p out tabs last xs ys)[18]? = some (.ints .i32 ys 79) := rfl
theorem mm_len : (MM p out tabs last xs ys).length = 19 := rfl
theorem rq_noRef : noRef 1 (RQ tabs last xs ys) = true := rfl
end

theorem call23 : callable Tryd.prog 23 = true := by kernel_rfl
theorem call13 : callable Tryd.prog 13 = true := by kernel_rfl

theorem or_nib64 : ((List.range 16).all fun r => (List.range 16).all fun k => decide (Go.bits .or .i64 ((r * 16 : Nat) : Int) ((k : Nat) : Int) = ((r * 16 + k : Nat) : Int))) = true := by kernel_rfl
theorem or_i64 (r k : Nat) (hr : r < 16) (hk : k < 16) : Go.bits .or .i64 ((r * 16 : Nat) : Int) (k : Int) = ((r * 16 + k : Nat) : Int) := by
  have h := List.all_eq_true.1 or_nib64 r (by simpa using hr)
  simpa using List.all_eq_true.1 h k (by simpa using hk)

section
variable (C : Ctx) (hP : C.P = Tryd.prog) (tabs last xs ys : List Int) (c : Nat) (hc : c < 2)

theorem put_mm (hP : C.P = Tryd.prog) (t s : Nat) (ht : t < 4) (hs : s < 256) (x k : Nat) (hx : x < 4294967296) (hk : k ≤ 32) (p : List Bool) (out : List Int) (hp : p.length < 8) (ho : out.length ≤ 14000000) :
    VCalls C 23 [.int .i64 t, .int .i64 s, .int .u32 x, .int .i64 k, .ptr 2 0, .ptr 3 0] (MM p out tabs last xs ys) [1]
      (fun v M' => v = .tup [] ∧ M' = MM (feed (p, out) (ent t s ++ bitsOf x k)).1 (feed (p, out) (ent t s ++ bitsOf x k)).2 tabs last xs ys) :=
  put_cl C hP _ rq_noRef t s ht hs x k hx hk p out hp ho

include hP hc in
theorem szrl_loop (Q : VX → Env → Mem → Prop) : ∀ (d r : Nat) (p : List Bool) (out : List Int) (e : Env), p.length < 8 → out.length + 32 * d ≤ 13000000 → r / 16 = d → r < 1000 → e.get 1 = .int .i64 c → e.get 6 = .ptr 14 0 → e.get 14 = .int .i64 r →
    (∀ e' : Env, (∀ k, k ∈ [1, 4, 6, 7, 11, 15, 16] → e'.get k = e.get k) → e'.get 14 = .int .i64 (r % 16 : Nat) →
      Q (.exit 2) e' (MM (feed (p, out) (List.replicate d (ent (2 * c + 1) 240)).flatten).1 (feed (p, out) (List.replicate d (ent (2 * c + 1) 240)).flatten).2 tabs last xs ys)) →
    (e.get 4).drops [1] = e.get 4 → (e.get 7).drops [1] = e.get 7 → (e.get 11).drops [1] = e.get 11 → (e.get 15).drops [1] = e.get 15 → (e.get 16).drops [1] = e.get 16 →
    VRounds 17 (VWp C 17 [1] c25l0) (d + 1) e (MM p out tabs last xs ys) Q := by
  intro d
  induction d with
  | zero =>
    intro r p out e hp ho hr hr2 g1 g6 g14 hQ k4 k7 k11 k15 k16
    refine round_gen fun K1 hK1 => ?_
    have hd : decide ((15 : Int) < (r : Int)) = false := by simp; omega
    simp -implicitDefEqProofs only [vms, ↓reduceIte, Nat.reduceEqDiff, c25l0, g14, hd]
    rw [hK1]
    refine hQ _ ?_ ?_
    · intro k hk
      simp only [List.mem_cons, List.not_mem_nil, or_false] at hk
      rcases hk with rfl | rfl | rfl | rfl | rfl | rfl | rfl <;> simp -implicitDefEqProofs only [vms, ↓reduceIte, Nat.reduceEqDiff]
    · simp -implicitDefEqProofs only [vms, ↓reduceIte, Nat.reduceEqDiff]
      rw [show r % 16 = r by omega]
  | succ d ih =>
    intro r p out e hp ho hr hr2 g1 g6 g14 hQ k4 k7 k11 k15 k16
    refine round_gen fun K1 hK1 => ?_
    have hd : decide ((15 : Int) < (r : Int)) = true := by simp; omega
    have hw : IntKind.i64.wrap ((r : Int) - 16) = ((r - 16 : Nat) : Int) := by rw [wrap_i64_id (by omega) (by omega)]; omega
    have e1 : IntKind.i64.wrap (2 * (c : Int)) = ((2 * c : Nat) : Int) := by rw [wrap_i64_id (by omega) (by omega)]; omega
    have e3 : IntKind.i64.wrap (((2 * c : Nat) : Int) + 1) = ((2 * c + 1 : Nat) : Int) := by rw [wrap_i64_id (by omega) (by omega)]; omega
    simp -implicitDefEqProofs only [vms, ↓reduceIte, Nat.reduceEqDiff, c25l0, g1, g6, g14, hd, mm_14, e1, e3, hP, call23]
    refine callK_of [1] rfl (by simp) (put_mm C tabs last xs ys hP (2 * c + 1) 240 (by omega) (by omega) 0 0 (by omega) (by omega) p out hp (by omega)) ?_
    rintro _ _ ⟨rfl, rfl⟩
    have hb0 : ent (2 * c + 1) 240 ++ bitsOf 0 0 = ent (2 * c + 1) 240 := by simp [bitsOf]
    rw [hb0]
    have hfl := feed_lt (ent (2 * c + 1) 240) (s := (p, out)) hp
    have hol := feed_len (ent (2 * c + 1) 240) (p, out)
    have hel := ent_len (2 * c + 1) 240 (by omega) (by omega)
    simp only at hol
    simp -implicitDefEqProofs only [vms, ↓reduceIte, Nat.reduceEqDiff, callC, Nat.reduceBEq, hw, k4, k7, k11, k15, k16]
    rw [hK1, roundK_normal]
    refine ih (r - 16) _ _ _ hfl (by omega) (by omega) (by omega) ?_ ?_ ?_ ?_ ?_ ?_ ?_ ?_ ?_
    · simp -implicitDefEqProofs only [vms, ↓reduceIte, Nat.reduceEqDiff]
    · simp -implicitDefEqProofs only [vms, ↓reduceIte, Nat.reduceEqDiff]
    · simp -implicitDefEqProofs only [vms, ↓reduceIte, Nat.reduceEqDiff]
    · intro e' h1 h2
      have := hQ e' (fun k hk => ?_) (by rw [h2]; congr 2; omega)
      · simpa only [List.replicate_succ, List.flatten_cons, feed_append] using this
      · rw [h1 k hk]
        simp only [List.mem_cons, List.not_mem_nil, or_false] at hk
        rcases hk with rfl | rfl | rfl | rfl | rfl | rfl | rfl <;> simp -implicitDefEqProofs only [vms, ↓reduceIte, Nat.reduceEqDiff, g1, g6]
    all_goals simp -implicitDefEqProofs only [vms, ↓reduceIte, Nat.reduceEqDiff, k4, k7, k11, k15, k16]

include hP hc in
theorem sac_loop (hys : ys.length = 64) (htl : tabs.length = 128) (hq : ∀ i, i < 128 → 1 ≤ gI tabs i ∧ gI tabs i ≤ 255) (hy : ∀ i, i < 64 → -1000000 ≤ gI ys i ∧ gI ys i ≤ 1000000) (hf : ∀ i, 1 ≤ i → i < 64 → (quantF ys tabs c i).natAbs < 1024) (Q : VX → Env → Mem → Prop) :
    ∀ (d j r : Nat) (p : List Bool) (out : List Int) (e : Env), j + d = 64 → 1 ≤ j → r < j → p.length < 8 → out.length + 200 * d ≤ 12500000 → e.get 1 = .int .i64 c → e.get 4 = .ptr 12 0 → e.get 6 = .ptr 14 0 → e.get 7 = .ptr 15 0 → e.get 11 = .ptr 18 0 → e.get 14 = .int .i64 r → e.get 15 = .int .i64 j →
    (∀ e' : Env, e'.get 1 = .int .i64 c → e'.get 6 = .ptr 14 0 → e'.get 14 = .int .i64 ((acGo (2 * c + 1) (quantF ys tabs c) d j r).2 : Nat) →
      Q (.exit 0) e' (MM (feed (p, out) (acGo (2 * c + 1) (quantF ys tabs c) d j r).1).1 (feed (p, out) (acGo (2 * c + 1) (quantF ys tabs c) d j r).1).2 tabs last xs ys)) →
    VRounds 17 (VWp C 17 [1] c25l1) (d + 1) e (MM p out tabs last xs ys) Q := by
  intro d
  induction d with
  | zero =>
    intro j r p out e hj h1 hr hp ho g1 g4 g6 g7 g11 g14 g15 hQ
    refine round_gen fun K1 hK1 => ?_
    have hj' : j = 64 := by omega
    subst hj'
    have hd : decide (((64 : Nat) : Int) < 64) = false := by decide
    simp -implicitDefEqProofs only [vms, ↓reduceIte, Nat.reduceEqDiff, natCast_lit, Int.reduceLT, c25l1, g15]
    rw [hK1]
    refine hQ _ ?_ ?_ ?_ <;> simp -implicitDefEqProofs only [vms, ↓reduceIte, Nat.reduceEqDiff, g1, g6, g14]
    rfl
  | succ d ih =>
    intro j r p out e hj h1 hr hp ho g1 g4 g6 g7 g11 g14 g15 hQ
    refine round_gen fun K1 hK1 => ?_
    have hd : decide ((j : Int) < 64) = true := by simp; omega
    have hwj : IntKind.i64.wrap ((j : Int) + 1) = ((j + 1 : Nat) : Int) := by rw [wrap_i64_id (by omega) (by omega)]; rfl
    have hwr : IntKind.i64.wrap ((r : Int) + 1) = ((r + 1 : Nat) : Int) := by rw [wrap_i64_id (by omega) (by omega)]; rfl
    have e1 : IntKind.i64.wrap (2 * (c : Int)) = ((2 * c : Nat) : Int) := by rw [wrap_i64_id (by omega) (by omega)]; omega
    have e3 : IntKind.i64.wrap (((2 * c : Nat) : Int) + 1) = ((2 * c + 1 : Nat) : Int) := by rw [wrap_i64_id (by omega) (by omega)]; omega
    obtain ⟨z1, z2, z3⟩ := zz_le j (by omega)
    obtain ⟨q1, q2⟩ := hq (64 * c + j) (by omega)
    obtain ⟨y1, y2⟩ := hy (gI zzL j).toNat (by omega)
    have i1 : vidxA 64 1 (.ptr 15 0) (.int .i64 j) = some (.ptr 15 j) := by rw [vidxA_ptr (by omega) (by omega)]; simp
    have i2 : cellB (some (.ints .i64 zzL 60)) j = some (.int .i64 (gI zzL j)) := cellB_ints (gI_get zzL _ (by show j < 64; omega))
    have i3 : vidxA 64 1 (.ptr 18 0) (.int .i64 (gI zzL j)) = some (.ptr 18 (gI zzL j).toNat) := by
      rw [vidxA_ptr z1 (by omega)]; simp
    have ld : cellB (some (.ints .i32 ys 79)) (gI zzL j).toNat = some (.int .i32 (gI ys (gI zzL j).toNat)) := cellB_ints (gI_get ys _ (by omega))
    have i4 : vidxA 2 64 (.ptr 12 0) (.int .i64 (c : Int)) = some (.ptr 12 (64 * c)) := by
      rw [vidxA_ptr (by omega) (by omega)]; congr 2; simp; omega
    have i5 : vidxA 64 1 (.ptr 12 (64 * c)) (.int .i64 (j : Int)) = some (.ptr 12 (64 * c + j)) := by
      rw [vidxA_ptr (by omega) (by omega)]; congr 2; simp
    have ldq : cellB (some (.ints .i64 tabs 62)) (64 * c + j) = some (.int .i64 (gI tabs (64 * c + j))) := cellB_ints (gI_get tabs _ (by omega))
    have hwy : IntKind.i64.wrap (gI ys (gI zzL j).toNat) = gI ys (gI zzL j).toNat := wrap_i64_id (by omega) (by omega)
    have hw8 : IntKind.i64.wrap (8 * gI tabs (64 * c + j)) = 8 * gI tabs (64 * c + j) := wrap_i64_id (by omega) (by omega)
    simp -implicitDefEqProofs only [vms, ↓reduceIte, Nat.reduceEqDiff, c25l1, g1, g4, g6, g7, g11, g14, g15, hd, i1, i2, i3, mm_15, mm_18, mm_12, ld, i4, i5, ldq, hwy, hw8]
    refine callK_of [] rfl (by simp) (rounded_spec C hP _ (gI ys (gI zzL j).toNat) (8 * gI tabs (64 * c + j)) ⟨y1, y2⟩ (by omega)) ?_
    rintro _ _ ⟨rfl, rfl⟩
    have hfj := hf j h1 (by omega)
    have hx : rnd (gI ys (gI zzL j).toNat) (8 * gI tabs (64 * c + j)) = quantF ys tabs c j := rfl
    rw [hx]
    generalize hX : quantF ys tabs c j = x at *
    by_cases h0 : x = 0
    · have hd0 : decide (x = 0) = true := by simp [h0]
      simp -implicitDefEqProofs only [vms, ↓reduceIte, Nat.reduceEqDiff, callC, hd0, hwr, hwj]
      rw [hK1, roundK_normal]
      have hgo : acGo (2 * c + 1) (quantF ys tabs c) (d + 1) j r = acGo (2 * c + 1) (quantF ys tabs c) d (j + 1) (r + 1) := by
        simp only [acGo, hX, h0, if_true]
      rw [hgo] at hQ
      refine ih (j + 1) (r + 1) p out _ (by omega) (by omega) (by omega) hp (by omega) ?_ ?_ ?_ ?_ ?_ ?_ ?_ hQ <;> simp -implicitDefEqProofs only [vms, ↓reduceIte, Nat.reduceEqDiff]
    · have hd0 : decide (x = 0) = false := by simp [h0]
      have hgo : acGo (2 * c + 1) (quantF ys tabs c) (d + 1) j r = (acX (2 * c + 1) r x ++ (acGo (2 * c + 1) (quantF ys tabs c) d (j + 1) 0).1, (acGo (2 * c + 1) (quantF ys tabs c) d (j + 1) 0).2) := by
        simp only [acGo, hX, h0, if_false]
      rw [hgo] at hQ
      simp -implicitDefEqProofs only [vms, ↓reduceIte, Nat.reduceEqDiff, callC, hd0]
      apply VWp_loop_of (k := r / 16 + 1)
      refine szrl_loop C hP tabs last xs ys c hc _ (r / 16) r p out _ hp (by omega) rfl (by omega) ?_ ?_ ?_ ?_ ?_ ?_ ?_ ?_ ?_
      · simp -implicitDefEqProofs only [vms, ↓reduceIte, Nat.reduceEqDiff]
      · simp -implicitDefEqProofs only [vms, ↓reduceIte, Nat.reduceEqDiff]
      · simp -implicitDefEqProofs only [vms, ↓reduceIte, Nat.reduceEqDiff]
      · intro e' k1 k14
        have kk1 : e'.get 1 = .int .i64 c := by rw [k1 1 (by simp)]; (simp -implicitDefEqProofs only [vms, ↓reduceIte, Nat.reduceEqDiff]; try rfl)
        have k4 : e'.get 4 = .ptr 12 0 := by rw [k1 4 (by simp)]; (simp -implicitDefEqProofs only [vms, ↓reduceIte, Nat.reduceEqDiff]; try rfl)
        have k6 : e'.get 6 = .ptr 14 0 := by rw [k1 6 (by simp)]; (simp -implicitDefEqProofs only [vms, ↓reduceIte, Nat.reduceEqDiff]; try rfl)
        have k7 : e'.get 7 = .ptr 15 0 := by rw [k1 7 (by simp)]; (simp -implicitDefEqProofs only [vms, ↓reduceIte, Nat.reduceEqDiff]; try rfl)
        have k11 : e'.get 11 = .ptr 18 0 := by rw [k1 11 (by simp)]; (simp -implicitDefEqProofs only [vms, ↓reduceIte, Nat.reduceEqDiff]; try rfl)
        have k15 : e'.get 15 = .int .i64 j := by rw [k1 15 (by simp)]; (simp -implicitDefEqProofs only [vms, ↓reduceIte, Nat.reduceEqDiff]; try rfl)
        have k16 : e'.get 16 = .int .i64 x := by rw [k1 16 (by simp)]; (simp -implicitDefEqProofs only [vms, ↓reduceIte, Nat.reduceEqDiff]; try rfl)
        have hfl := feed_lt (List.replicate (r / 16) (ent (2 * c + 1) 240)).flatten (s := (p, out)) hp
        have hol := feed_len (List.replicate (r / 16) (ent (2 * c + 1) 240)).flatten (p, out)
        have hrl := rep_len (2 * c + 1) (r / 16) (by omega)
        simp only at hol
        have hbl : blen x.natAbs ≤ 10 := blen_le (by omega)
        have hcn := codedN_lt x
        have h210 : 2 ^ blen x.natAbs ≤ 2 ^ 10 := Nat.pow_le_pow_right (by omega) hbl
        have hshl : IntKind.i64.wrap (((r % 16 : Nat) : Int) * 2 ^ 4) = ((r % 16 * 16 : Nat) : Int) := by rw [wrap_i64_id (by omega) (by omega)]; omega
        have hshl2 : IntKind.i64.wrap (((r % 16 : Nat) : Int) * 16) = ((r % 16 * 16 : Nat) : Int) := by rw [wrap_i64_id (by omega) (by omega)]; omega
        have hor := or_i64 (r % 16) (blen x.natAbs) (by omega) (by omega)
        simp -implicitDefEqProofs only [vms, ↓reduceIte, k16]
        refine callK_of [] rfl (by simp) (size_spec C hP _ x (by omega)) ?_
        rintro _ _ ⟨rfl, rfl⟩
        simp -implicitDefEqProofs only [vms, ↓reduceIte, Nat.reduceEqDiff, Nat.min_def, IntKind.bits, Nat.reduceLeDiff, Int.reducePow, Int.reduceToNat, Int.reduceLE, callC, kk1, k4, k6, k7, k11, k14, k15, k16, mm_14, e1, e3, hshl2, hor]
        refine callK_of [] rfl (by simp) (coded_spec C hP _ x (by omega)) ?_
        rintro _ _ ⟨rfl, rfl⟩
        simp -implicitDefEqProofs only [vms, ↓reduceIte, Nat.reduceEqDiff, Nat.min_def, IntKind.bits, Nat.reduceLeDiff, Int.reducePow, Int.reduceToNat, Int.reduceLE, callC, mm_14, e1, e3, hshl2, hor, hP, call23]
        refine callK_of [1] rfl (by simp) (put_mm C tabs last xs ys hP (2 * c + 1) (r % 16 * 16 + blen x.natAbs) (by omega) (by omega) (codedN x) (blen x.natAbs) (by omega) (by omega) _ _ hfl (by omega)) ?_
        rintro _ _ ⟨rfl, rfl⟩
        simp -implicitDefEqProofs only [vms, ↓reduceIte, Nat.reduceEqDiff, callC, Nat.reduceBEq, hwj]
        rw [hK1, roundK_normal]
        have hfeed : feed (feed (p, out) (List.replicate (r / 16) (ent (2 * c + 1) 240)).flatten) (ent (2 * c + 1) (r % 16 * 16 + blen x.natAbs) ++ bitsOf (codedN x) (blen x.natAbs)) = feed (p, out) (acX (2 * c + 1) r x) := by
          rw [← feed_append]; rfl
        have hfl2 := feed_lt (acX (2 * c + 1) r x) (s := (p, out)) hp
        have hol2 := feed_len (acX (2 * c + 1) r x) (p, out)
        have hal := acX_len (2 * c + 1) r x (by omega) (by omega) (by omega)
        simp only at hol2
        rw [hfeed]
        refine ih (j + 1) 0 _ _ _ (by omega) (by omega) (by omega) hfl2 (by omega) ?_ ?_ ?_ ?_ ?_ ?_ ?_ ?_
        · simp -implicitDefEqProofs only [vms, ↓reduceIte, Nat.reduceEqDiff]
        · simp -implicitDefEqProofs only [vms, ↓reduceIte, Nat.reduceEqDiff]
        · simp -implicitDefEqProofs only [vms, ↓reduceIte, Nat.reduceEqDiff]
        · simp -implicitDefEqProofs only [vms, ↓reduceIte, Nat.reduceEqDiff]
        · simp -implicitDefEqProofs only [vms, ↓reduceIte, Nat.reduceEqDiff]
        · (simp -implicitDefEqProofs only [vms, ↓reduceIte, Nat.reduceEqDiff, natCast_lit]; try rfl)
        · simp -implicitDefEqProofs only [vms, ↓reduceIte, Nat.reduceEqDiff]
        · simpa only [feed_append] using hQ
      all_goals simp -implicitDefEqProofs only [vms, ↓reduceIte, Nat.reduceEqDiff, Nat.reduceBEq]
end

def MB (p : List Bool) (out tabs last : List Int) : Mem := outMem p out ++ (spT ++ RB tabs last)

theorem mb_cl {p : List Bool} {out tabs last : List Int} : memCl 17 (MB p out tabs last) = true := by
  simp only [memCl, MB, outMem, spT, RB, List.cons_append, List.nil_append, List.all_cons, List.all_nil, cB_refs]
  rfl

theorem block_cl (C : Ctx) (hP : C.P = Tryd.prog) (tabs last xs : List Int) (c : Nat) (hc : c < 2) (part : Nat) (hpart : part < 3) (hll : last.length = 3) (hl : -1024 ≤ gI last part ∧ gI last part ≤ 1020) (hxs : xs.length = 64) (hx : ∀ i, i < 64 → inB 0 255 (gI xs i))
    (htl : tabs.length = 128) (hq : ∀ i, i < 128 → 1 ≤ gI tabs i ∧ gI tabs i ≤ 255) (p : List Bool) (hp : p.length < 8) (out : List Int) (ho : out.length ≤ 12000000) :
    VCalls C 25 [.int .i64 part, .int .i64 c, .ints .i32 xs, .ptr 16 0, .ptr 12 0, .ptr 13 0, .ptr 14 0, .ptr 15 0] (MB p out tabs last) [1]
      (fun v M' => v = .tup [] ∧ M' = MB (feed (p, out) (blkBits c (gI last part) (quantF (fwd xs) tabs c))).1 (feed (p, out) (blkBits c (gI last part) (quantF (fwd xs) tabs c))).2 tabs (last.set part (quantF (fwd xs) tabs c 0))) := by
  refine VCalls.of_fn (hs := h25) (F := F25) (by rw [hP]; exact is25) (by simp [F25]) ?_
  obtain ⟨f1, f2, -⟩ := quantF_le xs tabs c hc hx hq 0 (by omega)
  have hy : ∀ i, i < 64 → -1000000 ≤ gI (fwd xs) i ∧ gI (fwd xs) i ≤ 1000000 := by
    intro i hi
    have := (fwd_bounds xs hx i hi).1
    unfold inB at this
    omega
  have hf : ∀ i, 1 ≤ i → i < 64 → (quantF (fwd xs) tabs c i).natAbs < 1024 := by
    intro i h1 h2
    obtain ⟨g1, g2, -⟩ := quantF_le xs tabs c hc hx hq i h2
    have := (quantF_le xs tabs c hc hx hq i h2).2.2 (by omega)
    omega
  obtain ⟨q1, q2⟩ := hq (64 * c) (by omega)
  obtain ⟨y1, y2⟩ := hy 0 (by omega)
  have l17 : (MB p out tabs last).length = 17 := rfl
  have m16 : (MB p out tabs last ++ [Blk.ints .i32 xs 79])[16]? = some (.own [.fn 13 []] 41) := rfl
  have m17 : (MB p out tabs last ++ [Blk.ints .i32 xs 79])[17]? = some (.ints .i32 xs 79) := rfl
  have l18 : (MB p out tabs last ++ [Blk.ints .i32 xs 79]).length = 18 := rfl
  have r17 : rangeB (some (.ints .i32 xs 79)) 0 64 = some (.ints .i32 xs) := rangeB_ints hxs.symm
  have hst : stGo (MB p out tabs last ++ [Blk.ints .i32 xs 79] ++ [Blk.ints .i32 (List.replicate 64 0) 79]) 64 (.ints .i32 (fwd xs)) (.ptr 18 0) = some (.undef, MM p out tabs last xs (fwd xs)) := by
    rw [stGo_all (k := .i32) (xs := List.replicate 64 0) (T := 79) rfl (fwd_len xs).symm (by rw [fwd_len]; rfl)]
    rfl
  simp -implicitDefEqProofs only [vms, ↓reduceIte, Nat.reduceEqDiff, Nat.reduceAdd, reduceCtorEq, F25, c25, l17, m16, range_eqB, m17, r17, hP, call13]
  refine callK_new (forward_spec C hP xs hxs) rfl rfl (.ints .i32 (fwd xs)) [] rfl rfl ?_
  have ld : cellB (some (.ints .i32 (fwd xs) 79)) 0 = some (.int .i32 (gI (fwd xs) 0)) := cellB_ints (gI_get _ 0 (by rw [fwd_len]; omega))
  have i4 : vidxA 2 64 (.ptr 12 0) (.int .i64 (c : Int)) = some (.ptr 12 (64 * c)) := by
    rw [vidxA_ptr (by omega) (by omega)]; congr 2; simp; omega
  have ldq : cellB (some (.ints .i64 tabs 62)) (64 * c) = some (.int .i64 (gI tabs (64 * c))) := cellB_ints (gI_get tabs _ (by omega))
  have i6 : vidxA 3 1 (.ptr 13 0) (.int .i64 (part : Int)) = some (.ptr 13 part) := by rw [vidxA_ptr (by omega) (by omega)]; simp
  have ldl : cellB (some (.ints .i64 last 75)) part = some (.int .i64 (gI last part)) := cellB_ints (gI_get last _ (by omega))
  have hwy : IntKind.i64.wrap (gI (fwd xs) 0) = gI (fwd xs) 0 := wrap_i64_id (by omega) (by omega)
  have hw8 : IntKind.i64.wrap (8 * gI tabs (64 * c)) = 8 * gI tabs (64 * c) := wrap_i64_id (by omega) (by omega)
  have e1 : IntKind.i64.wrap (2 * (c : Int)) = ((2 * c : Nat) : Int) := by rw [wrap_i64_id (by omega) (by omega)]; omega
  have e3 : IntKind.i64.wrap (((2 * c : Nat) : Int) + 1) = ((2 * c + 1 : Nat) : Int) := by rw [wrap_i64_id (by omega) (by omega)]; omega
  simp -implicitDefEqProofs only [vms, ↓reduceIte, Nat.reduceEqDiff, reduceCtorEq, Int.reduceToNat, Int.reduceLE, callC, Nat.reduceLT, vidxA_lit, Nat.reduceMul, List.append_nil, l18, hst, mm_12, mm_18, ld, i4, ldq, hwy, hw8]
  refine callK_of [] rfl (by simp) (rounded_spec C hP _ (gI (fwd xs) 0) (8 * gI tabs (64 * c)) ⟨y1, y2⟩ (by omega)) ?_
  rintro _ _ ⟨rfl, rfl⟩
  have hX0 : rnd (gI (fwd xs) 0) (8 * gI tabs (64 * c)) = quantF (fwd xs) tabs c 0 := rfl
  rw [hX0]
  have hacB : ∀ x, blkBits c (gI last part) (quantF (fwd xs) tabs c) = x → x = dcX (2 * c) (quantF (fwd xs) tabs c 0 - gI last part) ++ ((acGo (2 * c + 1) (quantF (fwd xs) tabs c) 63 1 0).1 ++ eob (2 * c + 1) (acGo (2 * c + 1) (quantF (fwd xs) tabs c) 63 1 0).2) := fun x hx => hx.symm
  rw [hacB _ rfl]
  have hal := acGo_len (2 * c + 1) (quantF (fwd xs) tabs c) (by omega) 63 1 0 (by omega) (fun i h1 h2 => hf i h1 (by omega))
  have hac := fun last => sac_loop C hP tabs last xs (fwd xs) c hc (fwd_len xs) htl hq hy hf
  generalize hX : quantF (fwd xs) tabs c 0 = x at *
  generalize hL : gI last part = prev at *
  have hwd : IntKind.i64.wrap (x - prev) = x - prev := wrap_i64_id (by omega) (by omega)
  have hbl : blen (x - prev).natAbs ≤ 11 := blen_le (by omega)
  have hcn := codedN_lt (x - prev)
  have h211 : 2 ^ blen (x - prev).natAbs ≤ 2 ^ 11 := Nat.pow_le_pow_right (by omega) hbl
  simp -implicitDefEqProofs only [vms, ↓reduceIte, Nat.reduceEqDiff, reduceCtorEq, callC, mm_13, i6, ldl, hwd]
  refine callK_of [] rfl (by simp) (size_spec C hP _ (x - prev) (by omega)) ?_
  rintro _ _ ⟨rfl, rfl⟩
  simp -implicitDefEqProofs only [vms, ↓reduceIte, Nat.reduceEqDiff, reduceCtorEq, callC, mm_13, mm_14, i6, ldl, hwd, e1]
  refine callK_of [] rfl (by simp) (coded_spec C hP _ (x - prev) (by omega)) ?_
  rintro _ _ ⟨rfl, rfl⟩
  simp -implicitDefEqProofs only [vms, ↓reduceIte, Nat.reduceEqDiff, reduceCtorEq, callC, mm_14, e1, hP, call23]
  refine callK_of [1] rfl (by simp) (put_mm C tabs last xs (fwd xs) hP (2 * c) (blen (x - prev).natAbs) (by omega) (by omega) (codedN (x - prev)) (blen (x - prev).natAbs) (by omega) (by omega) p out hp (by omega)) ?_
  rintro _ _ ⟨rfl, rfl⟩
  have hfeed : feed (p, out) (ent (2 * c) (blen (x - prev).natAbs) ++ bitsOf (codedN (x - prev)) (blen (x - prev).natAbs)) = feed (p, out) (dcX (2 * c) (x - prev)) := rfl
  rw [hfeed]
  have hfl := feed_lt (dcX (2 * c) (x - prev)) (s := (p, out)) hp
  have hol := feed_len (dcX (2 * c) (x - prev)) (p, out)
  have hdl : (dcX (2 * c) (x - prev)).length ≤ 31 := by
    have h1 := ent_len (2 * c) (blen (x - prev).natAbs) (by omega) (by omega)
    have h2 := numB_len (x - prev) (by omega)
    simp only [dcX, List.length_append]
    omega
  simp only at hol
  have hpb : ∀ M : Mem, putB M 13 part (.int .i64 x) (some (.ints .i64 last 75)) = some (.undef, M.set 13 (.ints .i64 (last.set part x) 75)) := fun M => putB_ints (by omega)
  have hms : ∀ p out, (MM p out tabs last xs (fwd xs)).set 13 (.ints .i64 (last.set part x) 75) = MM p out tabs (last.set part x) xs (fwd xs) := fun _ _ => rfl
  simp -implicitDefEqProofs only [vms, ↓reduceIte, Nat.reduceEqDiff, reduceCtorEq, callC, Nat.reduceBEq, i6, mm_13, hpb, hms]
  apply VWp_loop_of (k := 64)
  refine hac (last.set part x) _ 63 1 0 _ _ _ rfl (by omega) (by omega) hfl (by omega) ?_ ?_ ?_ ?_ ?_ ?_ ?_ ?_
  · simp -implicitDefEqProofs only [vms, ↓reduceIte, Nat.reduceEqDiff]
  · simp -implicitDefEqProofs only [vms, ↓reduceIte, Nat.reduceEqDiff]
  · simp -implicitDefEqProofs only [vms, ↓reduceIte, Nat.reduceEqDiff]
  · simp -implicitDefEqProofs only [vms, ↓reduceIte, Nat.reduceEqDiff]
  · simp -implicitDefEqProofs only [vms, ↓reduceIte, Nat.reduceEqDiff]
  · (simp -implicitDefEqProofs only [vms, ↓reduceIte, Nat.reduceEqDiff, natCast_lit]; try rfl)
  · (simp -implicitDefEqProofs only [vms, ↓reduceIte, Nat.reduceEqDiff, natCast_lit]; try rfl)
  · intro e' g1 g6 g14
    have hol2 : (feed ((feed (p, out) (dcX (2 * c) (x - prev))).1, (feed (p, out) (dcX (2 * c) (x - prev))).2) (acGo (2 * c + 1) (quantF (fwd xs) tabs c) 63 1 0).1).2.length ≤ (feed (p, out) (dcX (2 * c) (x - prev))).2.length + 2 * (acGo (2 * c + 1) (quantF (fwd xs) tabs c) 63 1 0).1.length := feed_len _ _
    have hfl2 := feed_lt (acGo (2 * c + 1) (quantF (fwd xs) tabs c) 63 1 0).1 (s := feed (p, out) (dcX (2 * c) (x - prev))) hfl
    generalize acGo (2 * c + 1) (quantF (fwd xs) tabs c) 63 1 0 = G at *
    by_cases h0 : G.2 = 0
    · have hd : decide ((0 : Int) < ((G.2 : Nat) : Int)) = false := by simp [h0]
      simp -implicitDefEqProofs only [vms, ↓reduceIte, Nat.reduceEqDiff, g1, g6, g14, hd, vres_nil]
      refine retGo_take 17 (Nat.le_refl _) (by simp [mm_len]) rfl mb_cl ⟨rfl, ?_⟩
      simp only [eob, h0, if_true, List.append_nil, feed_append]
      rfl
    · have hd : decide ((0 : Int) < ((G.2 : Nat) : Int)) = true := by simp; omega
      simp -implicitDefEqProofs only [vms, ↓reduceIte, Nat.reduceEqDiff, g1, g6, g14, hd, mm_14, e1, e3, hP, call23]
      refine callK_of [1] rfl (by simp) (put_mm C tabs (last.set part x) xs (fwd xs) hP (2 * c + 1) 0 (by omega) (by omega) 0 0 (by omega) (by omega) _ _ hfl2 (by omega)) ?_
      rintro _ _ ⟨rfl, rfl⟩
      have hb0 : ent (2 * c + 1) 0 ++ bitsOf 0 0 = ent (2 * c + 1) 0 := by simp [bitsOf]
      rw [hb0]
      simp -implicitDefEqProofs only [vms, ↓reduceIte, callC, Nat.reduceBEq, vres_nil]
      refine retGo_take 17 (Nat.le_refl _) (by simp [mm_len]) rfl mb_cl ⟨rfl, ?_⟩
      simp only [eob, h0, if_false, feed_append]
      rfl
end Go.VM
end

section
set_option linter.unusedSimpArgs false
namespace Go.VM
open Go Go.Proofs Go.Bits

/-! Blocks of a picture: plain; the reference's part. -/
/-- a row that is filled from its beginning -/
def cur (n : Nat) (F : Nat → Int) (j : Nat) : List Int := (List.range n).map fun i => if i < j then F i else 0
theorem cur_len (n : Nat) (F : Nat → Int) (j : Nat) : (cur n F j).length = n := by simp [cur]
theorem cur_set (n : Nat) (F : Nat → Int) (j : Nat) : (cur n F j).set j (F j) = cur n F (j + 1) := by
  apply List.ext_getElem?
  intro i
  rw [List.getElem?_set]
  unfold cur
  by_cases hi : i < n
  · by_cases hij : j = i
    · subst hij
      rw [if_pos rfl, if_pos (by simpa using hi)]
      simp [hi]
    · rw [if_neg hij]
      simp only [List.getElem?_map, List.getElem?_range hi, Option.map_some]
      congr 1
      by_cases h : i < j
      · rw [if_pos h, if_pos (by omega)]
      · rw [if_neg h, if_neg (by omega)]
  · have h1 : (List.range n)[i]? = none := List.getElem?_eq_none (by simpa using hi)
    simp only [List.getElem?_map, h1, Option.map_none]
    split
    · rename_i h; subst h; rw [if_neg (by simpa using hi)]
    · rfl
theorem cur_zero (n : Nat) (F : Nat → Int) : cur n F 0 = List.replicate n 0 := by
  apply List.ext_getElem
  · simp [cur]
  · intro i h1 h2; simp [cur]
theorem cur_full (n : Nat) (F : Nat → Int) : cur n F n = (List.range n).map F := by
  apply List.ext_getElem
  · simp [cur]
  · intro i h1 h2
    simp [cur] at h1 ⊢
    exact fun h => absurd h1 (by omega)

/-- the smaller one -/
def mn (a b : Nat) : Nat := min a b
theorem mn_le (a b : Nat) : mn a b ≤ b := Nat.min_le_right a b
def blkAt (px : Nat → Nat → Nat → Int) (k w h x y : Nat) : List Int := (List.range 64).map fun j => px k (mn (x + j % 8) (w - 1)) (mn (y + j / 8) (h - 1))
theorem blkAt_len (px : Nat → Nat → Nat → Int) (k w h x y : Nat) : (blkAt px k w h x y).length = 64 := by simp [blkAt]

theorem rem8 (j : Nat) : vbin .rem (.int .i64 (j : Int)) (.int .i64 8) = some (.int .i64 ((j % 8 : Nat) : Int)) := by
  rw [vbin_rem (by decide), Int.tmod_eq_emod_of_nonneg (by omega)]; rfl
theorem quo8 (j : Nat) (hj : j < 1000000) : vbin .quo (.int .i64 (j : Int)) (.int .i64 8) = some (.int .i64 ((j / 8 : Nat) : Int)) := by
  rw [vbin_quo (by decide), Int.tdiv_eq_ediv_of_nonneg (by omega), wrap_i64_id (by omega) (by omega)]; rfl
theorem min_nat (a b : Nat) : (if ((b : Nat) : Int) < ((a : Nat) : Int) then ((b : Nat) : Int) else ((a : Nat) : Int)) = ((mn a b : Nat) : Int) := by
  unfold mn
  split <;> omega

def PM (M : Mem) (a b : List Int) : Mem := M ++ [.ints .i32 a 79, .ints .i32 b 79]
section
variable {M : Mem} {a b : List Int}
theorem pm_get {i : Nat} (h : i < M.length) : (PM M a b)[i]? = M[i]? := List.getElem?_append_left h
theorem pm_1 : (PM M a b)[M.length + 1]? = some (.ints .i32 b 79) := by simp [PM]
theorem pm_0 : (PM M a b)[M.length]? = some (.ints .i32 a 79) := by simp [PM]
theorem pm_set {b' : List Int} : (PM M a b).set (M.length + 1) (.ints .i32 b' 79) = PM M a b' := by simp [PM]
theorem pm_set0 {a' : List Int} : (PM M a b).set M.length (.ints .i32 a' 79) = PM M a' b := by simp [PM]
theorem pm_len : (PM M a b).length = M.length + 2 := by simp [PM]
theorem pm_take : (PM M a b).take M.length = M := by simp [PM]
end

section
variable (C : Ctx) (hP : C.P = Tryd.prog) (px : Nat → Nat → Nat → Int) (w h : Nat) (f : Nat) (caps : List V)

/-- what gives a pixel's numbers -/
structure AtOk : Prop where
  pxb : ∀ k x y, 0 ≤ px k x y ∧ px k x y ≤ 255
  known : allKnown caps = true
  call : callable C.P f = true
  at_ : ∀ (M : Mem) (x y : Nat), x < w → y < h → VCalls C f (.int .i64 x :: .int .i64 y :: caps) M [] fun v M' => v = .ints .u8 [px 0 x y, px 1 x y, px 2 x y] ∧ M' = M

theorem part_loop (hat : AtOk C px w h f caps) (hw : 0 < w ∧ w ≤ 40) (hh : 0 < h ∧ h ≤ 40) (M : Mem) (pw ph pa : Nat) (h0 : M[pw]? = some (.own [.int .i64 w] 3)) (h1 : M[ph]? = some (.own [.int .i64 h] 3)) (h2 : M[pa]? = some (.own [.fn f caps] 33))
    (x y k : Nat) (hx : x < 1000) (hy : y < 1000) (hk : k < 3) (a : List Int) (Q : VX → Env → Mem → Prop) : ∀ (d j : Nat) (e : Env), j + d = 64 → e.get 0 = .int .i64 x → e.get 1 = .int .i64 y → e.get 2 = .int .i64 k → e.get 3 = .ptr pa 0 → e.get 4 = .ptr pw 0 → e.get 5 = .ptr ph 0 →
      e.get 9 = .ptr M.length 0 → e.get 10 = .ptr (M.length + 1) 0 → e.get 13 = .int .i64 j →
      (∀ e' : Env, e'.get 9 = .ptr M.length 0 → e'.get 10 = .ptr (M.length + 1) 0 → Q (.exit 0) e' (PM M a (blkAt px k w h x y))) →
      VRounds M.length (VWp C M.length [] c29l0) (d + 1) e (PM M a (cur 64 (fun j => px k (mn (x + j % 8) (w - 1)) (mn (y + j / 8) (h - 1))) j)) Q := by
  have l0 : pw < M.length := (List.getElem?_eq_some_iff.1 h0).1
  have l1 : ph < M.length := (List.getElem?_eq_some_iff.1 h1).1
  have l2 : pa < M.length := (List.getElem?_eq_some_iff.1 h2).1
  intro d
  induction d with
  | zero =>
    intro j e hj g0 g1 g2 g3 g4 g5 g9 g10 g13 hQ
    refine round_gen fun K1 hK1 => ?_
    have hj' : j = 64 := by omega
    subst hj'
    have hd : decide (((64 : Nat) : Int) < 64) = false := by decide
    simp -implicitDefEqProofs only [vms, ↓reduceIte, Nat.reduceEqDiff, reduceCtorEq, natCast_lit, Int.reduceLT, c29l0, g13]
    rw [hK1, cur_full]
    refine hQ _ ?_ ?_ <;> simp -implicitDefEqProofs only [vms, ↓reduceIte, Nat.reduceEqDiff, reduceCtorEq, g9, g10]
  | succ d ih =>
    intro j e hj g0 g1 g2 g3 g4 g5 g9 g10 g13 hQ
    refine round_gen fun K1 hK1 => ?_
    have hd : decide ((j : Int) < 64) = true := by simp; omega
    have hwj : IntKind.i64.wrap ((j : Int) + 1) = ((j + 1 : Nat) : Int) := by rw [wrap_i64_id (by omega) (by omega)]; rfl
    have hx1 : IntKind.i64.wrap ((x : Int) + ((j % 8 : Nat) : Int)) = ((x + j % 8 : Nat) : Int) := by rw [wrap_i64_id (by omega) (by omega)]; rfl
    have hy1 : IntKind.i64.wrap ((y : Int) + ((j / 8 : Nat) : Int)) = ((y + j / 8 : Nat) : Int) := by rw [wrap_i64_id (by omega) (by omega)]; rfl
    have hw1 : IntKind.i64.wrap ((w : Int) - 1) = ((w - 1 : Nat) : Int) := by rw [wrap_i64_id (by omega) (by omega)]; omega
    have hh1 : IntKind.i64.wrap ((h : Int) - 1) = ((h - 1 : Nat) : Int) := by rw [wrap_i64_id (by omega) (by omega)]; omega
    have q8 := quo8 j (by omega)
    generalize hG : (fun j => px k (mn (x + j % 8) (w - 1)) (mn (y + j / 8) (h - 1))) = G
    rw [hG] at ih
    have p0 : (PM M a (cur 64 G j))[pw]? = some (.own [.int .i64 w] 3) := by rw [pm_get l0, h0]
    have p1 : (PM M a (cur 64 G j))[ph]? = some (.own [.int .i64 h] 3) := by rw [pm_get l1, h1]
    have p2 : (PM M a (cur 64 G j))[pa]? = some (.own [.fn f caps] 33) := by rw [pm_get l2, h2]
    have hG1 : px k (mn (x + j % 8) (w - 1)) (mn (y + j / 8) (h - 1)) = G j := by rw [← hG]
    simp -implicitDefEqProofs only [vms, ↓reduceIte, Nat.reduceEqDiff, reduceCtorEq, c29l0, g0, g1, g2, g3, g4, g5, g9, g10, g13, hd, rem8, q8, p0, p1, p2, hx1, hy1, hw1, hh1, min_nat, hat.call]
    refine callK_of [] (by simpa [allKnown, V.known] using hat.known) (by simp) (hat.at_ _ (mn (x + j % 8) (w - 1)) (mn (y + j / 8) (h - 1)) (by have := mn_le (x + j % 8) (w - 1); omega) (by have := mn_le (y + j / 8) (h - 1); omega)) ?_
    rintro _ _ ⟨rfl, rfl⟩
    have hiv : vidxV false 3 1 (.ints .u8 [px 0 (mn (x + j % 8) (w - 1)) (mn (y + j / 8) (h - 1)), px 1 (mn (x + j % 8) (w - 1)) (mn (y + j / 8) (h - 1)), px 2 (mn (x + j % 8) (w - 1)) (mn (y + j / 8) (h - 1))]) (.int .i64 (k : Int)) = some (.int .u8 (G j)) := by
      rw [← hG1]
      have : k = 0 ∨ k = 1 ∨ k = 2 := by omega
      rcases this with rfl | rfl | rfl <;> rfl
    obtain ⟨b1, b2⟩ := hat.pxb k (mn (x + j % 8) (w - 1)) (mn (y + j / 8) (h - 1))
    rw [hG1] at b1 b2
    have hc32 : IntKind.i32.wrap (G j) = G j := wrap_i32_id (by omega) (by omega)
    have hia : vidxA 64 1 (.ptr (M.length + 1) 0) (.int .i64 (j : Int)) = some (.ptr (M.length + 1) j) := by rw [vidxA_ptr (by omega) (by omega)]; simp
    have hpb : ∀ N : Mem, putB N (M.length + 1) j (.int .i32 (G j)) (some (.ints .i32 (cur 64 G j) 79)) = some (.undef, N.set (M.length + 1) (.ints .i32 (cur 64 G (j + 1)) 79)) := fun N => by
      rw [putB_ints (by rw [cur_len]; omega), cur_set]
    simp -implicitDefEqProofs only [vms, ↓reduceIte, Nat.reduceEqDiff, reduceCtorEq, callC, hiv, hc32, hia, pm_1, hpb, pm_set, hwj]
    rw [hK1, roundK_normal]
    refine ih (j + 1) _ (by omega) ?_ ?_ ?_ ?_ ?_ ?_ ?_ ?_ ?_ hQ <;> simp -implicitDefEqProofs only [vms, ↓reduceIte, Nat.reduceEqDiff, reduceCtorEq]

theorem part_spec (hP : C.P = Tryd.prog) (hat : AtOk C px w h f caps) (hw : 0 < w ∧ w ≤ 40) (hh : 0 < h ∧ h ≤ 40) (M : Mem) (hM : memCl M.length M = true) (pw ph pa : Nat) (h0 : M[pw]? = some (.own [.int .i64 w] 3)) (h1 : M[ph]? = some (.own [.int .i64 h] 3)) (h2 : M[pa]? = some (.own [.fn f caps] 33))
    (x y k : Nat) (hx : x < 1000) (hy : y < 1000) (hk : k < 3) :
    VCalls C 29 [.int .i64 x, .int .i64 y, .int .i64 k, .ptr pa 0, .ptr pw 0, .ptr ph 0] M [] (fun v M' => v = .ints .i32 (blkAt px k w h x y) ∧ M' = M) := by
  refine VCalls.of_fn (hs := kz c29) (F := F29) (by rw [hP]; exact is29) (by simp [F29]) ?_
  have l1 : ∀ B : Blk, (M ++ [B]).length = M.length + 1 := fun B => by simp
  have hst : stGo (M ++ [Blk.ints .i32 (List.replicate 64 0) 79] ++ [Blk.ints .i32 (List.replicate 64 0) 79]) 64 (.ints .i32 (List.replicate 64 0)) (.ptr (M.length + 1) 0) = some (.undef, PM M (List.replicate 64 0) (List.replicate 64 0)) := by
    rw [stGo_all (n := 64) (k := .i32) (xs := List.replicate 64 0) (T := 79) (by simp [-List.reduceReplicate]) rfl rfl]
    congr 2
    simp [PM, -List.reduceReplicate]
  simp -implicitDefEqProofs only [vms, ↓reduceIte, Nat.reduceEqDiff, Nat.reduceAdd, reduceCtorEq, F29, c29, l1, hst]
  apply VWp_loop_of (k := 65)
  have hc0 := cur_zero 64 (fun j => px k (mn (x + j % 8) (w - 1)) (mn (y + j / 8) (h - 1)))
  have := part_loop C px w h f caps hat hw hh M pw ph pa h0 h1 h2 x y k hx hy hk (List.replicate 64 0)
  rw [← hc0]
  rw [hc0]
  have t := this (blockK 0 (seqV C M.length [] (VC.seq (.reg [.op none (some 38) (.ldA 64 (.t 10)), .op none none (.st 64 (.t 9) (.t 38))] [9]) .ret) (fnPost M.length [.cells 9 64] fun v M' => v = .ints .i32 (blkAt px k w h x y) ∧ M' = M))) 64 0
  rw [hc0] at t
  refine t _ rfl ?_ ?_ ?_ ?_ ?_ ?_ ?_ ?_ ?_ ?_
  · simp -implicitDefEqProofs only [vms, ↓reduceIte, reduceCtorEq]
  · simp -implicitDefEqProofs only [vms, ↓reduceIte, Nat.reduceEqDiff, reduceCtorEq]
  · simp -implicitDefEqProofs only [vms, ↓reduceIte, Nat.reduceEqDiff, reduceCtorEq]
  · simp -implicitDefEqProofs only [vms, ↓reduceIte, Nat.reduceEqDiff, reduceCtorEq]
  · simp -implicitDefEqProofs only [vms, ↓reduceIte, Nat.reduceEqDiff, reduceCtorEq]
  · simp -implicitDefEqProofs only [vms, ↓reduceIte, Nat.reduceEqDiff, reduceCtorEq]
  · simp -implicitDefEqProofs only [vms, ↓reduceIte, Nat.reduceEqDiff, reduceCtorEq]
  · simp -implicitDefEqProofs only [vms, ↓reduceIte, Nat.reduceEqDiff, reduceCtorEq]
  · (simp -implicitDefEqProofs only [vms, ↓reduceIte, Nat.reduceEqDiff, reduceCtorEq, natCast_lit]; try rfl)
  · intro e' g9 g10
    have r1 : rangeB (some (.ints .i32 (blkAt px k w h x y) 79)) 0 64 = some (.ints .i32 (blkAt px k w h x y)) := rangeB_ints (blkAt_len ..).symm
    have hs2 : stGo (PM M (List.replicate 64 0) (blkAt px k w h x y)) 64 (.ints .i32 (blkAt px k w h x y)) (.ptr M.length 0) = some (.undef, PM M (blkAt px k w h x y) (blkAt px k w h x y)) := by
      rw [stGo_all (k := .i32) (xs := List.replicate 64 0) (T := 79) pm_0 (blkAt_len ..).symm (by rw [blkAt_len]; rfl), pm_set0]
    simp -implicitDefEqProofs only [vms, ↓reduceIte, Nat.reduceEqDiff, g9, g10, range_eqB, pm_1, r1, hs2, pm_0]
    exact retGo_take M.length (Nat.le_refl _) (by rw [pm_len]; omega) rfl (by rw [pm_take]; exact hM) ⟨rfl, pm_take⟩
end
end Go.VM
end
