/-
  A part of a machine over the model and of a walk by it, proved right against the model; proved outright, under no condition but what each theorem names.
-/
import Derived.Test.YtahmhofnilgfgaaDoorVUtoBA
import Derived.Test.YtahmhofnilgfgaaDoorEC
import Derived.Laws.BitsAllLaws
import Derived.Test.YtahmhofnilgfgaaDoorED
set_option linter.unusedVariables false
set_option linter.unusedSimpArgs false
section
set_option linter.defProp false
namespace Go.VM
open Go

/-! The rules for simp, in one. -/
def vms := And.intro @regK_eq (And.intro @quietK_eq (And.intro @tailK_eq (And.intro @seqV_normal (And.intro @seqV_exit (And.intro @seqV_ret (And.intro @blockK_normal (And.intro @blockK_ret (And.intro @blockK_same (And.intro @VWp_skip (And.intro @VWp_exit (And.intro @VWp_ret (And.intro @VWp_reg (And.intro @VWp_drq (And.intro @VWp_drt (And.intro @VWp_seq (And.intro @VWp_cond (And.intro @VWp_block (And.intro @condGo_true (And.intro @condGo_false (And.intro @condGo_not (And.intro @wpItems_nil (And.intro @wpItems_op (And.intro @wpItems_opg (And.intro @wpItems_call (And.intro @wpItems_callv (And.intro @goOp_some (And.intro @goG_bool (And.intro @goV_fn (And.intro @wpQuiet_nil (And.intro @wpQuiet_op (And.intro @wpQuiet_opg (And.intro @goQ_some (And.intro @goGQ_bool (And.intro @get_nil (And.intro @get_cons (And.intro @putO_some (And.intro @putO_none (And.intro @keep_nil (And.intro @keep_cons (And.intro @ev_t (And.intro @ev_c (And.intro @ofArgs_nil (And.intro @ofArgs_cons (And.intro @vargs_nil (And.intro @vargs_cons (And.intro @Nat.zero_add (And.intro @Nat.add_zero (And.intro @vld_ptr (And.intro @cellB_own (And.intro @vlen_slice (And.intro @vlen_nils (And.intro @vlen_vec (And.intro @vbin_add (And.intro @vbin_sub (And.intro @vbin_mul (And.intro @vbin_and (And.intro @vbin_or (And.intro @vbin_xor (And.intro @vbin_eql (And.intro @vbin_neq (And.intro @vbin_lss (And.intro @vbin_leq (And.intro @vbin_gtr (And.intro @vbin_geq (And.intro @vun_neg (And.intro @vun_not (And.intro @vop_mov (And.intro @vop_pick (And.intro @pickGo_bool (And.intro @vop_nilck (And.intro @nilGo_ptr (And.intro @nilGo_raw (And.intro @nilGo_fn (And.intro @valGo_some (And.intro @vop_bin (And.intro @vop_un (And.intro @vop_conv (And.intro @vconv_int (And.intro @vop_fld (And.intro @vfld_ptr (And.intro @vop_idxA (And.intro @vop_idxS (And.intro @vop_ld (And.intro @vop_ldA (And.intro @vldA_ptr (And.intro @vop_st (And.intro @vop_alloc (And.intro @vop_box (And.intro @boxGo_some (And.intro @vbox_ints (And.intro @vbox_int (And.intro @vbox_bool (And.intro @vbox_ptr (And.intro @vop_tupx (And.intro @vop_idxV (And.intro @vop_part (And.intro @vop_build (And.intro @vop_len (And.intro @knownGo_int (And.intro @knownGo_bool (And.intro @knownGo_ints (And.intro @vres1_tmp (And.intro @vres1_cells (And.intro @cellsGo_ptr (And.intro @vfill_nil (And.intro @List.map_nil.{0, 0} (And.intro @List.getElem?_cons_zero.{0} (And.intro @List.getElem?_cons_succ.{0} (And.intro @List.set_cons_zero.{0} (And.intro @List.set_cons_succ.{0} (And.intro @List.length_cons.{0} (And.intro @List.length_nil.{0} (And.intro @fnPost_ret (And.intro @fnPost_normal (And.intro @vres_one (And.intro @Bool.not_true (And.intro @Bool.not_false (And.intro @vbin_shr (And.intro @vbin_shl (And.intro @Int.fdiv_eq_ediv_of_nonneg (And.intro @Nat.le_refl (And.intro @roundK_normal (And.intro @roundK_exit (And.intro @roundK_ret (And.intro @wpItems_callg (And.intro @goCG_bool (And.intro @wpItems_inv (And.intro @goInv_iface (And.intro @goInvF_some (And.intro @wpItems_app (And.intro @VWp_drw (And.intro @stK_eq (And.intro @wpStages_nil (And.intro @wpStages_cons (And.intro @stageK_eq (And.intro @wpCheck_nil (And.intro @wpCheck_op (And.intro @wpCheck_opg (And.intro @chkGo_some (And.intro @chkG_bool (And.intro @vop_slc (And.intro @vop_slcS (And.intro @Option.map_none.{0, 0} (And.intro @Option.map_some.{0, 0} (And.intro @vop_mm (And.intro @vmm_min (And.intro @vmm_max (And.intro @vop_isnils (And.intro @visnils_slice (And.intro @visnils_nils (And.intro @vop_isnil (And.intro @visnil_nili (And.intro @visnil_nilp (And.intro @visnil_iface (And.intro @visnil_ptr (And.intro @boolGo_some (And.intro @vop_idxStr (And.intro @vop_mkif (And.intro @mkifGo_ptr (And.intro @vop_tas (And.intro @vtas_nili (And.intro @vtas_same (And.intro @vop_b2s (And.intro @strGo_some (And.intro @vop_bsl (And.intro @elems_nils (And.intro @erases_nil (And.intro @List.nil_append.{0} (And.intro @List.cons_append.{0} (And.intro @decide_true (And.intro @decide_false (And.intro @stGo_int (And.intro @stGo_bool (And.intro @stGo_ptr (And.intro @stGo_vec (And.intro @stGo_slice (And.intro @stGo_iface (And.intro @stGo_nili (And.intro @stGo_nilp (And.intro @stGo_nils (And.intro @putB_own (And.intro @erases_env_nil (And.intro @erases_env_cons (And.intro @drops_undef (And.intro @drops_int (And.intro @drops_bool (And.intro @drops_str (And.intro @drops_nilp (And.intro @drops_nils (And.intro @drops_nili (And.intro @drops_nilf (And.intro @drops_ints (And.intro @drops_raw (And.intro @drops_ptr (And.intro @drops_vec (And.intro @drops_slice (And.intro @erase_mem_nil (And.intro @erase_mem_cons (And.intro @erase_own (And.intro @erase_ints (And.intro @erase_vec (And.intro @eraseB_undef (And.intro @eraseB_int (And.intro @eraseB_bool (And.intro @eraseB_str (And.intro @eraseB_nilp (And.intro @eraseB_nils (And.intro @eraseB_nili (And.intro @eraseB_raw (And.intro @eraseB_ptr (And.intro @eraseB_vec (And.intro @eraseB_slice (And.intro @vfill_one (And.intro @List.map_cons.{0, 0} (And.intro @List.contains_cons.{0} (And.intro @List.contains_nil.{0} (And.intro @beq_self_eq_true.{0} (And.intro @Bool.or_false (And.intro @Bool.or_true (And.intro @Bool.false_or (And.intro @Bool.true_or (And.intro @Bool.false_eq_true (And.intro @Nat.lt_add_one (And.intro @bslGo_ints (And.intro @List.length_singleton.{0} (And.intro @true_and (And.intro @and_true (And.intro @and_self (And.intro @bne_self_eq_false.{0} (And.intro @Bool.bne_false (And.intro @Bool.bne_true (@drops_iface))))))))))))))))))))))))))))))))))))))))))))))))))))))))))))))))))))))))))))))))))))))))))))))))))))))))))))))))))))))))))))))))))))))))))))))))))))))))))))))))))))))))))))))))))))))))))))))))))))))))))))))))))))))))))))))))))))))))

/-- whole numbers that are small enough -/
theorem wl8 {x : Int} (h1 : 0 ≤ x) (h2 : x ≤ 255) : IntKind.u8.wrap x = x := wrap_u8_id h1 h2
theorem wl32 {x : Int} (h1 : 0 ≤ x) (h2 : x ≤ 4294967295) : IntKind.u32.wrap x = x := wrap_u32_id h1 h2
theorem wli32 {x : Int} (h1 : -2147483648 ≤ x) (h2 : x ≤ 2147483647) : IntKind.i32.wrap x = x := wrap_i32_id h1 h2
theorem wl64 {x : Int} (h1 : -9223372036854775808 ≤ x) (h2 : x ≤ 9223372036854775807) : IntKind.i64.wrap x = x := wrap_i64_id h1 h2
theorem vidxA_lit {n sz b o : Nat} {k : IntKind} {i : Int} (h1 : 0 ≤ i) (h2 : i.toNat < n) : vidxA n sz (.ptr b o) (.int k i) = some (.ptr b (o + i.toNat * sz)) := vidxA_ptr h1 (by omega)
theorem natCast_lit (n : Nat) : ((no_index (OfNat.ofNat n) : Nat) : Int) = OfNat.ofNat n := rfl
end Go.VM
end

section
set_option linter.unusedSimpArgs false
namespace Go.VM
open Go Go.Proofs Go.Bits

section
variable {C : Ctx} {n0 : Nat} {e e₁ : Env} {M M₁ : Mem} {Q : VX → Env → Mem → Prop}

theorem VRounds_adj {F} {d : Nat} (ha : Adj n0 e M e₁ M₁) (h : VRounds n0 F (d + 1) e₁ M₁ Q) : VRounds n0 F (d + 1) e M Q := by
  obtain ⟨e', M', ha', hf⟩ := h
  exact ⟨e', M', ha.trans ha', hf⟩

def envClB (k : Nat) (e : Env) : Bool := e.all fun x => clB k x.2.refs

theorem envCl_of {k : Nat} {e : Env} (h : envClB k e = true) : EnvCl k e := by
  intro j
  induction e with
  | nil => intro b hb; simp [Env.get, V.refs] at hb
  | cons x r ih =>
    obtain ⟨i, v⟩ := x
    simp only [envClB, List.all_cons, Bool.and_eq_true] at h
    rw [get_put]
    split
    · exact clB_iff h.1
    · exact ih h.2

/-- the last blocks are left away -/
theorem adj_take (k : Nat) (hk : n0 ≤ k) (hkM : k ≤ M.length) (he : envClB k e = true) (hM : memCl k (M.take k) = true) : Adj n0 e M e (M.take k) := by
  have hl : (M.take k).length = k := by simp; omega
  refine .ren e M e _ id (fun _ _ => rfl) (by omega) (fun _ _ _ _ h => h) (fun j b hb => ?_) (fun j => .inr (V.ren_id _).symm) (by rw [hl]; exact envCl_of he) ?_
  · rw [Blk.ren_id]
    rw [List.getElem?_take] at hb
    split at hb
    · exact hb
    · cases hb
  · intro j b hb r hr
    rw [hl]
    exact clB_iff (List.all_eq_true.1 hM b (List.mem_of_getElem? hb)) r hr
end

theorem round_gen {C : Ctx} {n0 : Nat} {mv : List Nat} {vc : VC} {e : Env} {M : Mem} {Q : VX → Env → Mem → Prop} {k : Nat} (h : ∀ K, K = roundK n0 (VWp C n0 mv vc) k Q → VWp C n0 mv vc e M K) : VRounds n0 (VWp C n0 mv vc) (k + 1) e M Q :=
  round (h _ rfl)

theorem or_low (a b : Nat) (h : b < 2) : 2 * a ||| b = 2 * a + b := by
  have := Nat.two_pow_add_eq_or_of_lt (i := 1) (b := b) (by simpa using h) a
  simpa using this.symm

theorem testBit_div (x k : Nat) : x / 2 ^ k % 2 = (x.testBit k).toNat := by
  rw [Nat.testBit_eq_decide_div_mod_eq]
  have : x / 2 ^ k % 2 = 0 ∨ x / 2 ^ k % 2 = 1 := by omega
  rcases this with h | h <;> simp [h]

/-- where the reference's bits wait -/
def outMem (p : List Bool) (out : List Int) : Mem := [.own [.vec 1 out.length, .int .u32 (val p), .int .i64 p.length] 74, .vec .u8 out 5]

theorem put_loop (C : Ctx) (hP : C.P = Tryd.prog) (x : Nat) (hx : x < 4294967296) (Q : VX → Env → Mem → Prop) :
    ∀ (k : Nat) (p : List Bool) (out : List Int), p.length < 8 → k ≤ 32 → out.length + 2 * k ≤ 16000000 →
      (∀ e9, Q (.exit 0) [(0, .ptr 0 0), (1, .int .u32 x), (6, .int .i64 (-1)), (10, e9)] (outMem (feed (p, out) (bitsOf x k)).1 (feed (p, out) (bitsOf x k)).2)) →
      VRounds 2 (VWp C 2 [1] c24l0) (k + 1) [(0, .ptr 0 0), (1, .int .u32 x), (6, .int .i64 ((k : Int) - 1))] (outMem p out) Q
  | 0, p, out, hp, hk, ho, hQ => by
    refine round_gen fun K hK => ?_
    have e1 : ((0 : Nat) : Int) - 1 = -1 := by omega
    simp -implicitDefEqProofs only [vms, ↓reduceIte, Nat.reduceEqDiff, reduceCtorEq, Int.reduceLE, Int.reduceNeg, c24l0, e1]
    rw [hK]
    exact hQ _
  | k + 1, p, out, hp, hk, ho, hQ => by
    refine round_gen fun K hK => ?_
    have e1 : ((k + 1 : Nat) : Int) - 1 = k := by omega
    have e2 : decide ((0 : Int) ≤ k) = true := by simp
    have hb := val_lt p
    have h8 : (2 : Nat) ^ p.length ≤ 2 ^ 7 := Nat.pow_le_pow_right (by omega) (by omega)
    have hx1 : (x : Int) / 2 ^ (min k 32) = ((x / 2 ^ (min k 32) : Nat) : Int) := by simp
    have hbit : bits .and .u32 ((x / 2 ^ k : Nat) : Int) 1 = (((x.testBit k).toNat : Nat) : Int) := by
      rw [show (1 : Int) = ((1 : Nat) : Int) from rfl, Go.u32_and_nat _ _ (Nat.lt_of_le_of_lt (Nat.div_le_self _ _) hx) (by omega), Nat.and_one_is_mod, testBit_div]
    have hw : IntKind.u32.wrap ((val p : Int) * 2) = ((2 * val p : Nat) : Int) := by rw [wrap_u32_id (by omega) (by omega)]; omega
    have hor : bits .or .u32 ((2 * val p : Nat) : Int) (((x.testBit k).toNat : Nat) : Int) = ((val (p ++ [x.testBit k]) : Nat) : Int) := by
      have := Bool.toNat_le (x.testBit k)
      rw [Go.u32_or_nat _ _ (by omega) (by omega), or_low _ _ (by omega), val_append]
      simp [val]
      omega
    have hlen : IntKind.i64.wrap ((p.length : Int) + 1) = ((p.length + 1 : Nat) : Int) := by rw [wrap_i64_id (by omega) (by omega)]; omega
    have hsh : vbin .shr (.int .u32 x) (.int .i64 k) = some (.int .u32 ((x / 2 ^ k : Nat) : Int)) := by
      rw [vbin_shr_lit (by omega) (by simp [IntKind.bits]; omega)]; simp
    simp -implicitDefEqProofs only [vms, ↓reduceIte, Nat.reduceEqDiff, Nat.reduceAdd, reduceCtorEq, Nat.min_def, IntKind.bits, Nat.reduceLeDiff, Int.reducePow, Int.reduceToNat, Int.reduceLE, Nat.reduceLT, c24l0, e1, e2, outMem, hsh, hbit, hw, hor, hlen]
    have hwk : IntKind.i64.wrap ((k : Int) - 1) = (k : Int) - 1 := wrap_i64_id (by omega) (by omega)
    apply condGo_dec <;> intro h8'
    · have h7 : p.length = 7 := by omega
      have hv8 : val (p ++ [x.testBit k]) < 256 := by
        have := val_lt (p ++ [x.testBit k])
        simp [h7] at this
        exact this
      have hw8 : IntKind.u8.wrap ((val (p ++ [x.testBit k]) : Nat) : Int) = ((val (p ++ [x.testBit k]) : Nat) : Int) := wrap_u8_id (by omega) (by omega)
      have hf : feed1 (p, out) (x.testBit k) = ([], out ++ stuff (val (p ++ [x.testBit k]))) := by simp [feed1, h7]
      generalize hvv : val (p ++ [x.testBit k]) = v8 at *
      simp -implicitDefEqProofs only [vms, ↓reduceIte, Nat.reduceEqDiff, Nat.reduceAdd, reduceCtorEq, Nat.reduceLeDiff, hw8]
      refine app_of rfl rfl (.inr (by simp)) (elems_vec rfl rfl) (by simp; omega) ?_
      simp -implicitDefEqProofs only [vms, ↓reduceIte, Nat.reduceEqDiff, Nat.reduceAdd, reduceCtorEq, callC, Nat.reduceBEq, Nat.reduceLT, hw8]
      apply condGo_dec <;> intro h255
      · simp -implicitDefEqProofs only [vms, ↓reduceIte, Nat.reduceEqDiff, Nat.reduceAdd, reduceCtorEq, Nat.reduceLeDiff]
        refine app_of rfl (by simp) (.inr (by simp)) (elems_vec rfl rfl) (by simp; omega) ?_
        simp -implicitDefEqProofs only [vms, ↓reduceIte, Nat.reduceEqDiff, Nat.reduceAdd, reduceCtorEq, callC, Nat.reduceBEq, Nat.reduceLT, hwk]
        rw [hK, roundK_normal]
        have hv : v8 = 255 := by omega
        subst hv
        refine VRounds_adj (adj_take 2 (Nat.le_refl _) (by simp) rfl rfl) ?_
        have := put_loop C hP x hx Q k [] (out ++ stuff 255) (by simp) (by omega) (by simp [stuff]; omega) (by
          intro e9
          have := hQ e9
          rw [bitsOf, feed_cons, hf] at this
          exact this)
        simpa [outMem, stuff, val] using this
      · simp -implicitDefEqProofs only [vms, ↓reduceIte, Nat.reduceEqDiff, Nat.reduceAdd, reduceCtorEq, Nat.reduceLT, hwk]
        rw [hK, roundK_normal]
        have hv : ¬ v8 = 255 := by omega
        refine VRounds_adj (adj_take 2 (Nat.le_refl _) (by simp) rfl rfl) ?_
        have := put_loop C hP x hx Q k [] (out ++ stuff v8) (by simp) (by omega) (by simp [stuff, hv]; omega) (by
          intro e9
          have := hQ e9
          rw [bitsOf, feed_cons, hf] at this
          exact this)
        simpa [outMem, stuff, val, hv] using this
    · have h7 : ¬ p.length = 7 := by omega
      simp -implicitDefEqProofs only [vms, ↓reduceIte, Nat.reduceEqDiff, reduceCtorEq, hwk]
      rw [hK, roundK_normal]
      have hf : feed1 (p, out) (x.testBit k) = (p ++ [x.testBit k], out) := by simp [feed1, h7]
      have := put_loop C hP x hx Q k (p ++ [x.testBit k]) out (by simp; omega) (by omega) (by omega) (by
        intro e9
        have := hQ e9
        rw [bitsOf, feed_cons, hf] at this
        exact this)
      simpa [outMem] using this

theorem put_spec (C : Ctx) (hP : C.P = Tryd.prog) (x : Nat) (hx : x < 4294967296) (k : Nat) (hk : k ≤ 32) (p : List Bool) (out : List Int) (hp : p.length < 8) (ho : out.length ≤ 15000000) :
    VCalls C 24 [.ptr 0 0, .int .u32 x, .int .i64 k] (outMem p out) [1] (fun v M' => v = .tup [] ∧ M' = outMem (feed (p, out) (bitsOf x k)).1 (feed (p, out) (bitsOf x k)).2) := by
  refine VCalls.of_fn (hs := h24) (F := F24) (by rw [hP]; exact is24) (by simp [F24]) ?_
  have hwk : IntKind.i64.wrap ((k : Int) - 1) = (k : Int) - 1 := wrap_i64_id (by omega) (by omega)
  simp -implicitDefEqProofs only [vms, ↓reduceIte, Nat.reduceEqDiff, Nat.reduceAdd, reduceCtorEq, F24, c24, hwk]
  apply VWp_loop_of (k := k + 1)
  refine put_loop C hP x hx _ k p out hp hk (by omega) ?_
  intro e9
  simp -implicitDefEqProofs only [vms, Int.reduceNeg, vres_nil]
  exact retGo_refl ⟨rfl, rfl⟩

theorem fill_loop (C : Ctx) (hP : C.P = Tryd.prog) (Q : VX → Env → Mem → Prop) :
    ∀ (d : Nat) (p : List Bool) (out : List Int), p.length < 8 → (p.length = 0 ∨ 8 - p.length ≤ d) → (p.length = 0 ∨ out.length ≤ 14000000) →
      (∀ e9, Q (.exit 0) [(0, .ptr 0 0), (6, e9)] (outMem [] (feed (p, out) (List.replicate (if p.length = 0 then 0 else 8 - p.length) true)).2)) →
      VRounds 2 (VWp C 2 [1] c30l0) (d + 1) [(0, .ptr 0 0)] (outMem p out) Q := by
  intro d
  induction d with
  | zero =>
    intro p out hp hd ho hQ
    have h0 : p.length = 0 := by omega
    have : p = [] := List.length_eq_zero_iff.1 h0
    subst this
    refine round_gen fun K hK => ?_
    simp -implicitDefEqProofs only [vms, ↓reduceIte, Nat.reduceEqDiff, reduceCtorEq, c30l0, outMem, show ((0 : Nat) : Int) = 0 from rfl, Int.lt_irrefl]
    rw [hK]
    exact hQ _
  | succ d ih =>
    intro p out hp hd ho hQ
    refine round_gen fun K hK => ?_
    by_cases h0 : p.length = 0
    · have : p = [] := List.length_eq_zero_iff.1 h0
      subst this
      simp -implicitDefEqProofs only [vms, ↓reduceIte, Nat.reduceEqDiff, reduceCtorEq, c30l0, outMem, show ((0 : Nat) : Int) = 0 from rfl, Int.lt_irrefl]
      rw [hK]
      exact hQ _
    · have hlt : decide ((0 : Int) < (p.length : Int)) = true := by simp; omega
      simp -implicitDefEqProofs only [vms, ↓reduceIte, Nat.reduceEqDiff, reduceCtorEq, c30l0, outMem, hlt]
      refine callK_of [1] rfl (by simp) (put_spec C hP 1 (by omega) 1 (by omega) p out hp (by rcases ho with h | h; exact absurd h h0; omega)) ?_
      rintro _ _ ⟨rfl, rfl⟩
      simp -implicitDefEqProofs only [vms, ↓reduceIte, reduceCtorEq, callC, Nat.reduceBEq]
      rw [hK, roundK_normal]
      have hb : bitsOf 1 1 = [true] := by decide
      rw [hb]
      have hf : feed (p, out) [true] = feed1 (p, out) true := rfl
      rw [hf]
      have hrep : List.replicate (8 - p.length) true = true :: List.replicate (7 - p.length) true := by
        rw [show 8 - p.length = (7 - p.length) + 1 by omega]; rfl
      rw [if_neg h0, hrep] at hQ
      refine ih _ _ (feed1_lt hp true) ?_ ?_ ?_
      · unfold feed1
        simp only
        split
        · exact .inl rfl
        · right; simp; omega
      · unfold feed1
        simp only
        split
        · exact .inl rfl
        · exact .inr (by rcases ho with h | h; exact absurd h h0; exact h)
      · intro e9
        have := hQ e9
        rw [feed_cons] at this
        unfold feed1 at this ⊢
        simp only at this ⊢
        split
        · rename_i h7
          rw [if_pos h7, show 7 - p.length = 0 by omega] at this
          exact this
        · rename_i h7
          rw [if_neg h7] at this
          have hz : ¬ (p ++ [true]).length = 0 := by simp
          rw [if_neg hz, show 8 - (p ++ [true]).length = 7 - p.length by simp]
          exact this

theorem fill_spec (C : Ctx) (hP : C.P = Tryd.prog) (p : List Bool) (out : List Int) (hp : p.length < 8) (ho : out.length ≤ 14000000) :
    VCalls C 30 [.ptr 0 0] (outMem p out) [1] (fun v M' => v = .tup [] ∧ M' = outMem [] (feed (p, out) (List.replicate (if p.length = 0 then 0 else 8 - p.length) true)).2) := by
  refine VCalls.of_fn (hs := kz c30) (F := F30) (by rw [hP]; exact is30) (by simp [F30]) ?_
  simp -implicitDefEqProofs only [vms, F30, c30]
  apply VWp_loop_of (k := 9)
  refine fill_loop C hP _ 8 p out hp (.inr (by omega)) (.inr ho) ?_
  intro e9
  simp -implicitDefEqProofs only [vms, vres_nil]
  exact retGo_refl ⟨rfl, rfl⟩
end Go.VM
end

section
set_option linter.unusedSimpArgs false
namespace Go.VM
open Go Go.Proofs Go.Bits

/-- the bytes that are written, and what holds them -/
def zMem (bytes : List Int) : Mem := [.own [.vec 1 bytes.length] 55, .vec .u8 bytes 5]

theorem WriteByte_spec (C : Ctx) (hP : C.P = Tryd.prog) (bytes : List Int) (c : Int) (ho : bytes.length ≤ 16000000) :
    VCalls C 99 [.ptr 0 0, .int .u8 c] (zMem bytes) [1] (fun v M' => v = .nili ∧ M' = zMem (bytes ++ [c])) := by
  refine VCalls.of_fn (hs := kz c99) (F := F99) (by rw [hP]; exact is99) (by simp [F99]) ?_
  simp -implicitDefEqProofs only [vms, ↓reduceIte, Nat.reduceEqDiff, Nat.reduceAdd, reduceCtorEq, Nat.reduceLeDiff, F99, c99, zMem]
  refine app_of rfl rfl (.inr (by simp)) (elems_vec rfl rfl) (by simp; omega) ?_
  simp -implicitDefEqProofs only [vms, ↓reduceIte, Nat.reduceEqDiff, reduceCtorEq, callC, Nat.reduceBEq, knownGo]
  simp only [V.known, if_true]
  exact retGo_take 2 (Nat.le_refl _) (by simp) rfl rfl ⟨rfl, by simp⟩

theorem Flush_spec (C : Ctx) (hP : C.P = Tryd.prog) (v0 : V) (M : Mem) : VCalls C 97 [v0] M [] (fun v M' => v = .nili ∧ M' = M) := by
  refine VCalls.of_fn (hs := kz c97) (F := F97) (by rw [hP]; exact is97) (by simp [F97]) ?_
  simp -implicitDefEqProofs only [vms, ↓reduceIte, F97, c97, knownGo]
  simp only [V.known, if_true]
  exact retGo_refl ⟨rfl, rfl⟩

/-- the tables of the codes, and the tables that numbers are divided by -/
structure EncK where
  q : List Int
  l0 : List Int
  l1 : List Int
  l2 : List Int
  l3 : List Int
  hq : q.length = 128

/-- the encoder's own block: what writes, no error, sixteen bytes, the bits that wait, tables -/
def encCells (K : EncK) (buf : List Int) (bits nb : Int) : List V :=
  [.iface 53 (.ptr 1 0), .nili] ++ (intVs .u8 buf ++ ([.int .u32 bits, .int .u32 nb] ++ (intVs .u8 K.q ++ [.vec 3 K.l0.length, .vec 4 K.l1.length, .vec 5 K.l2.length, .vec 6 K.l3.length])))

def encBlk (K : EncK) (buf : List Int) (bits nb : Int) : Blk := .own (encCells K buf bits nb) 116

section
variable {K : EncK} {buf : List Int} {bits nb : Int}

theorem intVs_length (k : IntKind) (xs : List Int) : (intVs k xs).length = xs.length := by simp [intVs]

theorem enc_w : cellB (some (encBlk K buf bits nb)) 0 = some (.iface 53 (.ptr 1 0)) := rfl
theorem enc_err : cellB (some (encBlk K buf bits nb)) 1 = some .nili := rfl

theorem encCells_get (hb : buf.length = 16) (j : Nat) : (encCells K buf bits nb)[18 + j]? = ([.int .u32 bits, .int .u32 nb] ++ (intVs .u8 K.q ++ [.vec 3 K.l0.length, .vec 4 K.l1.length, .vec 5 K.l2.length, .vec 6 K.l3.length]) : List V)[j]? := by
  unfold encCells
  rw [List.getElem?_append_right (by simp; omega), List.getElem?_append_right (by simp [intVs_length, hb]; omega)]
  congr 1
  simp [intVs_length, hb]; omega

theorem enc_bits (hb : buf.length = 16) : cellB (some (encBlk K buf bits nb)) 18 = some (.int .u32 bits) := by
  simp only [encBlk, cellB]; exact encCells_get hb 0
theorem enc_nb (hb : buf.length = 16) : cellB (some (encBlk K buf bits nb)) 19 = some (.int .u32 nb) := by
  simp only [encBlk, cellB]; exact encCells_get hb 1

theorem enc_len (hb : buf.length = 16) : (encCells K buf bits nb).length = 152 := by
  simp [encCells, intVs_length, hb, K.hq]

theorem set_append_right' {α : Type} (xs ys : List α) (j : Nat) (v : α) (n : Nat) (h : n = xs.length + j) : (xs ++ ys).set n v = xs ++ ys.set j v := by
  subst h
  rw [List.set_append, if_neg (by omega)]
  congr 2; omega

theorem enc_set_bits (hb : buf.length = 16) (v : Int) : (encCells K buf bits nb).set 18 (.int .u32 v) = encCells K buf v nb := by
  unfold encCells
  rw [set_append_right' _ _ 16 _ _ (by simp), set_append_right' _ _ 0 _ _ (by simp [intVs_length, hb])]
  rfl
theorem enc_set_nb (hb : buf.length = 16) (v : Int) : (encCells K buf bits nb).set 19 (.int .u32 v) = encCells K buf bits v := by
  unfold encCells
  rw [set_append_right' _ _ 17 _ _ (by simp), set_append_right' _ _ 1 _ _ (by simp [intVs_length, hb])]
  rfl

theorem enc_set_err : (encCells K buf bits nb).set 1 .nili = encCells K buf bits nb := rfl
theorem putB_err (hb : buf.length = 16) {M : Mem} : putB M 0 1 .nili (some (encBlk K buf bits nb)) = some (.undef, M.set 0 (encBlk K buf bits nb)) := by
  simp only [putB, encBlk, enc_len hb, enc_set_err]
  rfl
theorem putB_bits (hb : buf.length = 16) {M : Mem} {v : Int} : putB M 0 18 (.int .u32 v) (some (encBlk K buf bits nb)) = some (.undef, M.set 0 (encBlk K buf v nb)) := by
  simp only [putB, encBlk, enc_len hb, enc_set_bits hb]
  rfl
theorem putB_nb (hb : buf.length = 16) {M : Mem} {v : Int} : putB M 0 19 (.int .u32 v) (some (encBlk K buf bits nb)) = some (.undef, M.set 0 (encBlk K buf bits v)) := by
  simp only [putB, encBlk, enc_len hb, enc_set_nb hb]
  rfl

theorem enc_refs : V.refsL (encCells K buf bits nb) = [1, 3, 4, 5, 6] := by
  have hi : ∀ (k : IntKind) (xs : List Int), V.refsL (intVs k xs) = [] := by
    intro k xs
    induction xs with
    | nil => rfl
    | cons x xs ih => simpa [intVs, V.refsL, V.refs] using ih
  have happ : ∀ xs ys : List V, V.refsL (xs ++ ys) = V.refsL xs ++ V.refsL ys := by
    intro xs ys
    induction xs with
    | nil => rfl
    | cons x xs ih => simp [V.refsL, ih]
  simp only [encCells, happ, hi]
  rfl
end

/-- the memory of the encoder: its block, what writes, the bytes, four tables of codes -/
def encM (K : EncK) (buf : List Int) (bits nb : Int) (bytes : List Int) : Mem :=
  [encBlk K buf bits nb, .own [.vec 2 bytes.length] 55, .vec .u8 bytes 5, .vec .u32 K.l0 43, .vec .u32 K.l1 43, .vec .u32 K.l2 43, .vec .u32 K.l3 43]

theorem methW1 : methT Tryd.prog 53 "WriteByte" = some 99 := by kernel_rfl
theorem methW : methT Tryd.prog 53 "Write" = some 98 := by kernel_rfl
theorem methF : methT Tryd.prog 53 "Flush" = some 97 := by kernel_rfl
theorem call99 : callable Tryd.prog 99 = true := by kernel_rfl
theorem call98 : callable Tryd.prog 98 = true := by kernel_rfl
theorem call97 : callable Tryd.prog 97 = true := by kernel_rfl

theorem writeByte_spec (C : Ctx) (hP : C.P = Tryd.prog) (K : EncK) (buf : List Int) (hb : buf.length = 16) (bits nb : Int) (bytes : List Int) (c : Int) (ho : bytes.length ≤ 16000000) :
    VCalls C 57 [.ptr 0 0, .int .u8 c] (encM K buf bits nb bytes) [2] (fun v M' => v = .tup [] ∧ M' = encM K buf bits nb (bytes ++ [c])) := by
  refine VCalls.of_fn (hs := kz c57) (F := F57) (by rw [hP]; exact is57) (by simp [F57]) ?_
  simp -implicitDefEqProofs only [vms, ↓reduceIte, Nat.reduceEqDiff, Nat.reduceAdd, reduceCtorEq, F57, c57, encM, enc_err, enc_w, hP, methW1, call99]
  refine ⟨rfl, ?_⟩
  have hrefs : V.refsL (encCells K buf bits nb) = [1, 3, 4, 5, 6] := enc_refs
  refine callK_frame [1, 2] (WriteByte_spec C hP bytes c ho) rfl (by simp) rfl ⟨rfl, rfl, trivial⟩ rfl rfl rfl (by simp [fpσ]) ?_ ?_
  · simp [outs, fpσ, Blk.refs, encBlk, hrefs]
  rintro _ _ ⟨rfl, rfl⟩ -
  change callC C 7 [2] (some 15) _ _ _ [2] .nili (encM K buf bits nb (bytes ++ [c]))
  simp -implicitDefEqProofs only [vms, ↓reduceIte, Nat.reduceEqDiff, reduceCtorEq, callC, Nat.reduceBEq, encM, putB_err hb, vres_nil]
  exact retGo_refl ⟨rfl, rfl⟩
end Go.VM
end

section
set_option linter.unusedSimpArgs false
namespace Go.VM
open Go Go.Proofs Go.Bits

theorem top8 (h r : List Bool) (hh : h.length = 8) (hl : r.length ≤ 24) : val (h ++ r) * 2 ^ (32 - (h ++ r).length) = val h * 16777216 + val r * 2 ^ (24 - r.length) ∧ val r * 2 ^ (24 - r.length) < 16777216 := by
  have e1 : 32 - (h ++ r).length = 24 - r.length := by simp [hh]; omega
  have e2 : 2 ^ r.length * 2 ^ (24 - r.length) = 16777216 := by rw [← Nat.pow_add, show r.length + (24 - r.length) = 24 by omega]
  constructor
  · rw [e1, val_append, Nat.add_mul, Nat.mul_assoc, e2]
  · rw [← e2]
    exact Nat.mul_lt_mul_of_pos_right (val_lt r) (Nat.pow_pos (by decide))

theorem emit_loop (C : Ctx) (hP : C.P = Tryd.prog) (K : EncK) (buf : List Int) (hb : buf.length = 16) (b0 n0 : Int) (Q : VX → Env → Mem → Prop) :
    ∀ (d : Nat) (l : List Bool) (out : List Int), l.length ≤ 32 → l.length < 8 * (d + 1) → out.length + 2 * d ≤ 15000000 →
      (∀ e24, Q (.exit 0) [(0, .ptr 0 0), (1, .int .u32 ((val (loop8 d l out).1 * 2 ^ (32 - (loop8 d l out).1.length) : Nat) : Int)), (2, .int .u32 ((loop8 d l out).1.length : Nat)), (24, e24)] (encM K buf b0 n0 (loop8 d l out).2)) →
      VRounds 7 (VWp C 7 [2] c66l0) (d + 1) [(0, .ptr 0 0), (1, .int .u32 ((val l * 2 ^ (32 - l.length) : Nat) : Int)), (2, .int .u32 (l.length : Nat))] (encM K buf b0 n0 out) Q := by
  intro d
  induction d with
  | zero =>
    intro l out h32 hl ho hQ
    refine round_gen fun K' hK => ?_
    have hd : decide ((8 : Int) ≤ (l.length : Int)) = false := by simp; omega
    simp -implicitDefEqProofs only [vms, ↓reduceIte, Nat.reduceEqDiff, reduceCtorEq, c66l0, hd]
    rw [hK]
    exact hQ _
  | succ d ih =>
    intro l out h32 hl ho hQ
    refine round_gen fun K' hK => ?_
    by_cases h8 : 8 ≤ l.length
    · have hd : decide ((8 : Int) ≤ (l.length : Int)) = true := by simp; omega
      obtain ⟨h, r, rfl, hh⟩ : ∃ h r, l = h ++ r ∧ h.length = 8 := ⟨l.take 8, l.drop 8, (List.take_append_drop 8 l).symm, by simp; omega⟩
      have hrl : r.length ≤ 24 := by simp [hh] at h32; omega
      obtain ⟨t1, t2⟩ := top8 h r hh hrl
      have hv := val_lt h
      rw [hh] at hv
      generalize val (h ++ r) * 2 ^ (32 - (h ++ r).length) = X at t1 ⊢
      have hsh : vbin .shr (.int .u32 (X : Int)) (.int .u64 24) = some (.int .u32 ((val h : Nat) : Int)) := by
        rw [vbin_shr_lit (by omega) (by decide)]
        congr 2
        show (X : Int) / 16777216 = _
        omega
      have hw8 : IntKind.u8.wrap ((val h : Nat) : Int) = ((val h : Nat) : Int) := wrap_u8_id (by omega) (by omega)
      have hnr : (2 : Nat) ^ (32 - r.length) = 2 ^ (24 - r.length) * 256 := by
        rw [show 32 - r.length = (24 - r.length) + 8 by omega, Nat.pow_add]
      have hsl : vbin .shl (.int .u32 (X : Int)) (.int .u64 8) = some (.int .u32 ((val r * 2 ^ (32 - r.length) : Nat) : Int)) := by
        rw [vbin_shl_lit (by omega) (by decide)]
        congr 2
        have e1 : val r * 2 ^ (32 - r.length) = val r * 2 ^ (24 - r.length) * 256 := by rw [hnr, Nat.mul_assoc]
        rw [e1]
        generalize val r * 2 ^ (24 - r.length) = Y at t1 t2
        have : IntKind.u32.wrap ((X : Int) * 256) = (X : Int) * 256 % 4294967296 := by simp [IntKind.wrap, IntKind.bits, IntKind.signed]
        show IntKind.u32.wrap ((X : Int) * 256) = _
        rw [this]
        omega
      have hw2 : IntKind.u32.wrap (((h ++ r).length : Int) - 8) = (r.length : Int) := by
        rw [wrap_u32_id (by simp [hh]; omega) (by simp [hh]; omega)]; simp [hh]; omega
      have hl8 : loop8 (d + 1) (h ++ r) out = loop8 d r (out ++ stuff (val h)) := by
        simp only [loop8]
        rw [if_pos h8, List.take_left' hh, List.drop_left' hh]
      rw [hl8] at hQ
      simp -implicitDefEqProofs only [vms, ↓reduceIte, Nat.reduceEqDiff, reduceCtorEq, c66l0, hd, hsh, hw8]
      refine callK_of [2] rfl (by simp) (writeByte_spec C hP K buf hb b0 n0 out (val h) (by omega)) ?_
      rintro _ _ ⟨rfl, rfl⟩
      simp -implicitDefEqProofs only [vms, ↓reduceIte, Nat.reduceEqDiff, reduceCtorEq, callC, Nat.reduceBEq]
      apply condGo_dec <;> intro h255
      · simp -implicitDefEqProofs only [vms, ↓reduceIte, Nat.reduceEqDiff, reduceCtorEq]
        refine callK_of [2] rfl (by simp) (writeByte_spec C hP K buf hb b0 n0 (out ++ [(val h : Int)]) 0 (by simp; omega)) ?_
        rintro _ _ ⟨rfl, rfl⟩
        simp -implicitDefEqProofs only [vms, ↓reduceIte, Nat.reduceEqDiff, reduceCtorEq, callC, Nat.reduceBEq, hsl, hw2]
        rw [hK, roundK_normal]
        have hv2 : val h = 255 := by omega
        have := ih r (out ++ stuff (val h)) (by omega) (by simp [hh] at hl; omega) (by simp [stuff, hv2]; omega) hQ
        simpa [stuff, hv2] using this
      · simp -implicitDefEqProofs only [vms, ↓reduceIte, Nat.reduceEqDiff, reduceCtorEq, hsl, hw2]
        rw [hK, roundK_normal]
        have hv2 : ¬ val h = 255 := by omega
        have := ih r (out ++ stuff (val h)) (by omega) (by simp [hh] at hl; omega) (by simp [stuff, hv2]; omega) hQ
        simpa [stuff, hv2] using this
    · have hd : decide ((8 : Int) ≤ (l.length : Int)) = false := by simp; omega
      simp -implicitDefEqProofs only [vms, ↓reduceIte, Nat.reduceEqDiff, reduceCtorEq, c66l0, hd]
      rw [hK]
      have hl8 : loop8 (d + 1) l out = (l, out) := loop8_short (by omega)
      rw [hl8] at hQ
      exact hQ _

def encP (K : EncK) (buf : List Int) (p : List Bool) (out : List Int) : Mem := encM K buf ((val p * 2 ^ (32 - p.length) : Nat) : Int) (p.length : Nat) out

theorem emit_spec (C : Ctx) (hP : C.P = Tryd.prog) (K : EncK) (buf : List Int) (hb : buf.length = 16) (p : List Bool) (hp : p.length < 8) (out : List Int) (ho : out.length ≤ 14000000) (x n : Nat) (hn : n ≤ 16) (hx : x < 2 ^ n) :
    VCalls C 66 [.ptr 0 0, .int .u32 x, .int .u32 n] (encP K buf p out) [2] (fun v M' => v = .tup [] ∧ M' = encP K buf (feed (p, out) (bitsOf x n)).1 (feed (p, out) (bitsOf x n)).2) := by
  refine VCalls.of_fn (hs := kz c66) (F := F66) (by rw [hP]; exact is66) (by simp [F66]) ?_
  have hlen : (p ++ bitsOf x n).length = n + p.length := by simp [bitsOf_length]; omega
  have hw1 : IntKind.u32.wrap ((n : Int) + (p.length : Int)) = ((n + p.length : Nat) : Int) := by rw [wrap_u32_id (by omega) (by omega)]; omega
  have hw2 : IntKind.u32.wrap (32 - ((n + p.length : Nat) : Int)) = ((32 - (n + p.length) : Nat) : Int) := by rw [wrap_u32_id (by omega) (by omega)]; omega
  have hp2 : 2 ^ n * 2 ^ (32 - (n + p.length)) = 2 ^ (32 - p.length) := by rw [← Nat.pow_add]; congr 1; omega
  have hlt : x * 2 ^ (32 - (n + p.length)) < 2 ^ (32 - p.length) := by rw [← hp2]; exact Nat.mul_lt_mul_of_pos_right hx (Nat.pow_pos (by decide))
  have h32 : 2 ^ (32 - p.length) ≤ 2 ^ 32 := Nat.pow_le_pow_right (by omega) (by omega)
  have hbb : val p * 2 ^ (32 - p.length) < 2 ^ 32 := by
    have : 2 ^ p.length * 2 ^ (32 - p.length) = 2 ^ 32 := by rw [← Nat.pow_add]; congr 1; omega
    rw [← this]; exact Nat.mul_lt_mul_of_pos_right (val_lt p) (Nat.pow_pos (by decide))
  have hsl : vbin .shl (.int .u32 (x : Int)) (.int .u32 ((32 - (n + p.length) : Nat) : Int)) = some (.int .u32 ((x * 2 ^ (32 - (n + p.length)) : Nat) : Int)) := by
    rw [vbin_shl_lit (by omega) (by simp [IntKind.bits])]
    congr 2
    have e : (x : Int) * 2 ^ (((32 - (n + p.length) : Nat) : Int).toNat) = ((x * 2 ^ (32 - (n + p.length)) : Nat) : Int) := by simp
    rw [e, wrap_u32_id (by omega) (by omega)]
  have hor : bits .or .u32 ((x * 2 ^ (32 - (n + p.length)) : Nat) : Int) ((val p * 2 ^ (32 - p.length) : Nat) : Int) = ((val (p ++ bitsOf x n) * 2 ^ (32 - (p ++ bitsOf x n).length) : Nat) : Int) := by
    rw [Go.u32_or_nat _ _ (by omega) (by omega), Nat.or_comm, Nat.mul_comm (val p), ← Nat.two_pow_add_eq_or_of_lt hlt, val_append, val_bitsOf, Nat.mod_eq_of_lt hx, hlen, bitsOf_length, Nat.add_mul, Nat.mul_assoc, hp2, Nat.mul_comm (val p)]
  simp -implicitDefEqProofs only [vms, ↓reduceIte, Nat.reduceEqDiff, Nat.reduceAdd, reduceCtorEq, F66, c66, encP, encM, enc_nb hb, enc_bits hb, hw1, hw2, hsl, hor]
  apply VWp_loop_of (k := 3)
  have hfl : feed (p, out) (bitsOf x n) = loop8 2 (p ++ bitsOf x n) out := feed_loop8 _ _ _ 2 hp (by rw [bitsOf_length]; omega)
  rw [hfl]
  have := emit_loop C hP K buf hb ((val p * 2 ^ (32 - p.length) : Nat) : Int) (p.length : Nat)
    (blockK 0
      (seqV C 7 [2]
        (VC.reg
          [Item.op none (some 39) (VI.mov (X.t 0)), Item.op none (some 40) (VI.mov (X.t 0)),
            Item.op none (some 41) (VI.mov (X.t 1)), Item.op none (some 42) (VI.mov (X.t 2)),
            Item.op none (some 43) (VI.nilck (X.t 39)), Item.op none (some 44) (VI.fld 18 (X.t 43)),
            Item.op none none (VI.st 1 (X.t 44) (X.t 41)), Item.op none (some 45) (VI.nilck (X.t 40)),
            Item.op none (some 46) (VI.fld 19 (X.t 45)), Item.op none none (VI.st 1 (X.t 46) (X.t 42))]
          [])
        (fnPost 7 [] fun v M' => v = V.tup [] ∧ M' = encP K buf (loop8 2 (p ++ bitsOf x n) out).1 (loop8 2 (p ++ bitsOf x n) out).2)))
    2 (p ++ bitsOf x n) out (by omega) (by omega) (by omega) (by
      intro e24
      simp -implicitDefEqProofs only [vms, ↓reduceIte, Nat.reduceEqDiff, reduceCtorEq, encM, putB_bits hb, putB_nb hb, vres_nil]
      exact retGo_refl ⟨rfl, rfl⟩)
  rw [hlen] at this ⊢
  exact this
end Go.VM
end

section
set_option linter.unusedSimpArgs false
namespace Go.VM
open Go Go.Proofs Go.Bits

section
variable {K : EncK} {buf : List Int} {bits nb : Int}
theorem enc_tail (hb : buf.length = 16) (j : Nat) : (encCells K buf bits nb)[148 + j]? = ([.vec 3 K.l0.length, .vec 4 K.l1.length, .vec 5 K.l2.length, .vec 6 K.l3.length] : List V)[j]? := by
  have h := encCells_get (K := K) (bits := bits) (nb := nb) hb (130 + j)
  rw [show 18 + (130 + j) = 148 + j by omega] at h
  rw [h, List.getElem?_append_right (by simp; omega), List.getElem?_append_right (by simp [intVs_length, K.hq]; omega)]
  congr 1
  simp [intVs_length, K.hq]; omega
theorem enc_l0 (hb : buf.length = 16) : cellB (some (encBlk K buf bits nb)) 148 = some (.vec 3 K.l0.length) := by
  simp only [encBlk, cellB]; exact enc_tail hb 0
theorem enc_l1 (hb : buf.length = 16) : cellB (some (encBlk K buf bits nb)) 149 = some (.vec 4 K.l1.length) := by
  simp only [encBlk, cellB]; exact enc_tail hb 1
theorem enc_l2 (hb : buf.length = 16) : cellB (some (encBlk K buf bits nb)) 150 = some (.vec 5 K.l2.length) := by
  simp only [encBlk, cellB]; exact enc_tail hb 2
theorem enc_l3 (hb : buf.length = 16) : cellB (some (encBlk K buf bits nb)) 151 = some (.vec 6 K.l3.length) := by
  simp only [encBlk, cellB]; exact enc_tail hb 3
end

/-- a table of codes -/
def EncK.tab (K : EncK) : Nat → List Int
  | 0 => K.l0
  | 1 => K.l1
  | 2 => K.l2
  | _ => K.l3

theorem entry_and (code wide : Nat) (hw : wide ≤ 16) (hc : code < 2 ^ wide) : bits .and .u32 ((code + 16777216 * wide : Nat) : Int) 16777215 = (code : Int) := by
  have h16 : 2 ^ wide ≤ 2 ^ 16 := Nat.pow_le_pow_right (by omega) hw
  rw [show (16777215 : Int) = ((16777215 : Nat) : Int) from rfl, Go.u32_and_nat _ _ (by omega) (by omega), show 16777215 = 2 ^ 24 - 1 from rfl, Nat.and_two_pow_sub_one_eq_mod]
  congr 1
  omega

theorem emitHuff_spec (C : Ctx) (hP : C.P = Tryd.prog) (K : EncK) (buf : List Int) (hb : buf.length = 16) (p : List Bool) (hp : p.length < 8) (out : List Int) (ho : out.length ≤ 14000000) (h : Nat) (hh : h < 4) (v code wide : Nat)
    (hv : (K.tab h)[v]? = some ((code + 16777216 * wide : Nat) : Int)) (hw : wide ≤ 16) (hc : code < 2 ^ wide) :
    VCalls C 72 [.ptr 0 0, .int .i64 h, .int .i32 v] (encP K buf p out) [2] (fun u M' => u = .tup [] ∧ M' = encP K buf (feed (p, out) (bitsOf code wide)).1 (feed (p, out) (bitsOf code wide)).2) := by
  refine VCalls.of_fn (hs := kz c72) (F := F72) (by rw [hP]; exact is72) (by simp [F72]) ?_
  have hvl : v < (K.tab h).length := (List.getElem?_eq_some_iff.1 hv).1
  have ha := entry_and code wide hw hc
  have h16 : 2 ^ wide ≤ 2 ^ 16 := Nat.pow_le_pow_right (by omega) hw
  have hsh : vbin .shr (.int .u32 ((code + 16777216 * wide : Nat) : Int)) (.int .u64 24) = some (.int .u32 (wide : Int)) := by
    rw [vbin_shr_lit (by omega) (by decide)]
    congr 2
    show ((code + 16777216 * wide : Nat) : Int) / 16777216 = _
    omega
  have em := emit_spec C hP K buf hb p hp out ho code wide hw hc
  have hcases : h = 0 ∨ h = 1 ∨ h = 2 ∨ h = 3 := by omega
  rcases hcases with rfl | rfl | rfl | rfl
  · have hix : ∀ a b c e f g, vidxS [a, b, c, .vec .u32 K.l0 43, e, f, g] 1 (.vec 3 K.l0.length) (.int .i32 v) = some (.ptr 3 v) := by
      intro a b c e f g
      rw [vidxS_vec rfl rfl (by omega) (by have : v < K.l0.length := hvl; omega)]
      simp
    have hld : cellB (some (.vec .u32 K.l0 43)) v = some (.int .u32 ((code + 16777216 * wide : Nat) : Int)) := cellB_vec hv
    have hia : vidxA 4 1 (.ptr 0 148) (.int .i64 ((0 : Nat) : Int)) = some (.ptr 0 148) := rfl
    simp -implicitDefEqProofs only [vms, ↓reduceIte, Nat.reduceEqDiff, Nat.reduceAdd, reduceCtorEq, F72, c72, encP, encM, hia, enc_l0 hb, hix, hld, ha, hsh]
    refine callK_of [2] rfl (by simp) em ?_
    rintro _ _ ⟨rfl, rfl⟩
    simp -implicitDefEqProofs only [vms, ↓reduceIte, callC, Nat.reduceBEq, vres_nil]
    exact retGo_refl ⟨rfl, rfl⟩
  · have hix : ∀ a b c d f g, vidxS [a, b, c, d, .vec .u32 K.l1 43, f, g] 1 (.vec 4 K.l1.length) (.int .i32 v) = some (.ptr 4 v) := by
      intro a b c d f g
      rw [vidxS_vec rfl rfl (by omega) (by have : v < K.l1.length := hvl; omega)]
      simp
    have hld : cellB (some (.vec .u32 K.l1 43)) v = some (.int .u32 ((code + 16777216 * wide : Nat) : Int)) := cellB_vec hv
    have hia : vidxA 4 1 (.ptr 0 148) (.int .i64 ((1 : Nat) : Int)) = some (.ptr 0 149) := rfl
    simp -implicitDefEqProofs only [vms, ↓reduceIte, Nat.reduceEqDiff, Nat.reduceAdd, reduceCtorEq, F72, c72, encP, encM, hia, enc_l1 hb, hix, hld, ha, hsh]
    refine callK_of [2] rfl (by simp) em ?_
    rintro _ _ ⟨rfl, rfl⟩
    simp -implicitDefEqProofs only [vms, ↓reduceIte, callC, Nat.reduceBEq, vres_nil]
    exact retGo_refl ⟨rfl, rfl⟩
  · have hix : ∀ a b c d e g, vidxS [a, b, c, d, e, .vec .u32 K.l2 43, g] 1 (.vec 5 K.l2.length) (.int .i32 v) = some (.ptr 5 v) := by
      intro a b c d e g
      rw [vidxS_vec rfl rfl (by omega) (by have : v < K.l2.length := hvl; omega)]
      simp
    have hld : cellB (some (.vec .u32 K.l2 43)) v = some (.int .u32 ((code + 16777216 * wide : Nat) : Int)) := cellB_vec hv
    have hia : vidxA 4 1 (.ptr 0 148) (.int .i64 ((2 : Nat) : Int)) = some (.ptr 0 150) := rfl
    simp -implicitDefEqProofs only [vms, ↓reduceIte, Nat.reduceEqDiff, Nat.reduceAdd, reduceCtorEq, F72, c72, encP, encM, hia, enc_l2 hb, hix, hld, ha, hsh]
    refine callK_of [2] rfl (by simp) em ?_
    rintro _ _ ⟨rfl, rfl⟩
    simp -implicitDefEqProofs only [vms, ↓reduceIte, callC, Nat.reduceBEq, vres_nil]
    exact retGo_refl ⟨rfl, rfl⟩
  · have hix : ∀ a b c d e f, vidxS [a, b, c, d, e, f, .vec .u32 K.l3 43] 1 (.vec 6 K.l3.length) (.int .i32 v) = some (.ptr 6 v) := by
      intro a b c d e f
      rw [vidxS_vec rfl rfl (by omega) (by have : v < K.l3.length := hvl; omega)]
      simp
    have hld : cellB (some (.vec .u32 K.l3 43)) v = some (.int .u32 ((code + 16777216 * wide : Nat) : Int)) := cellB_vec hv
    have hia : vidxA 4 1 (.ptr 0 148) (.int .i64 ((3 : Nat) : Int)) = some (.ptr 0 151) := rfl
    simp -implicitDefEqProofs only [vms, ↓reduceIte, Nat.reduceEqDiff, Nat.reduceAdd, reduceCtorEq, F72, c72, encP, encM, hia, enc_l3 hb, hix, hld, ha, hsh]
    refine callK_of [2] rfl (by simp) em ?_
    rintro _ _ ⟨rfl, rfl⟩
    simp -implicitDefEqProofs only [vms, ↓reduceIte, callC, Nat.reduceBEq, vres_nil]
    exact retGo_refl ⟨rfl, rfl⟩
end Go.VM
end

section
/-
  How many bits a number has; the bits that are written for it. Plain facts. No condition.
-/
namespace Go.Bits

/-- how many bits a number has -/
def blen (a : Nat) : Nat := if a = 0 then 0 else a.log2 + 1

theorem blen_le {a k : Nat} (h : a < 2 ^ k) : blen a ≤ k := by
  unfold blen
  split
  · omega
  · rename_i h0
    have := (Nat.log2_lt h0).2 h
    omega

theorem lt_blen (a : Nat) : a < 2 ^ blen a := by
  unfold blen
  split
  · rename_i h; simp [h]
  · exact Nat.lt_log2_self

theorem blen_div (a : Nat) (h : 256 ≤ a) : blen a = 8 + blen (a / 256) := by
  have h0 : a ≠ 0 := by omega
  have h1 : a / 256 ≠ 0 := by omega
  have e1 : a / 256 = a / 2 / 2 / 2 / 2 / 2 / 2 / 2 / 2 := by omega
  have st : ∀ b : Nat, 2 ≤ b → b.log2 = (b / 2).log2 + 1 := by
    intro b hb; rw [Nat.log2_def, if_pos hb]
  unfold blen
  rw [if_neg h0, if_neg h1, e1, st a (by omega), st (a / 2) (by omega), st (a / 2 / 2) (by omega), st (a / 2 / 2 / 2) (by omega), st (a / 2 / 2 / 2 / 2) (by omega), st (a / 2 / 2 / 2 / 2 / 2) (by omega),
    st (a / 2 / 2 / 2 / 2 / 2 / 2) (by omega), st (a / 2 / 2 / 2 / 2 / 2 / 2 / 2) (by omega)]
  omega

/-- the bits of a number: of one below nought those of one less -/
def codedN (n : Int) : Nat := (if n < 0 then n + 2 ^ blen n.natAbs - 1 else n).toNat

theorem codedN_lt (n : Int) : codedN n < 2 ^ blen n.natAbs := by
  have h := lt_blen n.natAbs
  have e : ((2 ^ blen n.natAbs : Nat) : Int) = 2 ^ blen n.natAbs := by simp
  unfold codedN
  split
  · rw [← e]; omega
  · omega

theorem feed1_len (s : List Bool × List Int) (b : Bool) : (feed1 s b).2.length ≤ s.2.length + 2 := by
  unfold feed1; split
  · simp only [List.length_append, stuff]; split <;> simp
  · simp

theorem feed_len : ∀ (bs : List Bool) (s : List Bool × List Int), (feed s bs).2.length ≤ s.2.length + 2 * bs.length
  | [], s => by simp [feed_nil]
  | b :: bs, s => by
    have h1 := feed1_len s b
    have h2 := feed_len bs (feed1 s b)
    rw [feed_cons]
    simp only [List.length_cons]
    omega
end Go.Bits
end
