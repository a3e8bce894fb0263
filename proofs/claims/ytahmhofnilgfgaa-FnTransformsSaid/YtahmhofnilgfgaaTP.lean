/-
  A part of a small machine over the model, or of a walk by it, proved right against the model. Proved outright, under no condition but what each theorem names.
-/
import Derived.Test.YtahmhofnilgfgaaTO
import Derived.Test.YtahmhofnilgfgaaTB
set_option linter.unusedSimpArgs false
namespace Go.VM
open Go Go.Proofs

theorem fits_loop (xs : List Int) (hx : InB xs) (Q : VX → Env → Mem → Prop)
    (hQ : ∀ (a b e7 : V), Q (.exit 0) [(5, .ints .i32 xs), (6, .int .i64 64), (7, e7), (12, a), (13, b)] [.ints .i32 xs 23]) :
    ∀ (d j : Nat) (a b : V), j + d = 64 →
      VRounds 0 (VWp C0 0 [] c11l0) (d + 1) [(5, .ints .i32 xs), (6, .int .i64 j), (12, a), (13, b)] [.ints .i32 xs 23] Q
  | 0, j, a, b, hj => by
    have : j = 64 := by omega
    subst this
    apply round
    have e : ((64 : Nat) : Int) = 64 := rfl
    have e2 : decide ((64 : Int) < 64) = false := by decide
    simp (config := {implicitDefEqProofs := false}) only [regK_eq, quietK_eq, tailK_eq, seqV_normal, seqV_exit, seqV_ret, blockK_normal, blockK_ret, blockK_same, VWp_skip, VWp_exit, VWp_ret, VWp_reg, VWp_drq, VWp_drt, VWp_seq, VWp_cond, VWp_block, condGo_true, condGo_false, condGo_not, wpItems_nil, wpItems_op, wpItems_opg, wpItems_call, wpItems_callv, goOp_some, goG_bool, goV_fn, wpQuiet_nil, wpQuiet_op, wpQuiet_opg, goQ_some, goGQ_bool, get_nil, get_cons, if_true, if_false, ite_true, ite_false, putO_some, putO_none, keep_nil, keep_cons, ev_t, ev_c, ofArgs_nil, ofArgs_cons, vargs_nil, vargs_cons, Nat.reduceEqDiff, Nat.reduceAdd, Nat.zero_add, Nat.add_zero, vld_ptr, cellB_own, vlen_slice, vlen_nils, vlen_vec, vbin_add, vbin_sub, vbin_mul, vbin_and, vbin_or, vbin_xor, vbin_eql, vbin_neq, vbin_lss, vbin_leq, vbin_gtr, vbin_geq, vun_neg, vun_not, vop_mov, vop_pick, pickGo_bool, vop_nilck, nilGo_ptr, nilGo_raw, nilGo_fn, valGo_some, vop_bin, vop_un, vop_conv, vconv_int, vop_fld, vfld_ptr, vop_idxA, vop_idxS, vop_ld, vop_ldA, vldA_ptr, vop_st, vop_alloc, vop_box, boxGo_some, vbox_ints, vbox_int, vbox_bool, vbox_ptr, vop_tupx, vop_idxV, vop_part, vop_build, vop_len, knownGo_int, knownGo_bool, knownGo_ints, vres1_tmp, vres1_cells, cellsGo_ptr, vfill_nil, List.map_nil, List.getElem?_cons_zero, List.getElem?_cons_succ, List.set_cons_zero, List.set_cons_succ, List.length_cons, List.length_nil, fnPost_ret, fnPost_normal, vres_one, reduceCtorEq, Bool.not_true, Bool.not_false, vbin_shr, vbin_shl, Nat.min_def, Int.fdiv_eq_ediv_of_nonneg, IntKind.bits, Nat.reduceLeDiff, Int.reducePow, Nat.le_refl, Int.reduceToNat, Int.reduceLE, Int.reduceMul, Int.reduceAdd, Int.reduceSub, Int.reduceNeg, roundK_normal, roundK_exit, roundK_ret, c11l0, e, e2]
    exact hQ _ _ _
  | d + 1, j, a, b, hj => by
    apply round
    have hlt : (j : Int) < 64 := by omega
    have hjx : j < xs.length := by rw [hx.1]; omega
    have hin := hx.2 _ (List.getElem_mem hjx)
    have h1 : decide (xs[j] < -1048576) = false := by simp; omega
    have h2 : decide (xs[j] > 1048576) = false := by simp; omega
    have hv : vidxV false 64 1 (.ints .i32 xs) (.int .i64 j) = some (.int .i32 xs[j]) := vidxV_ints (by omega) (by omega) (by simp [hjx])
    have hw : IntKind.i64.wrap ((j : Int) + 1) = ((j + 1 : Nat) : Int) := by rw [wrap_i64_id (by omega) (by omega)]; omega
    simp (config := {implicitDefEqProofs := false}) only [regK_eq, quietK_eq, tailK_eq, seqV_normal, seqV_exit, seqV_ret, blockK_normal, blockK_ret, blockK_same, VWp_skip, VWp_exit, VWp_ret, VWp_reg, VWp_drq, VWp_drt, VWp_seq, VWp_cond, VWp_block, condGo_true, condGo_false, condGo_not, wpItems_nil, wpItems_op, wpItems_opg, wpItems_call, wpItems_callv, goOp_some, goG_bool, goV_fn, wpQuiet_nil, wpQuiet_op, wpQuiet_opg, goQ_some, goGQ_bool, get_nil, get_cons, if_true, if_false, ite_true, ite_false, putO_some, putO_none, keep_nil, keep_cons, ev_t, ev_c, ofArgs_nil, ofArgs_cons, vargs_nil, vargs_cons, Nat.reduceEqDiff, Nat.reduceAdd, Nat.zero_add, Nat.add_zero, vld_ptr, cellB_own, vlen_slice, vlen_nils, vlen_vec, vbin_add, vbin_sub, vbin_mul, vbin_and, vbin_or, vbin_xor, vbin_eql, vbin_neq, vbin_lss, vbin_leq, vbin_gtr, vbin_geq, vun_neg, vun_not, vop_mov, vop_pick, pickGo_bool, vop_nilck, nilGo_ptr, nilGo_raw, nilGo_fn, valGo_some, vop_bin, vop_un, vop_conv, vconv_int, vop_fld, vfld_ptr, vop_idxA, vop_idxS, vop_ld, vop_ldA, vldA_ptr, vop_st, vop_alloc, vop_box, boxGo_some, vbox_ints, vbox_int, vbox_bool, vbox_ptr, vop_tupx, vop_idxV, vop_part, vop_build, vop_len, knownGo_int, knownGo_bool, knownGo_ints, vres1_tmp, vres1_cells, cellsGo_ptr, vfill_nil, List.map_nil, List.getElem?_cons_zero, List.getElem?_cons_succ, List.set_cons_zero, List.set_cons_succ, List.length_cons, List.length_nil, fnPost_ret, fnPost_normal, vres_one, reduceCtorEq, Bool.not_true, Bool.not_false, vbin_shr, vbin_shl, Nat.min_def, Int.fdiv_eq_ediv_of_nonneg, IntKind.bits, Nat.reduceLeDiff, Int.reducePow, Nat.le_refl, Int.reduceToNat, Int.reduceLE, Int.reduceMul, Int.reduceAdd, Int.reduceSub, Int.reduceNeg, roundK_normal, roundK_exit, roundK_ret, c11l0, hlt, decide_true, hv, h1, h2, hw, roundK]
    exact fits_loop xs hx Q hQ d (j + 1) _ _ (by omega)

theorem fits_spec (xs : List Int) (hx : InB xs) :
    VCalls C0 11 [.ints .i32 xs] [] [] (fun v M' => v = .bool true ∧ M' = []) := by
  refine VCalls.of_fn (hs := h11) (F := F11) (by exact is11) (by simp [F11]) ?_
  have hr1 : Mem.range [.ints .i32 xs 23] 0 0 64 = some (.ints .i32 xs) := by
    rw [range_ints (k := .i32) (xs := xs) (T := 23) rfl (by rw [hx.1])]
  simp (config := {implicitDefEqProofs := false}) only [regK_eq, quietK_eq, tailK_eq, seqV_normal, seqV_exit, seqV_ret, blockK_normal, blockK_ret, blockK_same, VWp_skip, VWp_exit, VWp_ret, VWp_reg, VWp_drq, VWp_drt, VWp_seq, VWp_cond, VWp_block, condGo_true, condGo_false, condGo_not, wpItems_nil, wpItems_op, wpItems_opg, wpItems_call, wpItems_callv, goOp_some, goG_bool, goV_fn, wpQuiet_nil, wpQuiet_op, wpQuiet_opg, goQ_some, goGQ_bool, get_nil, get_cons, if_true, if_false, ite_true, ite_false, putO_some, putO_none, keep_nil, keep_cons, ev_t, ev_c, ofArgs_nil, ofArgs_cons, vargs_nil, vargs_cons, Nat.reduceEqDiff, Nat.reduceAdd, Nat.zero_add, Nat.add_zero, vld_ptr, cellB_own, vlen_slice, vlen_nils, vlen_vec, vbin_add, vbin_sub, vbin_mul, vbin_and, vbin_or, vbin_xor, vbin_eql, vbin_neq, vbin_lss, vbin_leq, vbin_gtr, vbin_geq, vun_neg, vun_not, vop_mov, vop_pick, pickGo_bool, vop_nilck, nilGo_ptr, nilGo_raw, nilGo_fn, valGo_some, vop_bin, vop_un, vop_conv, vconv_int, vop_fld, vfld_ptr, vop_idxA, vop_idxS, vop_ld, vop_ldA, vldA_ptr, vop_st, vop_alloc, vop_box, boxGo_some, vbox_ints, vbox_int, vbox_bool, vbox_ptr, vop_tupx, vop_idxV, vop_part, vop_build, vop_len, knownGo_int, knownGo_bool, knownGo_ints, vres1_tmp, vres1_cells, cellsGo_ptr, vfill_nil, List.map_nil, List.getElem?_cons_zero, List.getElem?_cons_succ, List.set_cons_zero, List.set_cons_succ, List.length_cons, List.length_nil, fnPost_ret, fnPost_normal, vres_one, reduceCtorEq, Bool.not_true, Bool.not_false, vbin_shr, vbin_shl, Nat.min_def, Int.fdiv_eq_ediv_of_nonneg, IntKind.bits, Nat.reduceLeDiff, Int.reducePow, Nat.le_refl, Int.reduceToNat, Int.reduceLE, Int.reduceMul, Int.reduceAdd, Int.reduceSub, Int.reduceNeg, roundK_normal, roundK_exit, roundK_ret, F11, c11, List.nil_append, hr1]
  apply VWp_loop_of (k := 65)
  refine fits_loop xs hx _ ?_ 64 0 _ _ rfl
  intro a b e7
  simp (config := {implicitDefEqProofs := false}) only [regK_eq, quietK_eq, tailK_eq, seqV_normal, seqV_exit, seqV_ret, blockK_normal, blockK_ret, blockK_same, VWp_skip, VWp_exit, VWp_ret, VWp_reg, VWp_drq, VWp_drt, VWp_seq, VWp_cond, VWp_block, condGo_true, condGo_false, condGo_not, wpItems_nil, wpItems_op, wpItems_opg, wpItems_call, wpItems_callv, goOp_some, goG_bool, goV_fn, wpQuiet_nil, wpQuiet_op, wpQuiet_opg, goQ_some, goGQ_bool, get_nil, get_cons, if_true, if_false, ite_true, ite_false, putO_some, putO_none, keep_nil, keep_cons, ev_t, ev_c, ofArgs_nil, ofArgs_cons, vargs_nil, vargs_cons, Nat.reduceEqDiff, Nat.reduceAdd, Nat.zero_add, Nat.add_zero, vld_ptr, cellB_own, vlen_slice, vlen_nils, vlen_vec, vbin_add, vbin_sub, vbin_mul, vbin_and, vbin_or, vbin_xor, vbin_eql, vbin_neq, vbin_lss, vbin_leq, vbin_gtr, vbin_geq, vun_neg, vun_not, vop_mov, vop_pick, pickGo_bool, vop_nilck, nilGo_ptr, nilGo_raw, nilGo_fn, valGo_some, vop_bin, vop_un, vop_conv, vconv_int, vop_fld, vfld_ptr, vop_idxA, vop_idxS, vop_ld, vop_ldA, vldA_ptr, vop_st, vop_alloc, vop_box, boxGo_some, vbox_ints, vbox_int, vbox_bool, vbox_ptr, vop_tupx, vop_idxV, vop_part, vop_build, vop_len, knownGo_int, knownGo_bool, knownGo_ints, vres1_tmp, vres1_cells, cellsGo_ptr, vfill_nil, List.map_nil, List.getElem?_cons_zero, List.getElem?_cons_succ, List.set_cons_zero, List.set_cons_succ, List.length_cons, List.length_nil, fnPost_ret, fnPost_normal, vres_one, reduceCtorEq, Bool.not_true, Bool.not_false, vbin_shr, vbin_shl, Nat.min_def, Int.fdiv_eq_ediv_of_nonneg, IntKind.bits, Nat.reduceLeDiff, Int.reducePow, Nat.le_refl, Int.reduceToNat, Int.reduceLE, Int.reduceMul, Int.reduceAdd, Int.reduceSub, Int.reduceNeg, roundK_normal, roundK_exit, roundK_ret]
  exact retGo_take 0 (Nat.le_refl _) (by simp) rfl rfl ⟨rfl, rfl⟩

theorem tbl_ok : ∀ f F, tbl f = some F → ∃ hs, compFn C0.P hs f = some F := by
  intro f F h
  unfold tbl at h
  split at h <;> first | (cases h; done) | (cases h; exact ⟨_, by first | exact is6 | exact is8 | exact is12 | exact is13 | exact is14 | exact is15 | exact is16 | exact is17 | exact is18 | exact is19 | exact is20 | exact is21 | exact is22 | exact is23 | exact is24 | exact is25 | exact is26 | exact is27 | exact is28 | exact is29⟩)

theorem c0_call {f : Nat} {vs : List V} {v : V} {M' : Mem} (h : callX C0 tbl 100 10 f vs [] = some (v, M')) : VCalls C0 f vs [] [] fun v' M'' => v' = v ∧ M'' = M' :=
  callX_sound tbl tbl_ok 100 10 f vs [] v M' h

theorem open64 {xs : List Int} (h : xs.length = 64) : ∃ x0 x1 x2 x3 x4 x5 x6 x7 x8 x9 x10 x11 x12 x13 x14 x15 x16 x17 x18 x19 x20 x21 x22 x23 x24 x25 x26 x27 x28 x29 x30 x31 x32 x33 x34 x35 x36 x37 x38 x39 x40 x41 x42 x43 x44 x45 x46 x47 x48 x49 x50 x51 x52 x53 x54 x55 x56 x57 x58 x59 x60 x61 x62 x63, xs = [x0, x1, x2, x3, x4, x5, x6, x7, x8, x9, x10, x11, x12, x13, x14, x15, x16, x17, x18, x19, x20, x21, x22, x23, x24, x25, x26, x27, x28, x29, x30, x31, x32, x33, x34, x35, x36, x37, x38, x39, x40, x41, x42, x43, x44, x45, x46, x47, x48, x49, x50, x51, x52, x53, x54, x55, x56, x57, x58, x59, x60, x61, x62, x63] := by
  have hx : ∀ {n : Nat} {xs : List Int}, xs.length = n + 1 → ∃ a t, xs = a :: t ∧ t.length = n := fun {n xs} h => by
    cases xs with
    | nil => simp at h
    | cons a t => exact ⟨a, t, rfl, by simpa using h⟩
  obtain ⟨a0, t0, rfl, h0⟩ := hx h
  obtain ⟨a1, t1, rfl, h1⟩ := hx h0
  obtain ⟨a2, t2, rfl, h2⟩ := hx h1
  obtain ⟨a3, t3, rfl, h3⟩ := hx h2
  obtain ⟨a4, t4, rfl, h4⟩ := hx h3
  obtain ⟨a5, t5, rfl, h5⟩ := hx h4
  obtain ⟨a6, t6, rfl, h6⟩ := hx h5
  obtain ⟨a7, t7, rfl, h7⟩ := hx h6
  obtain ⟨a8, t8, rfl, h8⟩ := hx h7
  obtain ⟨a9, t9, rfl, h9⟩ := hx h8
  obtain ⟨a10, t10, rfl, h10⟩ := hx h9
  obtain ⟨a11, t11, rfl, h11⟩ := hx h10
  obtain ⟨a12, t12, rfl, h12⟩ := hx h11
  obtain ⟨a13, t13, rfl, h13⟩ := hx h12
  obtain ⟨a14, t14, rfl, h14⟩ := hx h13
  obtain ⟨a15, t15, rfl, h15⟩ := hx h14
  obtain ⟨a16, t16, rfl, h16⟩ := hx h15
  obtain ⟨a17, t17, rfl, h17⟩ := hx h16
  obtain ⟨a18, t18, rfl, h18⟩ := hx h17
  obtain ⟨a19, t19, rfl, h19⟩ := hx h18
  obtain ⟨a20, t20, rfl, h20⟩ := hx h19
  obtain ⟨a21, t21, rfl, h21⟩ := hx h20
  obtain ⟨a22, t22, rfl, h22⟩ := hx h21
  obtain ⟨a23, t23, rfl, h23⟩ := hx h22
  obtain ⟨a24, t24, rfl, h24⟩ := hx h23
  obtain ⟨a25, t25, rfl, h25⟩ := hx h24
  obtain ⟨a26, t26, rfl, h26⟩ := hx h25
  obtain ⟨a27, t27, rfl, h27⟩ := hx h26
  obtain ⟨a28, t28, rfl, h28⟩ := hx h27
  obtain ⟨a29, t29, rfl, h29⟩ := hx h28
  obtain ⟨a30, t30, rfl, h30⟩ := hx h29
  obtain ⟨a31, t31, rfl, h31⟩ := hx h30
  obtain ⟨a32, t32, rfl, h32⟩ := hx h31
  obtain ⟨a33, t33, rfl, h33⟩ := hx h32
  obtain ⟨a34, t34, rfl, h34⟩ := hx h33
  obtain ⟨a35, t35, rfl, h35⟩ := hx h34
  obtain ⟨a36, t36, rfl, h36⟩ := hx h35
  obtain ⟨a37, t37, rfl, h37⟩ := hx h36
  obtain ⟨a38, t38, rfl, h38⟩ := hx h37
  obtain ⟨a39, t39, rfl, h39⟩ := hx h38
  obtain ⟨a40, t40, rfl, h40⟩ := hx h39
  obtain ⟨a41, t41, rfl, h41⟩ := hx h40
  obtain ⟨a42, t42, rfl, h42⟩ := hx h41
  obtain ⟨a43, t43, rfl, h43⟩ := hx h42
  obtain ⟨a44, t44, rfl, h44⟩ := hx h43
  obtain ⟨a45, t45, rfl, h45⟩ := hx h44
  obtain ⟨a46, t46, rfl, h46⟩ := hx h45
  obtain ⟨a47, t47, rfl, h47⟩ := hx h46
  obtain ⟨a48, t48, rfl, h48⟩ := hx h47
  obtain ⟨a49, t49, rfl, h49⟩ := hx h48
  obtain ⟨a50, t50, rfl, h50⟩ := hx h49
  obtain ⟨a51, t51, rfl, h51⟩ := hx h50
  obtain ⟨a52, t52, rfl, h52⟩ := hx h51
  obtain ⟨a53, t53, rfl, h53⟩ := hx h52
  obtain ⟨a54, t54, rfl, h54⟩ := hx h53
  obtain ⟨a55, t55, rfl, h55⟩ := hx h54
  obtain ⟨a56, t56, rfl, h56⟩ := hx h55
  obtain ⟨a57, t57, rfl, h57⟩ := hx h56
  obtain ⟨a58, t58, rfl, h58⟩ := hx h57
  obtain ⟨a59, t59, rfl, h59⟩ := hx h58
  obtain ⟨a60, t60, rfl, h60⟩ := hx h59
  obtain ⟨a61, t61, rfl, h61⟩ := hx h60
  obtain ⟨a62, t62, rfl, h62⟩ := hx h61
  obtain ⟨a63, t63, rfl, h63⟩ := hx h62
  obtain rfl := List.length_eq_zero_iff.1 h63
  exact ⟨a0, a1, a2, a3, a4, a5, a6, a7, a8, a9, a10, a11, a12, a13, a14, a15, a16, a17, a18, a19, a20, a21, a22, a23, a24, a25, a26, a27, a28, a29, a30, a31, a32, a33, a34, a35, a36, a37, a38, a39, a40, a41, a42, a43, a44, a45, a46, a47, a48, a49, a50, a51, a52, a53, a54, a55, a56, a57, a58, a59, a60, a61, a62, a63, rfl⟩



end Go.VM
