/-
  Rules by which simp walks compiled code; a rule that leaves the rest of the memory alone. No condition but what each theorem names.
-/
import Derived.Test.YtahmhofnilgfgaaDoorVNtoVO
set_option linter.unusedVariables false
set_option linter.unusedSimpArgs false
section
namespace Go.VM
open Go

/-! The goals, step by step: what follows is held as data. -/
section
variable (C : Ctx) (n0 : Nat) (mv : List Nat)

def regK (ks : List Nat) (Q : VX → Env → Mem → Prop) (e : Env) (M : Mem) : Prop := Q .normal (e.keep ks) M
def quietK (ks : List Nat) (M : Mem) (Q : VX → Env → Mem → Prop) (e : Env) : Prop := Q .normal (e.keep ks) M
def tailK (tl : List Item) (ks : List Nat) (M : Mem) (Q : VX → Env → Mem → Prop) (e : Env) : Prop := wpItems C n0 mv tl e M (regK ks Q)
def seqV (b : VC) (Q : VX → Env → Mem → Prop) : VX → Env → Mem → Prop
  | .normal, e, M => VWp C n0 mv b e M Q
  | x, e, M => Q x e M
def condGo (v : V) (a b : VC) (e : Env) (M : Mem) (Q : VX → Env → Mem → Prop) : Prop :=
  match v with
  | .bool t => (t = true → VWp C n0 mv a e M Q) ∧ (t = false → VWp C n0 mv b e M Q)
  | _ => False
def goOp (x : Option (V × Mem)) (d : Option Nat) (r : List Item) (e : Env) (Q : Env → Mem → Prop) : Prop :=
  match x with
  | some (v, M') => wpItems C n0 mv r (e.putO d v) M' Q
  | none => False
def goQ (x : Option (V × Mem)) (d : Option Nat) (r : List Item) (e : Env) (M : Mem) (Q : Env → Prop) : Prop :=
  match x with
  | some (v, _) => wpQuiet C r (e.putO d v) M Q
  | none => False
def goG (g : V) (want : Bool) (vi : VI) (d : Option Nat) (r : List Item) (e : Env) (M : Mem) (Q : Env → Mem → Prop) : Prop :=
  match g with
  | .bool b => if b = want then goOp C n0 mv (vop C e M vi) d r e Q else wpItems C n0 mv r (e.putO d .undef) M Q
  | _ => False
def goGQ (g : V) (want : Bool) (vi : VI) (d : Option Nat) (r : List Item) (e : Env) (M : Mem) (Q : Env → Prop) : Prop :=
  match g with
  | .bool b => if b = want then goQ C (vop C e M vi) d r e M Q else wpQuiet C r (e.putO d .undef) M Q
  | _ => False
def goCG (g : V) (want : Bool) (f : Nat) (vs : List V) (d : Option Nat) (r : List Item) (e : Env) (M : Mem) (Q : Env → Mem → Prop) : Prop :=
  match g with
  | .bool b => if b = want then callK C n0 mv f vs M (fun mvc v M' => wpItems C n0 mv r ((e.erases mvc).putO d v) M' Q) else wpItems C n0 mv r (e.putO d .undef) M Q
  | _ => False
def goInvF (f : Option Nat) (v : V) (vs : List V) (d : Option Nat) (r : List Item) (e : Env) (M : Mem) (Q : Env → Mem → Prop) : Prop :=
  match f with
  | some f => callable C.P f = true ∧ v.known = true ∧ callK C n0 mv f (v :: vs) M (fun mvc v M' => wpItems C n0 mv r ((e.erases mvc).putO d v) M' Q)
  | none => False
def goInv (x : V) (name : String) (vs : List V) (d : Option Nat) (r : List Item) (e : Env) (M : Mem) (Q : Env → Mem → Prop) : Prop :=
  match x with
  | .iface t v => goInvF C n0 mv (methT C.P t name) v vs d r e M Q
  | _ => False
def stK (st : List (Item × List Item × List Item)) (M : Mem) (Q : Env → Mem → Prop) (e : Env) : Prop := wpStages C n0 mv st e M Q
def stageK (rc fs : List Item) (st : List (Item × List Item × List Item)) (Q : Env → Mem → Prop) (e : Env) (M : Mem) : Prop := wpCheck C rc e M ∧ wpQuiet C fs e M (stK C n0 mv st M Q)
def chkGo (x : Option (V × Mem)) (u : V) : Prop :=
  match x with
  | some (v, _) => v = u
  | none => False
def chkG (g : V) (want : Bool) (x : Option (V × Mem)) (u : V) : Prop :=
  match g with
  | .bool b => if b = want then chkGo x u else u = .undef
  | _ => False
/-- behind a call -/
def callC (d : Option Nat) (r : List Item) (e : Env) (Q : Env → Mem → Prop) (mvc : List Nat) (v : V) (M' : Mem) : Prop := wpItems C n0 mv r ((e.erases mvc).putO d v) M' Q
def goV (fn : V) (vs : List V) (d : Option Nat) (r : List Item) (e : Env) (M : Mem) (Q : Env → Mem → Prop) : Prop :=
  match fn with
  | .fn f cap => callable C.P f = true ∧ callK C n0 mv f (vs ++ cap) M (callC C n0 mv d r e Q)
  | _ => False
end

section
variable {C : Ctx} {n0 : Nat} {mv : List Nat} {e : Env} {M : Mem} {Q : VX → Env → Mem → Prop} {Qi : Env → Mem → Prop} {Qq : Env → Prop} {ks : List Nat} {a b : VC} {d : Option Nat} {r : List Item}

theorem regK_eq : regK ks Q e M = Q .normal (e.keep ks) M := rfl
theorem quietK_eq : quietK ks M Q e = Q .normal (e.keep ks) M := rfl
theorem tailK_eq {tl} : tailK C n0 mv tl ks M Q e = wpItems C n0 mv tl e M (regK ks Q) := rfl
theorem seqV_normal : seqV C n0 mv b Q .normal e M = VWp C n0 mv b e M Q := rfl
theorem seqV_exit {id} : seqV C n0 mv b Q (.exit id) e M = Q (.exit id) e M := rfl
theorem seqV_ret : seqV C n0 mv b Q .ret e M = Q .ret e M := rfl
theorem blockK_normal {id} : blockK id Q .normal e M = Q .normal e M := rfl
theorem blockK_ret {id} : blockK id Q .ret e M = Q .ret e M := rfl
theorem blockK_same {id} : blockK id Q (.exit id) e M = Q .normal e M := by simp [blockK]
theorem VWp_skip : VWp C n0 mv .skip e M Q = Q .normal e M := rfl
theorem VWp_exit {id} : VWp C n0 mv (.exit id) e M Q = Q (.exit id) e M := rfl
theorem VWp_ret : VWp C n0 mv .ret e M Q = Q .ret e M := rfl
theorem VWp_reg {its} : VWp C n0 mv (.reg its ks) e M Q = wpItems C n0 mv its e M (regK ks Q) := rfl
theorem VWp_drq {its} : VWp C n0 mv (.drq its ks) e M Q = wpQuiet C its e M (quietK ks M Q) := rfl
theorem VWp_drt {hd tl} : VWp C n0 mv (.drt hd tl ks) e M Q = wpQuiet C hd e M (tailK C n0 mv tl ks M Q) := rfl
theorem VWp_seq : VWp C n0 mv (.seq a b) e M Q = VWp C n0 mv a e M (seqV C n0 mv b Q) := by
  simp only [VWp]
  congr 1
theorem VWp_cond {c} : VWp C n0 mv (.cond c a b) e M Q = condGo C n0 mv (c.ev e) a b e M Q := rfl
theorem VWp_block {id} : VWp C n0 mv (.block id a) e M Q = VWp C n0 mv a e M (blockK id Q) := rfl
theorem condGo_true : condGo C n0 mv (.bool true) a b e M Q = VWp C n0 mv a e M Q := by simp [condGo]
theorem condGo_false : condGo C n0 mv (.bool false) a b e M Q = VWp C n0 mv b e M Q := by simp [condGo]
theorem condGo_dec {p : Prop} [Decidable p] (h1 : p → VWp C n0 mv a e M Q) (h2 : ¬ p → VWp C n0 mv b e M Q) : condGo C n0 mv (.bool (decide p)) a b e M Q :=
  ⟨fun h => h1 (of_decide_eq_true h), fun h => h2 (of_decide_eq_false h)⟩

theorem wpItems_nil : wpItems C n0 mv [] e M Qi = Qi e M := rfl
theorem wpItems_op {vi} : wpItems C n0 mv (.op none d vi :: r) e M Qi = goOp C n0 mv (vop C e M vi) d r e Qi := rfl
theorem wpItems_opg {j want vi} : wpItems C n0 mv (.op (some (j, want)) d vi :: r) e M Qi = goG C n0 mv (e.get j) want vi d r e M Qi := rfl
theorem wpItems_call {f args} : wpItems C n0 mv (.call d f args :: r) e M Qi = callK C n0 mv f (vargs e args) M (callC C n0 mv d r e Qi) := rfl
theorem wpItems_callv {fn args} : wpItems C n0 mv (.callv d fn args :: r) e M Qi = goV C n0 mv (fn.ev e) (vargs e args) d r e M Qi := rfl
theorem goOp_some {v M'} : goOp C n0 mv (some (v, M')) d r e Qi = wpItems C n0 mv r (e.putO d v) M' Qi := rfl
theorem goG_bool {t want vi} : goG C n0 mv (.bool t) want vi d r e M Qi = if t = want then goOp C n0 mv (vop C e M vi) d r e Qi else wpItems C n0 mv r (e.putO d .undef) M Qi := rfl
theorem goV_fn {f cap vs} : goV C n0 mv (.fn f cap) vs d r e M Qi = (callable C.P f = true ∧ callK C n0 mv f (vs ++ cap) M (callC C n0 mv d r e Qi)) := rfl
theorem wpQuiet_nil : wpQuiet C [] e M Qq = Qq e := rfl
theorem wpQuiet_op {vi} : wpQuiet C (.op none d vi :: r) e M Qq = goQ C (vop C e M vi) d r e M Qq := rfl
theorem wpQuiet_opg {j want vi} : wpQuiet C (.op (some (j, want)) d vi :: r) e M Qq = goGQ C (e.get j) want vi d r e M Qq := rfl
theorem goQ_some {v M'} : goQ C (some (v, M')) d r e M Qq = wpQuiet C r (e.putO d v) M Qq := rfl
theorem goGQ_bool {t want vi} : goGQ C (.bool t) want vi d r e M Qq = if t = want then goQ C (vop C e M vi) d r e M Qq else wpQuiet C r (e.putO d .undef) M Qq := rfl
theorem wpItems_callg {j want f args} : wpItems C n0 mv (.callg j want d f args :: r) e M Qi = goCG C n0 mv (e.get j) want f (vargs e args) d r e M Qi := rfl
theorem goCG_bool {t want f vs} : goCG C n0 mv (.bool t) want f vs d r e M Qi = if t = want then callK C n0 mv f vs M (callC C n0 mv d r e Qi) else wpItems C n0 mv r (e.putO d .undef) M Qi := rfl
theorem wpItems_inv {x name args} : wpItems C n0 mv (.inv d x name args :: r) e M Qi = goInv C n0 mv (x.ev e) name (vargs e args) d r e M Qi := rfl
theorem goInv_iface {t v name vs} : goInv C n0 mv (.iface t v) name vs d r e M Qi = goInvF C n0 mv (methT C.P t name) v vs d r e M Qi := rfl
theorem goInvF_some {f v vs} : goInvF C n0 mv (some f) v vs d r e M Qi = (callable C.P f = true ∧ v.known = true ∧ callK C n0 mv f (v :: vs) M (callC C n0 mv d r e Qi)) := rfl
theorem wpItems_app {k T x y} : wpItems C n0 mv (.app d k T x y :: r) e M Qi = appK n0 mv k T M (x.ev e) (y.ev e) (callC C n0 mv d r e Qi) := rfl
theorem app_of {k T b n} {xs ys : List Int} {y : V} {K : List Nat → V → Mem → Prop} (hM : M[b]? = some (.vec k xs T)) (hn : xs.length = n) (hb : n0 ≤ b ∨ b ∈ mv) (hy : elems M k y = some ys) (hl : xs.length + ys.length ≤ 16777216)
    (h : K [b] (.vec b (n + ys.length)) ((M.erase b).set b (.vec k (xs ++ ys) T))) : appK n0 mv k T M (.vec b n) y K := by
  simp only [appK, hM, hy]
  exact ⟨trivial, trivial, hn, hb, hl, h⟩
theorem VWp_drw {fs st} : VWp C n0 mv (.drw fs st ks) e M Q = wpQuiet C fs e M (stK C n0 mv st M (regK ks Q)) := rfl
theorem stK_eq {st} : stK C n0 mv st M Qi e = wpStages C n0 mv st e M Qi := rfl
theorem wpStages_nil : wpStages C n0 mv [] e M Qi = Qi e M := rfl
theorem wpStages_cons {E rc fs st} : wpStages C n0 mv ((E, rc, fs) :: st) e M Qi = wpItems C n0 mv [E] e M (stageK C n0 mv rc fs st Qi) := rfl
theorem stageK_eq {rc fs st} : stageK C n0 mv rc fs st Qi e M = (wpCheck C rc e M ∧ wpQuiet C fs e M (stK C n0 mv st M Qi)) := rfl
theorem wpCheck_nil : wpCheck C [] e M = True := rfl
theorem wpCheck_op {d vi} : wpCheck C (.op none (some d) vi :: r) e M = (chkGo (vop C e M vi) (e.get d) ∧ wpCheck C r e M) := rfl
theorem wpCheck_opg {j want d vi} : wpCheck C (.op (some (j, want)) (some d) vi :: r) e M = (chkG (e.get j) want (vop C e M vi) (e.get d) ∧ wpCheck C r e M) := rfl
theorem chkGo_some {v u : V} {M'} : chkGo (some (v, M')) u = (v = u) := rfl
theorem chkG_bool {t want x} {u : V} : chkG (.bool t) want x u = if t = want then chkGo x u else u = .undef := rfl

theorem get_nil {j} : Env.get [] j = .undef := rfl
theorem get_cons {k v j} {r : Env} : Env.get ((k, v) :: r) j = if k = j then v else Env.get r j := rfl
theorem putO_some {k v} : Env.putO e (some k) v = (k, v) :: e := rfl
theorem putO_none {v} : Env.putO e none v = e := rfl
theorem keep_nil : Env.keep e [] = [] := rfl
theorem keep_cons {k} {ks : List Nat} : Env.keep e (k :: ks) = (k, e.get k) :: e.keep ks := rfl
theorem ev_t {k} : (X.t k).ev e = e.get k := rfl
theorem ev_c {v} : (X.c v).ev e = v := rfl
theorem ofArgs_nil {k} : Env.ofArgs k [] = [] := rfl
theorem ofArgs_cons {k v vs} : Env.ofArgs k (v :: vs) = (k, v) :: Env.ofArgs (k + 1) vs := rfl
theorem vargs_nil : vargs e [] = [] := rfl
theorem vargs_cons {x} {xs : List X} : vargs e (x :: xs) = x.ev e :: vargs e xs := rfl
theorem erases_nil : Env.erases e [] = e := rfl

/-- behind a round -/
def roundK (n0 : Nat) (F : Env → Mem → (VX → Env → Mem → Prop) → Prop) (k : Nat) (Q : VX → Env → Mem → Prop) : VX → Env → Mem → Prop
  | .normal, e, M => VRounds n0 F k e M Q
  | x, e, M => Q x e M
theorem roundK_normal {F k} : roundK n0 F k Q .normal e M = VRounds n0 F k e M Q := rfl
theorem roundK_exit {F k id} : roundK n0 F k Q (.exit id) e M = Q (.exit id) e M := rfl
theorem roundK_ret {F k} : roundK n0 F k Q .ret e M = Q .ret e M := rfl
theorem round {F} {k : Nat} (h : F e M (roundK n0 F k Q)) : VRounds n0 F (k + 1) e M Q := by
  refine ⟨e, M, .refl e M, ?_⟩
  have : (roundK n0 F k Q) = (fun x e M => match x with
    | .normal => VRounds n0 F k e M Q
    | x => Q x e M) := by funext x e M; cases x <;> rfl
  rw [this] at h
  exact h
theorem VWp_loop_of {k : Nat} (h : VRounds n0 (VWp C n0 mv a) k e M Q) : VWp C n0 mv (.loop a) e M Q := ⟨k, h⟩

/-- the end of a function -/
def retGo (n0 : Nat) (x : Option V) (M : Mem) (R : V → Mem → Prop) : Prop :=
  match x with
  | some v => ∃ v' M', Fin n0 v M v' M' ∧ R v' M'
  | none => False
theorem fnPost_ret {rs R} : fnPost n0 rs R .ret e M = retGo n0 (vres e M rs) M R := rfl
theorem fnPost_normal {rs R} : fnPost n0 rs R .normal e M = retGo n0 (vres e M rs) M R := rfl
theorem vres_one {x} : vres e M [x] = vres1 e M x := rfl
theorem retGo_refl {v R} (h : R v M) : retGo n0 (some v) M R := ⟨v, M, .refl, h⟩
theorem retGo_take {v R} (k : Nat) (hk : n0 ≤ k) (hkM : k ≤ M.length) (hv : clB k v.refs = true) (hM : memCl k (M.take k) = true) (h : R v (M.take k)) : retGo n0 (some v) M R :=
  ⟨v, _, Fin.take k hk hkM hv hM, h⟩
theorem condGo_not {t : Bool} : condGo C n0 mv (.bool (!t)) a b e M Q = condGo C n0 mv (.bool t) b a e M Q := by
  cases t <;> simp [condGo]

/-- a call by its contract -/
theorem callK_of {f : Nat} {vs : List V} {R : V → Mem → Prop} {K : List Nat → V → Mem → Prop} (mvc : List Nat) (hk : allKnown vs = true) (hm : ∀ b ∈ mvc, n0 ≤ b ∨ b ∈ mv) (h : VCalls C f vs M mvc R)
    (hK : ∀ v M', R v M' → K mvc v M') : callK C n0 mv f vs M K := ⟨hk, mvc, hm, h.mono hK⟩
end
end Go.VM
end

section
namespace Go.VM
open Go

/-! Whole numbers. -/
theorem wrap_i64_id {x : Int} (h1 : -9223372036854775808 ≤ x) (h2 : x ≤ 9223372036854775807) : IntKind.i64.wrap x = x := by
  simp [IntKind.wrap, IntKind.bits, IntKind.signed]
  split <;> omega
theorem wrap_i32_id {x : Int} (h1 : -2147483648 ≤ x) (h2 : x ≤ 2147483647) : IntKind.i32.wrap x = x := by
  simp [IntKind.wrap, IntKind.bits, IntKind.signed]
  split <;> omega
theorem wrap_u32_id {x : Int} (h1 : 0 ≤ x) (h2 : x ≤ 4294967295) : IntKind.u32.wrap x = x := by
  simp only [IntKind.wrap, IntKind.bits, IntKind.signed, Bool.false_and, Bool.false_eq_true, if_false]
  omega
theorem wrap_u8_id {x : Int} (h1 : 0 ≤ x) (h2 : x ≤ 255) : IntKind.u8.wrap x = x := by
  simp only [IntKind.wrap, IntKind.bits, IntKind.signed, Bool.false_and, Bool.false_eq_true, if_false]
  omega
theorem wrap_u32_range (x : Int) : 0 ≤ IntKind.u32.wrap x ∧ IntKind.u32.wrap x ≤ 4294967295 := by
  simp only [IntKind.wrap, IntKind.bits, IntKind.signed, Bool.false_and, Bool.false_eq_true, if_false]
  omega
theorem wrap_u8_range (x : Int) : 0 ≤ IntKind.u8.wrap x ∧ IntKind.u8.wrap x ≤ 255 := by
  simp only [IntKind.wrap, IntKind.bits, IntKind.signed, Bool.false_and, Bool.false_eq_true, if_false]
  omega
theorem bits_u32_range (op : BinOp) (x y : Int) : 0 ≤ bits op .u32 x y ∧ bits op .u32 x y ≤ 4294967295 := wrap_u32_range _

end Go.VM
end

section
namespace Go.VM
open Go

/-! One operation, step by step: rules that fit where the shape is known. -/
def cellB : Option Blk → Nat → Option V
  | some (.own cs _), o => cs[o]?
  | some (.ints k xs _), o => intO k xs[o]?
  | some (.vec k xs _), o => intO k xs[o]?
  | none, _ => none
where intO (k : IntKind) : Option Int → Option V
  | some n => some (.int k n)
  | none => none

section
variable {C : Ctx} {M : Mem} {e : Env} {b o n sz : Nat} {k k' : IntKind} {i m : Int} {v : V} {cs : List V} {xs : List Int} {T : Nat}

theorem vld_ptr : vld C M (.ptr b o) = cellB M[b]? o := by
  simp only [vld, Mem.cell]
  cases h : M[b]? with
  | none => rfl
  | some B =>
    cases B with
    | own cs T => rfl
    | ints k xs T => simp only [cellB]; cases xs[o]? <;> rfl
    | vec k xs T => simp only [cellB]; cases xs[o]? <;> rfl
theorem vld_raw {a : Addr} {u : Value} (h : C.ext a = some u) : vld C M (.raw (.pointer (some a))) = some (V.ofVal u) := by simp [vld, h]
theorem cellB_own : cellB (some (.own cs T)) o = cs[o]? := rfl
theorem cellB_ints (h : xs[o]? = some m) : cellB (some (.ints k xs T)) o = some (.int k m) := by simp [cellB, h, cellB.intO]
theorem cellB_vec (h : xs[o]? = some m) : cellB (some (.vec k xs T)) o = some (.int k m) := by simp [cellB, h, cellB.intO]

def lenB : Option Blk → Nat → Option V
  | some (.vec _ xs _), n => if xs.length = n then some (.int .i64 n) else none
  | _, _ => none
theorem vlen_slice {c} : vlen M (.slice b o n c) = some (.int .i64 n) := rfl
theorem vlen_nils : vlen M .nils = some (.int .i64 0) := rfl
theorem vlen_vec : vlen M (.vec b n) = lenB M[b]? n := by
  simp only [vlen]
  split <;> rename_i h
  · rw [h]; rfl
  · cases hb : M[b]? with
    | none => rfl
    | some B => cases B <;> first | rfl | exact absurd hb (h _ _ _)
theorem lenB_vec (h : xs.length = n) : lenB (some (.vec k xs T)) n = some (.int .i64 n) := by simp [lenB, h]

theorem vidxA_ptr (h1 : 0 ≤ i) (h2 : i < n) : vidxA n sz (.ptr b o) (.int k i) = some (.ptr b (o + i.toNat * sz)) := by simp [vidxA, h1, h2]
theorem vidxA_raw {a : Addr} (h1 : 0 ≤ i) (h2 : i < n) : vidxA n sz (.raw (.pointer (some a))) (.int k i) = some (.raw (.pointer (some (a.add (i.toNat * sz))))) := by simp [vidxA, h1, h2]
theorem vidxS_slice {c} (h1 : 0 ≤ i) (h2 : i < n) : vidxS M sz (.slice b o n c) (.int k i) = some (.ptr b (o + i.toNat * sz)) := by simp [vidxS, h1, h2]
theorem vidxS_vec (h : M[b]? = some (.vec k' xs T)) (hl : xs.length = n) (h1 : 0 ≤ i) (h2 : i < n) : vidxS M sz (.vec b n) (.int k i) = some (.ptr b (i.toNat * sz)) := by simp [vidxS, h, hl, h1, h2]
theorem vidxV_ints (h1 : 0 ≤ i) (h2 : i < n) (h : xs[i.toNat]? = some m) : vidxV false n 1 (.ints k xs) (.int k' i) = some (.int k m) := by simp [vidxV, h1, h2, vpart, h]

theorem vbin_add {a b : Int} : vbin .add (.int k a) (.int k b) = some (.int k (k.wrap (a + b))) := by simp [vbin]
theorem vbin_sub {a b : Int} : vbin .sub (.int k a) (.int k b) = some (.int k (k.wrap (a - b))) := by simp [vbin]
theorem vbin_mul {a b : Int} : vbin .mul (.int k a) (.int k b) = some (.int k (k.wrap (a * b))) := by simp [vbin]
theorem vbin_quo {a b : Int} (h : b ≠ 0) : vbin .quo (.int k a) (.int k b) = some (.int k (k.wrap (a.tdiv b))) := by simp [vbin, h]
theorem vbin_rem {a b : Int} (h : b ≠ 0) : vbin .rem (.int k a) (.int k b) = some (.int k (a.tmod b)) := by simp [vbin, h]
theorem vbin_and {a b : Int} : vbin .and (.int k a) (.int k b) = some (.int k (bits .and k a b)) := by simp [vbin]
theorem vbin_or {a b : Int} : vbin .or (.int k a) (.int k b) = some (.int k (bits .or k a b)) := by simp [vbin]
theorem vbin_xor {a b : Int} : vbin .xor (.int k a) (.int k b) = some (.int k (bits .xor k a b)) := by simp [vbin]
theorem vbin_eql {a b : Int} : vbin .eql (.int k a) (.int k b) = some (.bool (decide (a = b))) := by simp [vbin]; rfl
theorem vbin_neq {a b : Int} : vbin .neq (.int k a) (.int k b) = some (.bool (!decide (a = b))) := by simp [vbin]; rfl
theorem vbin_lss {a b : Int} : vbin .lss (.int k a) (.int k b) = some (.bool (decide (a < b))) := by simp [vbin]
theorem vbin_leq {a b : Int} : vbin .leq (.int k a) (.int k b) = some (.bool (decide (a ≤ b))) := by simp [vbin]
theorem vbin_gtr {a b : Int} : vbin .gtr (.int k a) (.int k b) = some (.bool (decide (b < a))) := by simp [vbin]
theorem vbin_geq {a b : Int} : vbin .geq (.int k a) (.int k b) = some (.bool (decide (b ≤ a))) := by simp [vbin]
theorem vbin_shl {a b : Int} (h : 0 ≤ b) : vbin .shl (.int k a) (.int k' b) = some (.int k (k.wrap (a * 2 ^ (min b.toNat k.bits)))) := by
  have : ¬ b < 0 := by omega
  simp [vbin, this]
theorem vbin_shr {a b : Int} (h : 0 ≤ b) : vbin .shr (.int k a) (.int k' b) = some (.int k (a.fdiv (2 ^ (min b.toNat k.bits)))) := by
  have : ¬ b < 0 := by omega
  simp [vbin, this]
theorem vbin_shr_lit {a b : Int} (h : 0 ≤ b) (h1 : b.toNat ≤ k.bits) : vbin .shr (.int k a) (.int k' b) = some (.int k (a / 2 ^ b.toNat)) := by
  have h0 : ¬ b < 0 := by omega
  simp only [vbin, h0, if_false, Nat.min_eq_left h1]
  rw [Int.fdiv_eq_ediv_of_nonneg _ (Int.le_of_lt (Int.pow_pos (by decide)))]
theorem vbin_shl_lit {a b : Int} (h : 0 ≤ b) (h1 : b.toNat ≤ k.bits) : vbin .shl (.int k a) (.int k' b) = some (.int k (k.wrap (a * 2 ^ b.toNat))) := by
  have h0 : ¬ b < 0 := by omega
  simp only [vbin, h0, if_false, Nat.min_eq_left h1]
theorem vun_neg {a : Int} : vun .neg (.int k a) = some (.int k (k.wrap (0 - a))) := rfl
theorem vun_not {t : Bool} : vun .not (.bool t) = some (.bool (!t)) := rfl

theorem vop_mov {x} : vop C e M (.mov x) = some (x.ev e, M) := rfl
def pickGo : V → V → V → Mem → Option (V × Mem)
  | .bool t, a, b, M => some (if t then a else b, M)
  | _, _, _, _ => none
theorem vop_pick {c a b} : vop C e M (.pick c a b) = pickGo (c.ev e) (a.ev e) (b.ev e) M := by simp only [vop]; cases c.ev e <;> rfl
theorem pickGo_bool {t : Bool} {a b : V} : pickGo (.bool t) a b M = some (if t then a else b, M) := rfl
def nilGo : V → Mem → Option (V × Mem)
  | .ptr b o, M => some (.ptr b o, M)
  | .raw (.pointer (some a)), M => some (.raw (.pointer (some a)), M)
  | .fn f cap, M => some (.fn f cap, M)
  | _, _ => none
theorem vop_nilck {x} : vop C e M (.nilck x) = nilGo (x.ev e) M := by simp only [vop]; split <;> simp_all [nilGo]
theorem nilGo_ptr : nilGo (.ptr b o) M = some (.ptr b o, M) := rfl
theorem nilGo_raw {a} : nilGo (.raw (.pointer (some a))) M = some (.raw (.pointer (some a)), M) := rfl
theorem nilGo_fn {f cap} : nilGo (.fn f cap) M = some (.fn f cap, M) := rfl
/-- the value alone -/
def valGo (M : Mem) : Option V → Option (V × Mem)
  | some v => some (v, M)
  | none => none
theorem valGo_some : valGo M (some v) = some (v, M) := rfl
theorem vop_bin {op x y} : vop C e M (.bin op x y) = valGo M (vbin op (x.ev e) (y.ev e)) := by simp only [vop]; cases vbin op (x.ev e) (y.ev e) <;> rfl
theorem vop_un {op x} : vop C e M (.un op x) = valGo M (vun op (x.ev e)) := by simp only [vop]; cases vun op (x.ev e) <;> rfl
def vconv (k : IntKind) : V → Option V
  | .int _ n => some (.int k (k.wrap n))
  | _ => none
theorem vop_conv {x} : vop C e M (.conv k x) = valGo M (vconv k (x.ev e)) := by simp only [vop]; cases x.ev e <;> rfl
theorem vconv_int : vconv k (.int k' i) = some (.int k (k.wrap i)) := rfl
def vfld (off : Nat) : V → Option V
  | .ptr b o => some (.ptr b (o + off))
  | .raw (.pointer (some a)) => some (.raw (.pointer (some (a.add off))))
  | _ => none
theorem vop_fld {off x} : vop C e M (.fld off x) = valGo M (vfld off (x.ev e)) := by
  simp only [vop]
  cases x.ev e with
  | raw v => cases v with
    | pointer a => cases a <;> rfl
    | _ => rfl
  | _ => rfl
theorem vfld_raw {off : Nat} {a : Addr} : vfld off (.raw (.pointer (some a))) = some (.raw (.pointer (some (a.add off)))) := rfl
theorem vfld_ptr {off} : vfld off (.ptr b o) = some (.ptr b (o + off)) := rfl
theorem vop_idxA {x j} : vop C e M (.idxA n sz x j) = valGo M (vidxA n sz (x.ev e) (j.ev e)) := by simp only [vop]; cases vidxA n sz (x.ev e) (j.ev e) <;> rfl
theorem vop_idxS {x j} : vop C e M (.idxS sz x j) = valGo M (vidxS M sz (x.ev e) (j.ev e)) := by simp only [vop]; cases vidxS M sz (x.ev e) (j.ev e) <;> rfl
theorem vop_ld {x} : vop C e M (.ld x) = valGo M (vld C M (x.ev e)) := by simp only [vop]; cases vld C M (x.ev e) <;> rfl
def vldA (M : Mem) (n : Nat) : V → Option V
  | .ptr b o => M.range b o n
  | _ => none
theorem vop_ldA {x} : vop C e M (.ldA n x) = valGo M (vldA M n (x.ev e)) := by
  simp only [vop]
  cases x.ev e <;> simp only [vldA, valGo]
  rename_i b o
  cases M.range b o n <;> rfl
theorem vldA_ptr : vldA M n (.ptr b o) = M.range b o n := rfl
theorem range_ints (h : M[b]? = some (.ints k xs T)) (hn : n = xs.length) : M.range b 0 n = some (.ints k xs) := by simp [Mem.range, h, hn]
def stGo (M : Mem) (n : Nat) (v : V) : V → Option (V × Mem)
  | .ptr b o => match M.put b o n v with
    | some M' => some (.undef, M')
    | none => none
  | _ => none
theorem vop_st {x y} : vop C e M (.st n x y) = stGo M n (y.ev e) (x.ev e) := by simp only [vop]; cases x.ev e <;> rfl
theorem stGo_all {ys : List Int} (h : M[b]? = some (.ints k xs T)) (hn : n = ys.length) (hl : ys.length = xs.length) : stGo M n (.ints k ys) (.ptr b 0) = some (.undef, M.set b (.ints k ys T)) := by
  simp only [stGo, Mem.put, h]
  rw [if_pos ⟨trivial, hn, by omega⟩, if_pos ⟨trivial, by omega⟩]
theorem vop_alloc {B} : vop C e M (.alloc B) = some (.ptr M.length 0, M ++ [B]) := rfl
def boxGo (M : Mem) : Option Blk → Option (V × Mem)
  | some b => some (.ptr M.length 0, M ++ [b])
  | none => none
theorem vop_box {x} : vop C e M (.box T x) = boxGo M (vbox T (x.ev e)) := by simp only [vop]; cases vbox T (x.ev e) <;> rfl
theorem boxGo_some {B} : boxGo M (some B) = some (.ptr M.length 0, M ++ [B]) := rfl
theorem vbox_ints : vbox T (.ints k xs) = some (.ints k xs T) := rfl
theorem vbox_int : vbox T (.int k i) = some (.own [.int k i] T) := rfl
theorem vbox_bool {t} : vbox T (.bool t) = some (.own [.bool t] T) := rfl
theorem vbox_ptr : vbox T (.ptr b o) = some (.own [.ptr b o] T) := rfl
def tupGo (i : Nat) : V → Option V
  | .tup vs => match vs[i]? with
    | some v => if v.known then some v else none
    | none => none
  | _ => none
theorem vop_tupx {x j} : vop C e M (.tupx x j) = valGo M (tupGo j (x.ev e)) := by
  simp only [vop]
  cases x.ev e <;> simp only [tupGo, valGo]
  rename_i vs
  cases vs[j]? with
  | none => rfl
  | some u => simp only; cases u.known <;> rfl
theorem tupGo_tup {vs : List V} {j : Nat} (h : vs[j]? = some v) (hk : v.known = true) : tupGo j (.tup vs) = some v := by simp [tupGo, h, hk]
def knownGo : Option V → Option V
  | some v => if v.known then some v else none
  | none => none
theorem knownGo_int : knownGo (some (.int k i)) = some (.int k i) := rfl
theorem vop_idxV {g x j} : vop C e M (.idxV g n sz x j) = valGo M (knownGo (vidxV g n sz (x.ev e) (j.ev e))) := by
  simp only [vop]
  cases vidxV g n sz (x.ev e) (j.ev e) with
  | none => rfl
  | some u => simp only [knownGo]; cases u.known <;> rfl
theorem vop_part {g off x} : vop C e M (.part g off n x) = valGo M (knownGo (vpart g off n (x.ev e))) := by
  simp only [vop]
  cases vpart g off n (x.ev e) with
  | none => rfl
  | some u => simp only [knownGo]; cases u.known <;> rfl
theorem vop_build {z ps} : vop C e M (.build z ps) = valGo M (vfill (ps.map fun (o, n, x) => (o, n, x.ev e)) z) := by
  simp only [vop]
  cases vfill (ps.map fun (o, n, x) => (o, n, x.ev e)) z <;> rfl
theorem vfill_nil {z} : vfill [] z = some z := rfl
theorem vop_mkfn {f cap} (h : ((cap.map (X.ev e)).all V.known) = true) : vop C e M (.mkfn f cap) = some (.fn f (cap.map (X.ev e)), M) := by simp [vop, h]
theorem vop_len {x} : vop C e M (.len x) = valGo M (vlen M (x.ev e)) := by simp only [vop]; cases vlen M (x.ev e) <;> rfl

theorem vres1_tmp {t} : vres1 e M (.tmp t) = knownGo (some (e.get t)) := rfl
def cellsGo (M : Mem) (n : Nat) : V → Option V
  | .ptr b o => M.range b o n
  | _ => none
theorem vres1_cells {t} : vres1 e M (.cells t n) = cellsGo M n (e.get t) := by simp only [vres1]; cases e.get t <;> rfl
theorem cellsGo_ptr : cellsGo M n (.ptr b o) = M.range b o n := rfl
theorem knownGo_bool {t} : knownGo (some (.bool t)) = some (.bool t) := rfl
theorem knownGo_ints : knownGo (some (.ints k xs)) = some (.ints k xs) := rfl

theorem vop_slc {x : X} {lo hi mx : Option X} : vop C e M (.slc n sz x lo hi mx) = valGo M (vslice n sz (lo.map (X.ev e)) (hi.map (X.ev e)) (mx.map (X.ev e)) (x.ev e)) := by
  simp only [vop]; cases vslice n sz (lo.map (X.ev e)) (hi.map (X.ev e)) (mx.map (X.ev e)) (x.ev e) <;> rfl
theorem vop_slcS {x : X} {lo hi mx : Option X} : vop C e M (.slcS sz x lo hi mx) = valGo M (vsliceS sz (lo.map (X.ev e)) (hi.map (X.ev e)) (mx.map (X.ev e)) (x.ev e)) := by
  simp only [vop]; cases vsliceS sz (lo.map (X.ev e)) (hi.map (X.ev e)) (mx.map (X.ev e)) (x.ev e) <;> rfl
theorem vop_mm {q x y} : vop C e M (.mm q x y) = valGo M (vmm q (x.ev e) (y.ev e)) := by simp only [vop]; cases vmm q (x.ev e) (y.ev e) <;> rfl
theorem vmm_min {a b : Int} : vmm true (.int k a) (.int k b) = some (.int k (if b < a then b else a)) := by simp [vmm]
theorem vmm_max {a b : Int} : vmm false (.int k a) (.int k b) = some (.int k (if a < b then b else a)) := by simp [vmm]
def boolGo (M : Mem) (neg : Bool) : Option Bool → Option (V × Mem)
  | some b => some (.bool (b != neg), M)
  | none => none
theorem vop_isnil {p q x} : vop C e M (.isnil p q x) = boolGo M q (visnil p (x.ev e)) := by simp only [vop]; cases visnil p (x.ev e) <;> rfl
theorem vop_isnils {q x} : vop C e M (.isnils q x) = boolGo M q (visnils M (x.ev e)) := by simp only [vop]; cases visnils M (x.ev e) <;> rfl
theorem visnils_vec' {n} {k : IntKind} {xs : List Int} {T} (h : M[b]? = some (.vec k xs T)) (hx : 0 < xs.length) : visnils M (.vec b n) = some false := by simp [visnils, h, hx]
theorem visnils_slice {o n c} : visnils M (.slice b o n c) = some false := rfl
theorem visnils_nils : visnils M .nils = some true := rfl
theorem visnil_nili : visnil false .nili = some true := rfl
theorem visnil_nilp : visnil true .nilp = some true := rfl
theorem visnil_iface {t v} : visnil false (.iface t v) = some false := rfl
theorem visnil_ptr : visnil true (.ptr b o) = some false := rfl
theorem boolGo_some {neg t} : boolGo M neg (some t) = some (.bool (t != neg), M) := rfl
theorem vop_idxStr {x j} : vop C e M (.idxStr x j) = valGo M (vidxStr (x.ev e) (j.ev e)) := by simp only [vop]; cases vidxStr (x.ev e) (j.ev e) <;> rfl
def mkifGo (M : Mem) (t : Nat) (v : V) : Option (V × Mem) := if v.known then some (.iface t v, M) else none
theorem vop_mkif {t x} : vop C e M (.mkif t x) = mkifGo M t (x.ev e) := rfl
theorem mkifGo_ptr {t} : mkifGo M t (.ptr b o) = some (.iface t (.ptr b o), M) := rfl
theorem vop_tas {t z x} : vop C e M (.tas t z x) = valGo M (vtas t z (x.ev e)) := by simp only [vop]; cases vtas t z (x.ev e) <;> rfl
theorem vtas_nili {t z} : vtas t z .nili = some (.tup [z, .bool false]) := rfl
theorem vtas_same {t z v} : vtas t z (.iface t v) = some (.tup [v, .bool true]) := by simp [vtas]
theorem vtas_other {t t' z v} (h : (t' = t) = False) : vtas t z (.iface t' v) = some (.tup [z, .bool false]) := by simp [vtas, h]
def strGo (M : Mem) : Option (List Int) → Option (V × Mem)
  | some xs => some (.str (ofBytes xs), M)
  | none => none
theorem vop_b2s {x} : vop C e M (.b2s x) = strGo M (elems M .u8 (x.ev e)) := by simp only [vop]; cases elems M .u8 (x.ev e) <;> rfl
theorem strGo_some : strGo M (some xs) = some (.str (ofBytes xs), M) := rfl
theorem vop_bsl {n z ps} : vop C e M (.bsl T n z ps) = bslGo M T n (vfill (ps.map fun (o, n, x) => (o, n, x.ev e)) z) := rfl
theorem bslGo_ints (h : xs.length = n) (h2 : n ≤ 16777216) : bslGo M T n (some (.ints k xs)) = some (.vec M.length n, M ++ [.vec k xs T]) := by simp [bslGo, h, h2]
theorem elems_nils : elems M k .nils = some [] := rfl
theorem elems_vec (h : M[b]? = some (.vec k xs T)) (hl : xs.length = n) : elems M k (.vec b n) = some xs := by simp [elems, h, hl]
end
end Go.VM
end

section
namespace Go.VM
open Go

/-! A call whose contract speaks of some of the blocks alone. -/
def fpσ (fp : List Nat) (m : Nat) (i : Nat) : Nat := if i < fp.length then fp.getD i 0 else m + (i - fp.length)

def setAll : Mem → List Nat → List Blk → Mem
  | M, i :: is, b :: bs => setAll (M.set i b) is bs
  | M, _, _ => M

def merge (M : Mem) (fp : List Nat) (M' : Mem) : Mem :=
  setAll M fp (M'.map (Blk.ren (fpσ fp M.length))) ++ (M'.drop fp.length).map (Blk.ren (fpσ fp M.length))

theorem setAll_length : ∀ (is : List Nat) (bs : List Blk) (M : Mem), (setAll M is bs).length = M.length
  | [], _, M => by simp [setAll]
  | _ :: _, [], M => rfl
  | i :: is, b :: bs, M => by simp [setAll, setAll_length is bs]

theorem setAll_other : ∀ (is : List Nat) (bs : List Blk) (M : Mem) (k : Nat), k ∉ is → (setAll M is bs)[k]? = M[k]?
  | [], _, M, k, _ => by simp [setAll]
  | _ :: _, [], M, k, _ => rfl
  | i :: is, b :: bs, M, k, h => by
    simp only [List.mem_cons, not_or] at h
    simp only [setAll]
    rw [setAll_other is bs _ k h.2, List.getElem?_set_ne (Ne.symm h.1)]

theorem setAll_at : ∀ (is : List Nat) (bs : List Blk) (M : Mem) (j : Nat) (i : Nat) (b : Blk), is.Nodup → (∀ i ∈ is, i < M.length) → is[j]? = some i → bs[j]? = some b → (setAll M is bs)[i]? = some b
  | [], _, M, j, i, b, _, _, h, _ => by simp at h
  | _ :: _, [], M, j, i, b, _, _, _, h => by simp at h
  | i :: is, b :: bs, M, 0, i', b', hn, hl, h, h' => by
    simp only [List.getElem?_cons_zero, Option.some.injEq] at h h'
    subst h; subst h'
    rw [List.nodup_cons] at hn
    simp only [setAll]
    rw [setAll_other is bs _ i hn.1, List.getElem?_set_self (hl i (by simp))]
  | i :: is, b :: bs, M, j + 1, i', b', hn, hl, h, h' => by
    rw [List.nodup_cons] at hn
    simp only [setAll]
    exact setAll_at is bs _ j i' b' hn.2 (fun k hk => by simpa using hl k (by simp [hk])) (by simpa using h) (by simpa using h')

section
variable {C : Ctx}

theorem fpσ_in {fp : List Nat} {m j : Nat} (h : j < fp.length) : fp[j]? = some (fpσ fp m j) := by
  simp [fpσ, h]
theorem fpσ_out {fp : List Nat} {m j : Nat} (h : ¬ j < fp.length) : fpσ fp m j = m + (j - fp.length) := by simp [fpσ, h]

theorem fpσ_inj {fp : List Nat} {m : Nat} (hnd : fp.Nodup) (hlt : ∀ i ∈ fp, i < m) {i j : Nat} (h : fpσ fp m i = fpσ fp m j) : i = j := by
  by_cases hi : i < fp.length
  · have h1 := fpσ_in (m := m) hi
    have hmi := hlt _ (List.mem_of_getElem? h1)
    by_cases hj : j < fp.length
    · have h2 := fpσ_in (m := m) hj
      rw [← h] at h2
      exact (List.getElem?_inj hi hnd).1 (h1.trans h2.symm)
    · rw [fpσ_out hj] at h; omega
  · by_cases hj : j < fp.length
    · have h2 := fpσ_in (m := m) hj
      have hmj := hlt _ (List.mem_of_getElem? h2)
      rw [fpσ_out hi] at h; omega
    · rw [fpσ_out hi, fpσ_out hj] at h; omega

theorem holds_ren {ρ ρ' : Nat → Nat} {κ κ' : Nat → Option Nat} {σ : Nat → Nat} {j : Nat} {w : World} {B : Blk} (h : B.holds ρ κ j w) (hρ : ∀ i, ρ' (σ i) = ρ i) (hκ : ∀ i, κ' (σ i) = κ i) : (B.ren σ).holds ρ' κ' (σ j) w := by
  have e1 : (fun i => ρ' (σ i)) = ρ := funext hρ
  have e2 : (fun i => κ' (σ i)) = κ := funext hκ
  cases B with
  | own cs T =>
    obtain ⟨cells, hc, hs, hg⟩ := h
    refine ⟨cells, by rw [hρ]; exact hc, by simpa [V.renL_map] using hs, fun i v hi hu => ?_⟩
    simp only [V.renL_map, List.getElem?_map] at hi
    cases hq : cs[i]? with
    | none => rw [hq] at hi; cases hi
    | some u =>
      rw [hq] at hi
      cases hi
      rw [V.real_ren, e1, e2]
      exact hg i u hq (by rintro rfl; exact hu rfl)
  | ints k xs T => simp only [Blk.holds, Blk.ren] at h ⊢; rw [hρ]; exact h
  | vec k xs T => simp only [Blk.holds, Blk.ren] at h ⊢; rw [hρ, hκ]; exact h

theorem refs_blk_ren (σ : Nat → Nat) (B : Blk) : (B.ren σ).refs = B.refs.map σ := by
  cases B with
  | own cs T => exact V.refsL_ren cs
  | _ => rfl

theorem live_ren (σ : Nat → Nat) (B : Blk) (c) : (B.ren σ).live c ↔ B.live c := by cases B <;> exact Iff.rfl

theorem VCalls.frame {f : Nat} {vs0 : List V} {M0 : Mem} {mv0 : List Nat} {R0 : V → Mem → Prop} (h : VCalls C f vs0 M0 mv0 R0) (fp : List Nat) (M : Mem) (vs : List V) (R : V → Mem → Prop)
    (hlen : fp.length = M0.length) (hnd : fp.Nodup) (hlt : ∀ i ∈ fp, i < M.length)
    (hM : ∀ (j : Nat) (b : Blk), M0[j]? = some b → M[fpσ fp M.length j]? = some (b.ren (fpσ fp M.length))) (hvs : vs = V.renL (fpσ fp M.length) vs0)
    (hcM : ∀ (j : Nat) (b : Blk), M0[j]? = some b → ∀ r ∈ b.refs, r < M0.length) (hcv : V.clL M0.length vs0)
    (hout : ∀ (i : Nat) (b : Blk), i ∉ fp → M[i]? = some b → ∀ r ∈ b.refs, r ∉ mv0.map (fpσ fp M.length))
    (hR : ∀ v M0', R0 v M0' → M0.length ≤ M0'.length → R (v.ren (fpσ fp M.length)) (merge M fp M0')) :
    VCalls C f vs M (mv0.map (fpσ fp M.length)) R := by
  intro ρ κ w hRel _
  generalize hσ : fpσ fp M.length = σ at *
  have hσi : ∀ {i j}, σ i = σ j → i = j := by subst hσ; exact fun h => fpσ_inj hnd hlt h
  have hin : ∀ j, j < fp.length → fp[j]? = some (σ j) := by subst hσ; exact fun j hj => fpσ_in hj
  have hmem : ∀ j, j < fp.length → σ j ∈ fp := fun j hj => List.mem_of_getElem? (hin j hj)
  have hσout : ∀ j, ¬ j < fp.length → σ j = M.length + (j - fp.length) := by subst hσ; exact fun j hj => fpσ_out hj
  obtain ⟨hRel0, _⟩ := ren_sound (n0 := 0) (mv := []) hRel σ (fun _ hj => absurd hj (by omega)) (fun i j _ _ he => hσi he) hM hcM
  subst hvs
  rw [V.reals_ren]
  refine (h _ _ w hRel0 hcv).mono fun en w' hh => ?_
  obtain ⟨ρ0', κ0', v, M0', rfl, hvc, hR', hl, hst, hr⟩ := hh
  -- the places of the blocks that the contract speaks of
  obtain ⟨τ, hτ⟩ : ∃ τ : Nat → Nat, ∀ j, τ (σ j) = j := by
    classical
    refine ⟨fun i => if h : ∃ j, σ j = i then h.choose else 0, fun j => ?_⟩
    have hex : ∃ j', σ j' = σ j := ⟨j, rfl⟩
    show (if h : ∃ j', σ j' = σ j then h.choose else 0) = j
    rw [dif_pos hex]
    exact hσi hex.choose_spec
  have inside : ∀ i, (∃ j, σ j = i) ∨ (i < M.length ∧ i ∉ fp) := by
    intro i
    by_cases hi : i ∈ fp
    · obtain ⟨j, hj⟩ := List.mem_iff_getElem?.1 hi
      have hjl := (List.getElem?_eq_some_iff.1 hj).1
      exact .inl ⟨j, by have := hin j hjl; rw [hj] at this; exact (Option.some.inj this).symm⟩
    · by_cases hil : i < M.length
      · exact .inr ⟨hil, hi⟩
      · exact .inl ⟨fp.length + (i - M.length), by rw [hσout _ (by omega)]; omega⟩
  have notσ : ∀ i j, i < M.length → i ∉ fp → σ j ≠ i := by
    intro i j hi hni he
    by_cases hj : j < fp.length
    · exact hni (he ▸ hmem j hj)
    · rw [hσout j hj] at he; omega
  let ρ' : Nat → Nat := fun i => if i < M.length ∧ i ∉ fp then ρ i else ρ0' (τ i)
  let κ' : Nat → Option Nat := fun i => if i < M.length ∧ i ∉ fp then κ i else κ0' (τ i)
  have hρσ : ∀ j, ρ' (σ j) = ρ0' j := by
    intro j
    simp only [ρ']
    rw [if_neg (fun hc => notσ _ j hc.1 hc.2 rfl), hτ]
  have hκσ : ∀ j, κ' (σ j) = κ0' j := by
    intro j
    simp only [κ']
    rw [if_neg (fun hc => notσ _ j hc.1 hc.2 rfl), hτ]
  have hρo : ∀ i, i < M.length → i ∉ fp → ρ' i = ρ i ∧ κ' i = κ i := by
    intro i hi hni
    simp only [ρ', κ']
    rw [if_pos ⟨hi, hni⟩, if_pos ⟨hi, hni⟩]
    exact ⟨rfl, rfl⟩
  have hmlen : (merge M fp M0').length = M.length + (M0'.length - fp.length) := by
    simp [merge, setAll_length]
  have hmσ : ∀ (j : Nat) (b : Blk), M0'[j]? = some b → (merge M fp M0')[σ j]? = some (b.ren σ) := by
    intro j b hb
    unfold merge
    rw [hσ]
    by_cases hj : j < fp.length
    · have hlj := hlt _ (hmem j hj)
      rw [List.getElem?_append_left (by rw [setAll_length]; exact hlj)]
      exact setAll_at fp _ M j (σ j) _ hnd hlt (hin j hj) (by simp [hb])
    · rw [hσout j hj, List.getElem?_append_right (by rw [setAll_length]; omega), setAll_length]
      simp only [Nat.add_sub_cancel_left, List.getElem?_map, List.getElem?_drop]
      rw [show fp.length + (j - fp.length) = j by omega, hb]
      rfl
  have hmo : ∀ i, i < M.length → i ∉ fp → (merge M fp M0')[i]? = M[i]? := by
    intro i hi hni
    unfold merge
    rw [List.getElem?_append_left (by rw [setAll_length]; exact hi), setAll_other _ _ _ _ hni]
  have hσlt : ∀ j, j < M0'.length → σ j < (merge M fp M0').length := by
    intro j hj
    rw [hmlen]
    by_cases hjl : j < fp.length
    · have := hlt _ (hmem j hjl); omega
    · rw [hσout j hjl]; omega
  have hσback : ∀ (j : Nat) (b : Blk), (merge M fp M0')[σ j]? = some b → ∃ b0, M0'[j]? = some b0 ∧ b = b0.ren σ := by
    intro j b hb
    cases hq : M0'[j]? with
    | none =>
      exfalso
      have hjl : M0'.length ≤ j := by simpa using hq
      have := (List.getElem?_eq_some_iff.1 hb).1
      rw [hmlen, hσout j (by omega)] at this
      omega
    | some b0 => exact ⟨b0, rfl, by rw [hmσ j b0 hq] at hb; exact (Option.some.inj hb).symm⟩
  have alσ : ∀ j, alive κ' (merge M fp M0') (σ j) → alive κ0' M0' j := by
    intro j ha
    have hl := alive_lt ha
    obtain ⟨b0, hb0, hb⟩ := hσback j (merge M fp M0')[σ j] (by simp [hl])
    rw [alive_of (hmσ j b0 hb0), live_ren, hκσ] at ha
    rwa [alive_of hb0]
  have alo : ∀ i, i < M.length → i ∉ fp → alive κ' (merge M fp M0') i → alive κ M i := by
    intro i hi hni ha
    have hM' : M[i]? = some M[i] := by simp [hi]
    rw [alive_of (by rw [hmo i hi hni, hM']), (hρo i hi hni).2] at ha
    rwa [alive_of hM']
  have al0 : ∀ j, alive (fun i => κ (σ i)) M0 j → alive κ M (σ j) := by
    intro j ha
    have hl := alive_lt ha
    have hb : M0[j]? = some M0[j] := by simp [hl]
    rw [alive_of hb] at ha
    rwa [alive_of (hM j _ hb), live_ren]
  refine ⟨ρ', κ', v.ren σ, merge M fp M0', ?_, ?_, ⟨?_, ?_, ?_, ?_⟩, by rw [hmlen]; omega, ⟨hst.os, hst.tape, hst.output, hst.size, ?_, ?_, ?_⟩, hR v M0' hr hl⟩
  · rw [V.real_ren]
    congr 2
    · exact (funext hρσ).symm
    · exact (funext hκσ).symm
  · intro r hr
    rw [V.refs_ren] at hr
    obtain ⟨q, hq, rfl⟩ := List.mem_map.1 hr
    exact hσlt q (hvc q hq)
  · intro i b hb
    rcases inside i with ⟨j, rfl⟩ | ⟨hi, hni⟩
    · obtain ⟨b0, hb0, rfl⟩ := hσback j b hb
      exact holds_ren (hR'.blk j b0 hb0) hρσ hκσ
    · rw [hmo i hi hni] at hb
      obtain ⟨h1, h2⟩ := hρo i hi hni
      refine holds_congr (hRel.blk i b hb) h1 h2 (fun hlive => ?_) (fun r hr => ?_)
      · have hai : alive κ M i := (alive_of hb).2 hlive
        refine hst.keep (ρ i) (hRel.lt hai) fun j hj he => ?_
        exact notσ i j hi hni (hRel.inj _ _ (al0 j hj) hai he)
      · have hrl := hRel.cl i b hb r hr
        by_cases hrf : r ∈ fp
        · obtain ⟨j, hj⟩ := List.mem_iff_getElem?.1 hrf
          have hjl := (List.getElem?_eq_some_iff.1 hj).1
          have hjr : σ j = r := by have := hin j hjl; rw [hj] at this; exact (Option.some.inj this).symm
          subst hjr
          have hjm : j ∉ mv0 := fun hm => hout i b hni hb _ hr (List.mem_map.2 ⟨j, hm, rfl⟩)
          obtain ⟨h3, h4⟩ := hst.agree j ⟨by omega, hjm⟩
          rw [hρσ, hκσ, h3, h4]
          exact ⟨rfl, rfl⟩
        · exact hρo r hrl hrf
  · intro i j hi hj he
    rcases inside i with ⟨i', rfl⟩ | ⟨hil, hni⟩
    · rcases inside j with ⟨j', rfl⟩ | ⟨hjl, hnj⟩
      · rw [hρσ, hρσ] at he
        rw [hR'.inj i' j' (alσ _ hi) (alσ _ hj) he]
      · exfalso
        have haj := alo j hjl hnj hj
        rw [hρσ, (hρo j hjl hnj).1] at he
        rcases hst.own i' (alσ _ hi) with ⟨k, hk, hke⟩ | hge
        · exact notσ j k hjl hnj (hRel.inj _ _ (al0 k hk) haj (hke.symm.trans he))
        · have := hRel.lt haj; omega
    · rcases inside j with ⟨j', rfl⟩ | ⟨hjl, hnj⟩
      · exfalso
        have hai := alo i hil hni hi
        rw [hρσ, (hρo i hil hni).1] at he
        rcases hst.own j' (alσ _ hj) with ⟨k, hk, hke⟩ | hge
        · exact notσ i k hil hni (hRel.inj _ _ (al0 k hk) hai (hke.symm.trans he.symm))
        · have := hRel.lt hai; omega
      · rw [(hρo i hil hni).1, (hρo j hjl hnj).1] at he
        exact hRel.inj i j (alo i hil hni hi) (alo j hjl hnj hj) he
  · intro ad u hu
    obtain ⟨h1, h2⟩ := hR'.ext ad u hu
    refine ⟨h1, fun i hi => ?_⟩
    rcases inside i with ⟨j, rfl⟩ | ⟨hil, hni⟩
    · rw [hρσ]; exact h2 j (alσ j hi)
    · rw [(hρo i hil hni).1]; exact (hRel.ext ad u hu).2 i (alo i hil hni hi)
  · intro i b hb r hr
    rcases inside i with ⟨j, rfl⟩ | ⟨hil, hni⟩
    · obtain ⟨b0, hb0, rfl⟩ := hσback j b hb
      rw [refs_blk_ren] at hr
      obtain ⟨q, hq, rfl⟩ := List.mem_map.1 hr
      exact hσlt q (hR'.cl j b0 hb0 q hq)
    · rw [hmo i hil hni] at hb
      have := hRel.cl i b hb r hr
      rw [hmlen]; omega
  · intro r hr hn
    exact hst.keep r hr fun j hj => hn (σ j) (al0 j hj)
  · intro i hi
    rcases inside i with ⟨j, rfl⟩ | ⟨hil, hni⟩
    · rw [hρσ]
      rcases hst.own j (alσ j hi) with ⟨k, hk, hke⟩ | hge
      · exact .inl ⟨σ k, al0 k hk, hke⟩
      · exact .inr hge
    · exact .inl ⟨i, alo i hil hni hi, (hρo i hil hni).1⟩
  · intro i hi
    rcases inside i with ⟨j, rfl⟩ | ⟨hil, hni⟩
    · have hjl : j < M0.length := by
        by_cases hj : j < fp.length
        · omega
        · have h1 := hi.1
          rw [hσout j hj] at h1; omega
      have hjm : j ∉ mv0 := fun hm => hi.2 (List.mem_map.2 ⟨j, hm, rfl⟩)
      obtain ⟨h3, h4⟩ := hst.agree j ⟨hjl, hjm⟩
      rw [hρσ, hκσ, h3, h4]
      exact ⟨rfl, rfl⟩
    · exact hρo i hil hni
end
end Go.VM
end

section
namespace Go.VM
open Go

section
variable {C : Ctx} {n0 : Nat} {mv : List Nat}

theorem V.ren_of_nil {v : V} (h : v.refs = []) (σ : Nat → Nat) : v.ren σ = v := by
  rw [V.ren_congr (σ' := id) v (fun b hb => by rw [h] at hb; cases hb), V.ren_id]

def fits (M : Mem) (σ : Nat → Nat) : List Nat → List Blk → Prop
  | [], [] => True
  | i :: is, b :: bs => M[i]? = some (b.ren σ) ∧ fits M σ is bs
  | _, _ => False

theorem fits_length {M : Mem} {σ : Nat → Nat} : ∀ {is : List Nat} {bs : List Blk}, fits M σ is bs → is.length = bs.length
  | [], [], _ => rfl
  | i :: is, b :: bs, h => by simp [fits_length h.2]
  | [], b :: bs, h => h.elim
  | i :: is, [], h => h.elim

theorem fits_get {M : Mem} {σ : Nat → Nat} : ∀ {is : List Nat} {bs : List Blk}, fits M σ is bs → ∀ (j i : Nat) (b : Blk), is[j]? = some i → bs[j]? = some b → M[i]? = some (b.ren σ)
  | [], [], _, j, i, b, h, _ => by simp at h
  | i :: is, b :: bs, h, 0, i', b', h1, h2 => by
    simp only [List.getElem?_cons_zero, Option.some.injEq] at h1 h2
    subst h1; subst h2
    exact h.1
  | i :: is, b :: bs, h, j + 1, i', b', h1, h2 => fits_get h.2 j i' b' (by simpa using h1) (by simpa using h2)
  | [], b :: bs, h, _, _, _, _, _ => h.elim
  | i :: is, [], h, _, _, _, _, _ => h.elim

/-- no block outside names one of these -/
def outs (fp mvs : List Nat) : Nat → Mem → Bool
  | _, [] => true
  | k, b :: bs => (fp.contains k || b.refs.all (fun r => !mvs.contains r)) && outs fp mvs (k + 1) bs

theorem outs_get {fp mvs : List Nat} : ∀ (k : Nat) (M : Mem), outs fp mvs k M = true → ∀ (i : Nat) (b : Blk), k + i ∉ fp → M[i]? = some b → ∀ r ∈ b.refs, r ∉ mvs
  | _, [], _, i, b, _, h, _, _ => by simp at h
  | k, b :: bs, h, 0, b', hn, hb, r, hr => by
    simp only [List.getElem?_cons_zero, Option.some.injEq] at hb
    subst hb
    simp only [outs, Bool.and_eq_true, Bool.or_eq_true, List.contains_iff_mem] at h
    rcases h.1 with h1 | h1
    · exact absurd h1 hn
    · have := List.all_eq_true.1 h1 r hr
      simpa using this
  | k, b :: bs, h, i + 1, b', hn, hb, r, hr => by
    simp only [outs, Bool.and_eq_true] at h
    exact outs_get (k + 1) bs h.2 i b' (by rwa [Nat.add_assoc, Nat.add_comm 1 i]) (by simpa using hb) r hr

theorem outs_nil {fp : List Nat} : ∀ (k : Nat) (M : Mem), outs fp [] k M = true
  | _, [] => rfl
  | k, b :: bs => by simp [outs, outs_nil (k + 1) bs]

theorem callK_frame {f : Nat} {vs vs0 : List V} {M M0 : Mem} {mv0 : List Nat} {R0 : V → Mem → Prop} {K : List Nat → V → Mem → Prop} (fp : List Nat) (h : VCalls C f vs0 M0 mv0 R0)
    (hk : allKnown vs = true) (hnd : fp.Nodup) (hlt : (fp.all fun i => decide (i < M.length)) = true) (hfit : fits M (fpσ fp M.length) fp M0) (hvs : vs = V.renL (fpσ fp M.length) vs0)
    (hcM : memCl M0.length M0 = true) (hcv : clB M0.length (V.refsL vs0) = true) (hmv : ∀ b ∈ mv0.map (fpσ fp M.length), n0 ≤ b ∨ b ∈ mv)
    (hout : outs fp (mv0.map (fpσ fp M.length)) 0 M = true)
    (hK : ∀ v M0', R0 v M0' → M0.length ≤ M0'.length → K (mv0.map (fpσ fp M.length)) (v.ren (fpσ fp M.length)) (merge M fp M0')) : callK C n0 mv f vs M K := by
  refine ⟨hk, _, hmv, h.frame fp M vs _ (fits_length hfit) hnd (fun i hi => by simpa using List.all_eq_true.1 hlt i hi) (fun j b hb => ?_) hvs (fun j b hb r hr => ?_) (clB_iff hcv) (fun i b hi hb => outs_get 0 M hout i b (by simpa using hi) hb) hK⟩
  · have hj : j < fp.length := by rw [fits_length hfit]; exact (List.getElem?_eq_some_iff.1 hb).1
    exact fits_get hfit j _ b (fpσ_in hj) hb
  · exact clB_iff (List.all_eq_true.1 hcM b (List.mem_of_getElem? hb)) r hr

/-- no block of the caller's moves -/
theorem callK_fr {f : Nat} {vs vs0 : List V} {M M0 : Mem} {R0 : V → Mem → Prop} {K : List Nat → V → Mem → Prop} (fp : List Nat) (h : VCalls C f vs0 M0 [] R0)
    (hk : allKnown vs = true) (hnd : fp.Nodup) (hlt : (fp.all fun i => decide (i < M.length)) = true) (hfit : fits M (fpσ fp M.length) fp M0) (hvs : vs = V.renL (fpσ fp M.length) vs0)
    (hcM : memCl M0.length M0 = true) (hcv : clB M0.length (V.refsL vs0) = true)
    (hK : ∀ v M0', R0 v M0' → M0.length ≤ M0'.length → K [] (v.ren (fpσ fp M.length)) (merge M fp M0')) : callK C n0 mv f vs M K := by
  refine callK_frame fp h hk hnd hlt hfit hvs hcM hcv (by simp) ?_ hK
  exact outs_nil 0 M
end
end Go.VM
end
