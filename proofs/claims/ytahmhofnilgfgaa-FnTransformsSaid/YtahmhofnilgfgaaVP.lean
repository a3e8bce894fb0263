/-
  A part of a small machine over the model, or of a walk by it, proved right against the model. Proved outright, under no condition but what each theorem names.
-/
import Derived.Test.YtahmhofnilgfgaaVO
namespace Go.VM
open Go

/-! The goals, step by step: what follows is held as data. -/
section
variable (C : Ctx) (n0 : Nat) (mv : List Nat)

def regK (ks : List Nat) (Q : VX → Env → Mem → Prop) (e : Env) (M : Mem) : Prop := Q .normal (e.keep ks) M
def quietK (ks : List Nat) (M : Mem) (Q : VX → Env → Mem → Prop) (e : Env) : Prop := Q .normal (e.keep ks) M
def tailK (tl : List Item) (ks : List Nat) (M : Mem) (Q : VX → Env → Mem → Prop) (e : Env) : Prop := wpItems C n0 mv tl e M (regK ks Q)
def seqV (b : VC) (Q : VX → Env → Mem → Prop) : VX → Env → Mem → Prop
  | .normal, e, M => VWp C n0 mv b e M Q
  | x, e, M => Q x e M
def condGo (v : V) (a b : VC) (e : Env) (M : Mem) (Q : VX → Env → Mem → Prop) : Prop :=
  match v with
  | .bool t => (t = true → VWp C n0 mv a e M Q) ∧ (t = false → VWp C n0 mv b e M Q)
  | _ => False
def goOp (x : Option (V × Mem)) (d : Option Nat) (r : List Item) (e : Env) (Q : Env → Mem → Prop) : Prop :=
  match x with
  | some (v, M') => wpItems C n0 mv r (e.putO d v) M' Q
  | none => False
def goQ (x : Option (V × Mem)) (d : Option Nat) (r : List Item) (e : Env) (M : Mem) (Q : Env → Prop) : Prop :=
  match x with
  | some (v, _) => wpQuiet C r (e.putO d v) M Q
  | none => False
def goG (g : V) (want : Bool) (vi : VI) (d : Option Nat) (r : List Item) (e : Env) (M : Mem) (Q : Env → Mem → Prop) : Prop :=
  match g with
  | .bool b => if b = want then goOp C n0 mv (vop C e M vi) d r e Q else wpItems C n0 mv r (e.putO d .undef) M Q
  | _ => False
def goGQ (g : V) (want : Bool) (vi : VI) (d : Option Nat) (r : List Item) (e : Env) (M : Mem) (Q : Env → Prop) : Prop :=
  match g with
  | .bool b => if b = want then goQ C (vop C e M vi) d r e M Q else wpQuiet C r (e.putO d .undef) M Q
  | _ => False
/-- behind a call -/
def callC (d : Option Nat) (r : List Item) (e : Env) (Q : Env → Mem → Prop) (mvc : List Nat) (v : V) (M' : Mem) : Prop := wpItems C n0 mv r ((e.erases mvc).putO d v) M' Q
def goV (fn : V) (vs : List V) (d : Option Nat) (r : List Item) (e : Env) (M : Mem) (Q : Env → Mem → Prop) : Prop :=
  match fn with
  | .fn f cap => callable C.P f = true ∧ callK C n0 mv f (vs ++ cap) M (callC C n0 mv d r e Q)
  | _ => False
end

section
variable {C : Ctx} {n0 : Nat} {mv : List Nat} {e : Env} {M : Mem} {Q : VX → Env → Mem → Prop} {Qi : Env → Mem → Prop} {Qq : Env → Prop} {ks : List Nat} {a b : VC} {d : Option Nat} {r : List Item}

theorem regK_eq : regK ks Q e M = Q .normal (e.keep ks) M := rfl
theorem quietK_eq : quietK ks M Q e = Q .normal (e.keep ks) M := rfl
theorem tailK_eq {tl} : tailK C n0 mv tl ks M Q e = wpItems C n0 mv tl e M (regK ks Q) := rfl
theorem seqV_normal : seqV C n0 mv b Q .normal e M = VWp C n0 mv b e M Q := rfl
theorem seqV_exit {id} : seqV C n0 mv b Q (.exit id) e M = Q (.exit id) e M := rfl
theorem seqV_ret : seqV C n0 mv b Q .ret e M = Q .ret e M := rfl
theorem blockK_normal {id} : blockK id Q .normal e M = Q .normal e M := rfl
theorem blockK_ret {id} : blockK id Q .ret e M = Q .ret e M := rfl
theorem blockK_same {id} : blockK id Q (.exit id) e M = Q .normal e M := by simp [blockK]
theorem blockK_other {id j} (h : (j = id) = False) : blockK id Q (.exit j) e M = Q (.exit j) e M := by simp [blockK, h]

theorem VWp_skip : VWp C n0 mv .skip e M Q = Q .normal e M := rfl
theorem VWp_exit {id} : VWp C n0 mv (.exit id) e M Q = Q (.exit id) e M := rfl
theorem VWp_ret : VWp C n0 mv .ret e M Q = Q .ret e M := rfl
theorem VWp_reg {its} : VWp C n0 mv (.reg its ks) e M Q = wpItems C n0 mv its e M (regK ks Q) := rfl
theorem VWp_drq {its} : VWp C n0 mv (.drq its ks) e M Q = wpQuiet C its e M (quietK ks M Q) := rfl
theorem VWp_drt {hd tl} : VWp C n0 mv (.drt hd tl ks) e M Q = wpQuiet C hd e M (tailK C n0 mv tl ks M Q) := rfl
theorem VWp_seq : VWp C n0 mv (.seq a b) e M Q = VWp C n0 mv a e M (seqV C n0 mv b Q) := by
  simp only [VWp]
  congr 1
theorem VWp_cond {c} : VWp C n0 mv (.cond c a b) e M Q = condGo C n0 mv (c.ev e) a b e M Q := rfl
theorem VWp_block {id} : VWp C n0 mv (.block id a) e M Q = VWp C n0 mv a e M (blockK id Q) := rfl
theorem VWp_loop : VWp C n0 mv (.loop a) e M Q = ∃ k, VRounds n0 (VWp C n0 mv a) k e M Q := rfl

theorem condGo_true : condGo C n0 mv (.bool true) a b e M Q = VWp C n0 mv a e M Q := by simp [condGo]
theorem condGo_false : condGo C n0 mv (.bool false) a b e M Q = VWp C n0 mv b e M Q := by simp [condGo]
theorem condGo_split {t : Bool} (h1 : t = true → VWp C n0 mv a e M Q) (h2 : t = false → VWp C n0 mv b e M Q) : condGo C n0 mv (.bool t) a b e M Q := ⟨h1, h2⟩
theorem condGo_dec {p : Prop} [Decidable p] (h1 : p → VWp C n0 mv a e M Q) (h2 : ¬ p → VWp C n0 mv b e M Q) : condGo C n0 mv (.bool (decide p)) a b e M Q :=
  ⟨fun h => h1 (of_decide_eq_true h), fun h => h2 (of_decide_eq_false h)⟩

theorem wpItems_nil : wpItems C n0 mv [] e M Qi = Qi e M := rfl
theorem wpItems_op {vi} : wpItems C n0 mv (.op none d vi :: r) e M Qi = goOp C n0 mv (vop C e M vi) d r e Qi := rfl
theorem wpItems_opg {j want vi} : wpItems C n0 mv (.op (some (j, want)) d vi :: r) e M Qi = goG C n0 mv (e.get j) want vi d r e M Qi := rfl
theorem wpItems_call {f args} : wpItems C n0 mv (.call d f args :: r) e M Qi = callK C n0 mv f (vargs e args) M (callC C n0 mv d r e Qi) := rfl
theorem wpItems_callv {fn args} : wpItems C n0 mv (.callv d fn args :: r) e M Qi = goV C n0 mv (fn.ev e) (vargs e args) d r e M Qi := rfl
theorem goOp_some {v M'} : goOp C n0 mv (some (v, M')) d r e Qi = wpItems C n0 mv r (e.putO d v) M' Qi := rfl
theorem goG_bool {t want vi} : goG C n0 mv (.bool t) want vi d r e M Qi = if t = want then goOp C n0 mv (vop C e M vi) d r e Qi else wpItems C n0 mv r (e.putO d .undef) M Qi := rfl
theorem goV_fn {f cap vs} : goV C n0 mv (.fn f cap) vs d r e M Qi = (callable C.P f = true ∧ callK C n0 mv f (vs ++ cap) M (callC C n0 mv d r e Qi)) := rfl
theorem wpQuiet_nil : wpQuiet C [] e M Qq = Qq e := rfl
theorem wpQuiet_op {vi} : wpQuiet C (.op none d vi :: r) e M Qq = goQ C (vop C e M vi) d r e M Qq := rfl
theorem wpQuiet_opg {j want vi} : wpQuiet C (.op (some (j, want)) d vi :: r) e M Qq = goGQ C (e.get j) want vi d r e M Qq := rfl
theorem goQ_some {v M'} : goQ C (some (v, M')) d r e M Qq = wpQuiet C r (e.putO d v) M Qq := rfl
theorem goGQ_bool {t want vi} : goGQ C (.bool t) want vi d r e M Qq = if t = want then goQ C (vop C e M vi) d r e M Qq else wpQuiet C r (e.putO d .undef) M Qq := rfl
theorem wpQuiet_call {f args} {v : V} (hk : allKnown (vargs e args) = true) (hp : VPure C f (vargs e args) M v) (h : wpQuiet C r (e.putO d v) M Qq) : wpQuiet C (.call d f args :: r) e M Qq := ⟨hk, v, hp, h⟩

theorem get_nil {j} : Env.get [] j = .undef := rfl
theorem get_same {k v} {r : Env} : Env.get ((k, v) :: r) k = v := by simp [Env.get]
theorem get_cons {k v j} {r : Env} : Env.get ((k, v) :: r) j = if k = j then v else Env.get r j := rfl
theorem putO_some {k v} : Env.putO e (some k) v = (k, v) :: e := rfl
theorem putO_none {v} : Env.putO e none v = e := rfl
theorem keep_nil : Env.keep e [] = [] := rfl
theorem keep_cons {k} {ks : List Nat} : Env.keep e (k :: ks) = (k, e.get k) :: e.keep ks := rfl
theorem ev_t {k} : (X.t k).ev e = e.get k := rfl
theorem ev_c {v} : (X.c v).ev e = v := rfl
theorem ofArgs_nil {k} : Env.ofArgs k [] = [] := rfl
theorem ofArgs_cons {k v vs} : Env.ofArgs k (v :: vs) = (k, v) :: Env.ofArgs (k + 1) vs := rfl
theorem vargs_nil : vargs e [] = [] := rfl
theorem vargs_cons {x} {xs : List X} : vargs e (x :: xs) = x.ev e :: vargs e xs := rfl
theorem erases_nil : Env.erases e [] = e := rfl

/-- behind a round -/
def roundK (n0 : Nat) (F : Env → Mem → (VX → Env → Mem → Prop) → Prop) (k : Nat) (Q : VX → Env → Mem → Prop) : VX → Env → Mem → Prop
  | .normal, e, M => VRounds n0 F k e M Q
  | x, e, M => Q x e M
theorem roundK_normal {F k} : roundK n0 F k Q .normal e M = VRounds n0 F k e M Q := rfl
theorem roundK_exit {F k id} : roundK n0 F k Q (.exit id) e M = Q (.exit id) e M := rfl
theorem roundK_ret {F k} : roundK n0 F k Q .ret e M = Q .ret e M := rfl
theorem round {F} {k : Nat} (h : F e M (roundK n0 F k Q)) : VRounds n0 F (k + 1) e M Q := by
  refine ⟨e, M, .refl, ?_⟩
  have : (roundK n0 F k Q) = (fun x e M => match x with
    | .normal => VRounds n0 F k e M Q
    | x => Q x e M) := by funext x e M; cases x <;> rfl
  rw [this] at h
  exact h
theorem round_adj {F} {k : Nat} (e' : Env) (M' : Mem) (ha : Adj n0 e M e' M') (h : F e' M' (roundK n0 F k Q)) : VRounds n0 F (k + 1) e M Q := by
  refine ⟨e', M', ha, ?_⟩
  have : (roundK n0 F k Q) = (fun x e M => match x with
    | .normal => VRounds n0 F k e M Q
    | x => Q x e M) := by funext x e M; cases x <;> rfl
  rw [this] at h
  exact h
theorem VWp_loop_of {k : Nat} (h : VRounds n0 (VWp C n0 mv a) k e M Q) : VWp C n0 mv (.loop a) e M Q := ⟨k, h⟩

/-- the end of a function -/
def retGo (n0 : Nat) (x : Option V) (M : Mem) (R : V → Mem → Prop) : Prop :=
  match x with
  | some v => ∃ v' M', Fin n0 v M v' M' ∧ R v' M'
  | none => False
theorem fnPost_ret {rs R} : fnPost n0 rs R .ret e M = retGo n0 (vres e M rs) M R := rfl
theorem fnPost_normal {rs R} : fnPost n0 rs R .normal e M = retGo n0 (vres e M rs) M R := rfl
theorem vres_one {x} : vres e M [x] = vres1 e M x := rfl
theorem retGo_refl {v R} (h : R v M) : retGo n0 (some v) M R := ⟨v, M, .refl, h⟩
theorem retGo_take {v R} (k : Nat) (hk : n0 ≤ k) (hkM : k ≤ M.length) (hv : clB k v.refs = true) (hM : memCl k (M.take k) = true) (h : R v (M.take k)) : retGo n0 (some v) M R :=
  ⟨v, _, Fin.take k hk hkM hv hM, h⟩
theorem condGo_not {t : Bool} : condGo C n0 mv (.bool (!t)) a b e M Q = condGo C n0 mv (.bool t) b a e M Q := by
  cases t <;> simp [condGo]

theorem Mem_put_own {M : Mem} {b o n : Nat} {v : V} {cs : List V} {T : Nat} (h : M[b]? = some (.own cs T)) (hn : n = 1) (hv : v.one = true) (ho : o < cs.length) :
    M.put b o n v = some (M.set b (.own (cs.set o v) T)) := by
  simp only [Mem.put, h, hn, hv, ho, and_self, if_true]
theorem Mem_put_ints {M : Mem} {b o n : Nat} {m : Int} {k : IntKind} {xs : List Int} {T : Nat} (h : M[b]? = some (.ints k xs T)) (hn : n = 1) (ho : o < xs.length) :
    M.put b o n (.int k m) = some (M.set b (.ints k (xs.set o m) T)) := by
  simp only [Mem.put, h, hn, ho, and_self, if_true]

/-- a call by its contract -/
theorem callK_of {f : Nat} {vs : List V} {R : V → Mem → Prop} {K : List Nat → V → Mem → Prop} (mvc : List Nat) (hk : allKnown vs = true) (hm : ∀ b ∈ mvc, n0 ≤ b ∨ b ∈ mv) (h : VCalls C f vs M mvc R)
    (hK : ∀ v M', R v M' → K mvc v M') : callK C n0 mv f vs M K := ⟨hk, mvc, hm, h.mono hK⟩
end
end Go.VM
