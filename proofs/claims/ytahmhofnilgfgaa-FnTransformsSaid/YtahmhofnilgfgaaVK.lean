/-
  A part of a small machine over the model, or of a walk by it, proved right against the model. Proved outright, under no condition but what each theorem names.
-/
import Derived.Test.YtahmhofnilgfgaaVJ
import Derived.StillTail
import Derived.LoopN
namespace Go.VM
open Go

/-! Code, compiled; what it takes for it to end as asked. -/
inductive Item where
  | op (g : Option (Nat × Bool)) (d : Option Nat) (vi : VI)
  | call (d : Option Nat) (f : Nat) (args : List X)
  | callv (d : Option Nat) (fn : X) (args : List X)
  deriving Inhabited

inductive VC where
  | skip
  | reg (its : List Item) (ks : List Nat)
  | drq (its : List Item) (ks : List Nat)
  | drt (hd tl : List Item) (ks : List Nat)
  | seq (a b : VC)
  | cond (c : X) (a b : VC)
  | block (id : Nat) (a : VC)
  | loop (a : VC)
  | exit (id : Nat)
  | ret
  deriving Inhabited

inductive VX where
  | normal
  | exit (id : Nat)
  | ret
  deriving DecidableEq, Inhabited

def VX.real : VX → Exit
  | .normal => .normal
  | .exit id => .exit id
  | .ret => .ret

def callable (P : Program) (f : Nat) : Bool :=
  match P.funcs[f]? with
  | some fn => !(fn.name == "runtime.NumGoroutine") && !fn.body.isNone
  | none => false

/-- A call that leaves the world alone. -/
def VPure (C : Ctx) (f : Nat) (args : List V) (M : Mem) (v : V) : Prop :=
  v.cl M.length ∧ ∀ ρ κ w, Rel C ρ κ M w → V.clL M.length args → Calls C.P f (V.reals ρ κ args).toArray w fun en w' => en = .returned (v.real ρ κ) ∧ w' = w

/-- A call: its result, and the memory behind it; blocks of mv may have moved. -/
def VCalls (C : Ctx) (f : Nat) (args : List V) (M : Mem) (mv : List Nat) (R : V → Mem → Prop) : Prop :=
  ∀ ρ κ w, Rel C ρ κ M w → V.clL M.length args → Calls C.P f (V.reals ρ κ args).toArray w fun en w' => ∃ ρ' κ' v M', en = .returned (v.real ρ' κ') ∧ v.cl M'.length ∧
    Rel C ρ' κ' M' w' ∧ M.length ≤ M'.length ∧ Step (fun i => i < M.length ∧ i ∉ mv) ρ κ M w ρ' κ' M' w' ∧ R v M'

def Env.erases (e : Env) : List Nat → Env
  | [] => e
  | mv => e.map fun (k, v) => (k, if v.refs.any (mv.contains ·) then .undef else v)

def vargs (e : Env) (args : List X) : List V := args.map (X.ev e)

def allKnown (vs : List V) : Bool := vs.all V.known

section
variable (C : Ctx) (n0 : Nat) (mv : List Nat)

def callK (f : Nat) (vs : List V) (M : Mem) (K : List Nat → V → Mem → Prop) : Prop :=
  allKnown vs = true ∧ ∃ mvc : List Nat, (∀ b ∈ mvc, n0 ≤ b ∨ b ∈ mv) ∧ VCalls C f vs M mvc (K mvc)

def guardK (g : Option (Nat × Bool)) (e : Env) (run skip : Prop) : Prop :=
  match g with
  | none => run
  | some (j, want) => match e.get j with
    | .bool b => if b = want then run else skip
    | _ => False

def opK (e : Env) (M : Mem) (vi : VI) (K : V → Mem → Prop) : Prop :=
  match vop C e M vi with
  | some (v, M') => K v M'
  | none => False

def wpItems : List Item → Env → Mem → (Env → Mem → Prop) → Prop
  | [], e, M, Q => Q e M
  | .op g d vi :: r, e, M, Q => guardK g e (opK C e M vi fun v M' => wpItems r (e.putO d v) M' Q) (wpItems r (e.putO d .undef) M Q)
  | .call d f args :: r, e, M, Q => callK C n0 mv f (vargs e args) M fun mvc v M' => wpItems r ((e.erases mvc).putO d v) M' Q
  | .callv d fn args :: r, e, M, Q => match fn.ev e with
    | .fn f cap => callable C.P f = true ∧ callK C n0 mv f (vargs e args ++ cap) M fun mvc v M' => wpItems r ((e.erases mvc).putO d v) M' Q
    | _ => False

/-- Quiet items: no block is written or made. -/
def wpQuiet : List Item → Env → Mem → (Env → Prop) → Prop
  | [], e, _, Q => Q e
  | .op g d vi :: r, e, M, Q => guardK g e (opK C e M vi fun v _ => wpQuiet r (e.putO d v) M Q) (wpQuiet r (e.putO d .undef) M Q)
  | .call d f args :: r, e, M, Q => allKnown (vargs e args) = true ∧ ∃ v, VPure C f (vargs e args) M v ∧ wpQuiet r (e.putO d v) M Q
  | .callv .. :: _, _, _, _ => False

/-- Another frame for the same state. -/
inductive Adj (n0 : Nat) (e : Env) (M : Mem) : Env → Mem → Prop
  | refl : Adj n0 e M e M
  | weak (e' : Env) (h : ∀ j, e'.get j = .undef ∨ e'.get j = e.get j) : Adj n0 e M e' M
  | ren (e' : Env) (M' : Mem) (σ : Nat → Nat) (h0 : ∀ j, j < n0 → σ j = j) (hn : n0 ≤ M'.length) (hinj : ∀ i j, i < M'.length → j < M'.length → σ i = σ j → i = j)
      (hM : ∀ (j : Nat) (b : Blk), M'[j]? = some b → M[σ j]? = some (b.ren σ)) (he : ∀ j, e'.get j = .undef ∨ e.get j = (e'.get j).ren σ)
      (hce : EnvCl M'.length e') (hcM : ∀ (j : Nat) (b : Blk), M'[j]? = some b → ∀ r ∈ b.refs, r < M'.length) : Adj n0 e M e' M'

def VRounds (F : Env → Mem → (VX → Env → Mem → Prop) → Prop) : Nat → Env → Mem → (VX → Env → Mem → Prop) → Prop
  | 0, _, _, _ => False
  | k + 1, e, M, Q => ∃ e' M', Adj n0 e M e' M' ∧ F e' M' fun x e M => match x with
    | .normal => VRounds F k e M Q
    | x => Q x e M

def seqK (F : Env → Mem → Prop) (Q : VX → Env → Mem → Prop) : VX → Env → Mem → Prop
  | .normal, e, M => F e M
  | x, e, M => Q x e M

def blockK (id : Nat) (Q : VX → Env → Mem → Prop) : VX → Env → Mem → Prop
  | .exit j, e, M => if j = id then Q .normal e M else Q (.exit j) e M
  | x, e, M => Q x e M

def VWp : VC → Env → Mem → (VX → Env → Mem → Prop) → Prop
  | .skip, e, M, Q => Q .normal e M
  | .reg its ks, e, M, Q => wpItems C n0 mv its e M fun e M => Q .normal (e.keep ks) M
  | .drq its ks, e, M, Q => wpQuiet C its e M fun e => Q .normal (e.keep ks) M
  | .drt hd tl ks, e, M, Q => wpQuiet C hd e M fun e => wpItems C n0 mv tl e M fun e M => Q .normal (e.keep ks) M
  | .seq a b, e, M, Q => VWp a e M (seqK (fun e M => VWp b e M Q) Q)
  | .cond c a b, e, M, Q => match c.ev e with
    | .bool t => (t = true → VWp a e M Q) ∧ (t = false → VWp b e M Q)
    | _ => False
  | .block id a, e, M, Q => VWp a e M (blockK id Q)
  | .loop a, e, M, Q => ∃ k, VRounds n0 (VWp a) k e M Q
  | .exit id, e, M, Q => Q (.exit id) e M
  | .ret, e, M, Q => Q .ret e M
end

/-! The compiler. -/
def compItem (P : Program) (n : Nat) (ops : Array Oper) (o : Oper) : Option Item :=
  match (match o.dst with | some d => decide (d < n) | none => true) with
  | false => none
  | true => match o.guard with
    | none => match o.op with
      | .call { callee := .value (.func f), args := args, .. } => if callable P f then some (.call o.dst f (args.toList.map compX)) else none
      | .call { callee := .value (.tmp t), args := args, .. } => some (.callv o.dst (.t t) (args.toList.map compX))
      | op => match compOp P op with
        | some vi => some (.op none o.dst vi)
        | none => none
    | some (j, want) => match ((ops[j]?).bind (·.dst)), compOp P o.op with
      | some dj, some vi => some (.op (some (dj, want)) o.dst vi)
      | _, _ => none

def compItems (P : Program) (n : Nat) (ops : Array Oper) : List Oper → Option (List Item)
  | [] => some []
  | o :: r => match compItem P n ops o, compItems P n ops r with
    | some i, some l => some (i :: l)
    | _, _ => none

def Item.quiet : Item → Bool
  | .op _ _ vi => vi.quiet
  | .call .. => true
  | .callv .. => false

def keepOf (hs : List (Nat × List Nat)) (id : Nat) : List Nat :=
  match hs with
  | [] => []
  | (k, l) :: r => if k = id then l else keepOf r id

def quietHead : List Item → Nat
  | [] => 0
  | i :: r => if i.quiet then quietHead r + 1 else 0

def comp (P : Program) (n : Nat) (hs : List (Nat × List Nat)) : Code → Option VC
  | .skip => some .skip
  | .region id ops draw => match compItems P n ops ops.toList with
    | none => none
    | some its =>
      if draw then
        if P.follows .mixedOrders then
          let h := quietHead its
          if h = its.length then (if Region.lexB .any ops then some (.drq its (keepOf hs id)) else none)
          else if Region.lexTailB .any ops h then some (.drt (its.take h) (its.drop h) (keepOf hs id)) else none
        else none
      else some (.reg its (keepOf hs id))
  | .seq a b => match comp P n hs a, comp P n hs b with
    | some x, some y => some (.seq x y)
    | _, _ => none
  | .cond c a b => match comp P n hs a, comp P n hs b with
    | some x, some y => some (.cond (compX c) x y)
    | _, _ => none
  | .block id a => match comp P n hs a with
    | some x => some (.block id x)
    | none => none
  | .loop a => match comp P n hs a with
    | some x => some (.loop x)
    | none => none
  | .exit id => some (.exit id)
  | .ret => some .ret
  | _ => none

end Go.VM
