/-
  From the operations of the model to those of the machine. Proved outright, under no condition but what each theorem names.
-/
import Derived.Test.YtahmhofnilgfgaaVB
namespace Go.VM
open Go

/-! The compiler of single operations. -/
def V.ofConst : Value → V
  | .int k n => .int k n
  | .bool b => .bool b
  | .string s => .str s
  | .pointer none => .nilp
  | .slice none 0 0 => .nils
  | .nilFunc => .nilf
  | .nilIface => .nili
  | v => .raw v

theorem V.real_ofConst (ρ κ) (v : Value) : (V.ofConst v).real ρ κ = v := by
  unfold V.ofConst; split <;> rfl
theorem V.refs_ofConst (v : Value) : (V.ofConst v).refs = [] := by
  unfold V.ofConst; split <;> rfl

def compX : Operand → X
  | .tmp t => .t t
  | .const v => .c (V.ofConst v)
  | .global g => .c (.raw (.pointer (some ⟨g, 0, none⟩)))
  | .func f => .c (.fn f [])

def aggT (P : Program) (t : TypeId) : Option Bool :=
  match P.underlying t with
  | some (.struct _) | some (.array _ _) => some true
  | some _ => some false
  | none => none

def sizeT (P : Program) (t : TypeId) : Option Nat :=
  match P.info? t with
  | some i => some i.size
  | none => none

def zeroT (P : Program) (t : TypeId) : Option Value :=
  match P.info? t with
  | some i => i.zero
  | none => none

/-- All cells whole numbers of one kind? -/
def allInts (k : IntKind) : List Value → Option (List Int)
  | [] => some []
  | .int k' n :: r => if k = k' then match allInts k r with
      | some ns => some (n :: ns)
      | none => none
    else none
  | _ => none

def isArr (P : Program) (t : TypeId) : Bool :=
  match P.underlying t with
  | some (.array _ _) => true
  | _ => false

/-- A value of a type, out of a constant. -/
def V.ofZero (arr : Bool) : Value → V
  | .agg cs =>
    match arr, cs.toList with
    | true, .int k n :: r => match allInts k r with
      | some ns => .ints k (n :: ns)
      | none => .agg ((Value.int k n :: r).map V.ofConst)
    | _, l => .agg (l.map V.ofConst)
  | v => V.ofConst v

def compParts (P : Program) (ps : List (Nat × Operand)) (place : Nat → Option (Nat × Nat)) : Option (List (Nat × Nat × X)) :=
  match ps with
  | [] => some []
  | (i, x) :: r => match place i, compParts P r place with
    | some (o, n), some l => some ((o, n, compX x) :: l)
    | _, _ => none

def fieldPlaces (P : Program) : List Field → Option (List (Nat × Nat))
  | [] => some []
  | f :: r => match sizeT P f.type, fieldPlaces P r with
    | some n, some l => some ((f.offset, n) :: l)
    | _, _ => none

def compOp (P : Program) : Op → Option VI
  | .move x => some (.mov (compX x))
  | .assign x => some (.mov (compX x))
  | .pick c a b => some (.pick (compX c) (compX a) (compX b))
  | .nilCheck x => some (.nilck (compX x))
  | .binOp op _ x y _ => some (.bin op (compX x) (compX y))
  | .unOp op _ x => some (.un op (compX x))
  | .convert src dst x => match P.underlying src, P.underlying dst with
    | some _, some (.int k) => some (.conv k (compX x))
    | _, _ => none
  | .fieldAddr s x f => match P.underlying s with
    | some (.struct fs) => match fs[f]? with
      | some fd => match sizeT P fd.type with
        | some (_ + 1) => some (.fld fd.offset (compX x))
        | _ => none
      | none => none
    | _ => none
  | .indexAddr t x i => match P.underlying t with
    | some (.array n e) => match sizeT P e with
      | some sz => some (.idxA n sz (compX x) (compX i))
      | none => none
    | some (.slice e) => match sizeT P e with
      | some sz => some (.idxS sz (compX x) (compX i))
      | none => none
    | _ => none
  | .load t x => match aggT P t, sizeT P t with
    | some true, some n => some (.ldA n (compX x))
    | some false, _ => some (.ld (compX x))
    | _, _ => none
  | .store t x y => match sizeT P t with
    | some n => some (.st n (compX x) (compX y))
    | none => none
  | .alloc t => match zeroT P t with
    | some z => match vbox t (V.ofZero (isArr P t) z) with
      | some b => some (.alloc b)
      | none => none
    | none => none
  | .box t x => some (.box t (compX x))
  | .extract x i => some (.tupx (compX x) i)
  | .field t x f => match P.underlying t with
    | some (.struct fs) => match fs[f]? with
      | some fd => match aggT P fd.type, sizeT P fd.type with
        | some g, some n => some (.part g fd.offset n (compX x))
        | _, _ => none
      | none => none
    | _ => none
  | .index t x i => match P.underlying t with
    | some (.array n e) => match aggT P e, sizeT P e with
      | some g, some sz => some (.idxV g n sz (compX x) (compX i))
      | _, _ => none
    | _ => none
  | .build t parts => match zeroT P t, P.underlying t with
    | some (.agg z), some (.struct fs) => match fieldPlaces P fs.toList with
      | some pl => match compParts P parts.toList (pl[·]?) with
        | some l => some (.build (V.ofZero false (.agg z)) l)
        | none => none
      | none => none
    | some (.agg z), some (.array _ e) => match sizeT P e with
      | some sz => match compParts P parts.toList (fun i => some (i * sz, sz)) with
        | some l => some (.build (V.ofZero true (.agg z)) l)
        | none => none
      | none => none
    | _, _ => none
  | .slice t x lo hi mx => match P.underlying t with
    | some (.array n e) => match sizeT P e with
      | some sz => some (.slc n sz (compX x) (lo.map compX) (hi.map compX) (mx.map compX))
      | none => none
    | _ => none
  | .makeFunc (.func f) first cap => if first.isEmpty then some (.mkfn f (cap.toList.map compX)) else none
  | .call { callee := .builtin .len, args := args, argTypes := ts } =>
    match args.toList, ts.toList with
    | [x], [t] => match P.underlying t with
      | some (.slice _) => some (.len (compX x))
      | some .string => some (.lenS (compX x))
      | some (.array n _) => some (.mov (.c (.int .i64 n)))
      | _ => none
    | _, _ => none
  | _ => none

structure EnvRel (ρ : Nat → Nat) (κ : Nat → Option Nat) (e : Env) (n : Nat) (a : Act) : Prop where
  size : a.tmps.size = n
  get : ∀ j, e.get j ≠ .undef → a.tmps[j]? = some ((e.get j).real ρ κ)

def EnvCl (m : Nat) (e : Env) : Prop := ∀ j, (e.get j).cl m

section
variable {ρ : Nat → Nat} {κ : Nat → Option Nat} {e : Env} {n m : Nat} {a : Act}

theorem V.cl_undef : (V.undef).cl m := by intro b hb; simp [V.refs] at hb

theorem ev_real (h : EnvRel ρ κ e n a) (x : Operand) (hu : (compX x).ev e ≠ .undef) : a.eval x = ((compX x).ev e).real ρ κ := by
  cases x with
  | tmp t =>
    have := h.get t hu
    simp only [Act.eval, Array.getD_eq_getD_getElem?, this, compX, X.ev, Option.getD_some]
  | const v => simp only [Act.eval, compX, X.ev, V.real_ofConst]
  | global g => simp only [Act.eval, compX, X.ev, V.real]
  | func f => simp [Act.eval, compX, X.ev, V.real, V.reals]

theorem ev_cl (h : EnvCl m e) (x : Operand) : ((compX x).ev e).cl m := by
  cases x with
  | tmp t => exact h t
  | const v => intro b hb; simp [compX, X.ev, V.refs_ofConst] at hb
  | global g => intro b hb; simp [compX, X.ev, V.refs] at hb
  | func f => intro b hb; simp [compX, X.ev, V.refs, V.refsL] at hb

/-- What a quiet operation comes to. -/
def QOut (ρ : Nat → Nat) (κ : Nat → Option Nat) (m : Nat) (w : World) (r : Result Next) (v : V) : Prop :=
  ∃ x, r = .ok (.value x) w ∧ (v ≠ .undef → x = v.real ρ κ) ∧ v.cl m

theorem QOut.known {w : World} {r : Result Next} {v : V} (h : r = .ok (.value (v.real ρ κ)) w) (hc : v.cl m) : QOut ρ κ m w r v :=
  ⟨_, h, fun _ => rfl, hc⟩
end

/-- a value, run -/
theorem run_value {P : Program} {w : World} {s : Sem Value} {x : Value} {w' : World} (h : s.run P w = .ok x w') :
    ((do let r ← s; pure (Next.value r)) : Sem Next).run P w = .ok (.value x) w' := by
  simp [h]

theorem cl_nil {m : Nat} {v : V} (h : v.refs = []) : v.cl m := by intro b hb; rw [h] at hb; cases hb

theorem run_shift {P : Program} (w : World) (op : BinOp) (k yk : IntKind) (a b : Int) (v : V) (ho : op = .shl ∨ op = .shr) (h : vbin op (.int k a) (.int yk b) = some v) (ρ κ) :
    (Op.shift op k a yk b).run P w = .ok (v.real ρ κ) w ∧ v.refs = [] := by
  rcases ho with rfl | rfl
  all_goals
    simp only [vbin] at h
    split at h
    · cases h
    · rename_i hb
      cases h
      constructor
      · unfold Op.shift; rw [if_neg hb]; rfl
      · rfl

theorem run_bin {P : Program} (w : World) (op : BinOp) (t : TypeId) (x y : V) (v : V) (h : vbin op x y = some v) (ρ κ) (xo yo : Operand) :
    ((do eqGuard op t xo yo (x.real ρ κ) (y.real ρ κ); binOp op t (x.real ρ κ) (y.real ρ κ)) : Sem Value).run P w = .ok (v.real ρ κ) w ∧ v.refs = [] := by
  unfold vbin at h
  split at h
  · rename_i k a k' b
    simp only [V.real, eqGuard_at_int, pure_bind]
    cases op
    case shl => exact run_shift w .shl k k' a b v (.inl rfl) h ρ κ
    case shr => exact run_shift w .shr k k' a b v (.inr rfl) h ρ κ
    all_goals simp only at h
    all_goals
      split at h
      · rename_i hk
        subst hk
        first
        | (cases h; exact ⟨by simp [binOp, Op.intArith, Op.intCmp, Op.intBits, bits, V.real], rfl⟩)
        | (split at h
           · cases h
           · rename_i hb; cases h; exact ⟨by simp [binOp, Op.intDiv, hb, V.real], rfl⟩)
        | cases h
      · cases h
  · cases h

end Go.VM
