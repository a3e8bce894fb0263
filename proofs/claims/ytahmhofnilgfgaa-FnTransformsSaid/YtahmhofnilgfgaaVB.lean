/-
  The operations of that machine. Proved outright, under no condition but what each theorem names.
-/
import Derived.Test.YtahmhofnilgfgaaVA
namespace Go.VM
open Go

/-! Operands, environments, one operation. -/
inductive X where
  | t (n : Nat)
  | c (v : V)
  deriving Inhabited

abbrev Env := List (Nat × V)

def Env.get : Env → Nat → V
  | [], _ => .undef
  | (k, v) :: r, j => if k = j then v else Env.get r j

def Env.put (e : Env) (d : Nat) (v : V) : Env := (d, v) :: e
def Env.putO (e : Env) (d : Option Nat) (v : V) : Env := match d with
  | some d => (d, v) :: e
  | none => e
def Env.keep (e : Env) : List Nat → Env
  | [] => []
  | k :: ks => (k, e.get k) :: Env.keep e ks

def X.ev (e : Env) : X → V
  | .t n => e.get n
  | .c v => v

/-- One cell, known. -/
def V.one : V → Bool
  | .undef | .agg _ | .ints _ _ | .tup _ => false
  | .raw v => v.oneCell'
  | _ => true

def V.known : V → Bool
  | .undef => false
  | _ => true

def intVs (k : IntKind) (xs : List Int) : List V := xs.map (V.int k)

/-- The cells of a known value. -/
def V.cells : V → Option (List V)
  | .agg cs => if cs.all V.one then some cs else none
  | .ints k xs => some (intVs k xs)
  | v => if v.one then some [v] else none

def splice {α : Type} (xs : List α) (o : Nat) (ys : List α) : List α := xs.take o ++ ys ++ xs.drop (o + ys.length)

def Mem.cell (M : Mem) (b o : Nat) : Option V :=
  match M[b]? with
  | some (.own cs _) => cs[o]?
  | some (.ints k xs _) => match xs[o]? with
    | some n => some (.int k n)
    | none => none
  | some (.vec k xs _) => match xs[o]? with
    | some n => some (.int k n)
    | none => none
  | none => none

/-- n cells from place o on. -/
def Mem.range (M : Mem) (b o n : Nat) : Option V :=
  match M[b]? with
  | some (.own cs _) => if o + n ≤ cs.length then (let r := (cs.drop o).take n; if r.all V.known then some (.agg r) else none) else none
  | some (.ints k xs _) => if o = 0 ∧ n = xs.length then some (.ints k xs) else if o + n ≤ xs.length then some (.ints k ((xs.drop o).take n)) else none
  | some (.vec k xs _) => if o + n ≤ xs.length then some (.ints k ((xs.drop o).take n)) else none
  | none => none

def Mem.put (M : Mem) (b o n : Nat) (v : V) : Option Mem :=
  match M[b]? with
  | some (.own cs T) =>
    if n = 1 ∧ v.one = true ∧ o < cs.length then some (M.set b (.own (cs.set o v) T)) else
    match v.cells with
    | some vs => if vs.length = n ∧ o + n ≤ cs.length then some (M.set b (.own (splice cs o vs) T)) else none
    | none => none
  | some (.ints k xs T) =>
    match v with
    | .int k' m => if k = k' ∧ n = 1 ∧ o < xs.length then some (M.set b (.ints k (xs.set o m) T)) else none
    | .ints k' ys => if k = k' ∧ n = ys.length ∧ o + n ≤ xs.length then some (M.set b (.ints k (if o = 0 ∧ n = xs.length then ys else splice xs o ys) T)) else none
    | _ => none
  | some (.vec k xs T) =>
    match v with
    | .int k' m => if k = k' ∧ n = 1 ∧ o < xs.length then some (M.set b (.vec k (xs.set o m) T)) else none
    | _ => none
  | none => none

def V.ofVal : Value → V
  | .int k n => .int k n
  | .bool b => .bool b
  | v => .raw v

theorem V.real_ofVal (ρ κ) (v : Value) : (V.ofVal v).real ρ κ = v := by cases v <;> rfl
theorem V.refs_ofVal (v : Value) : (V.ofVal v).refs = [] := by cases v <;> rfl

def vbin (op : BinOp) : V → V → Option V
  | .int k a, .int k' b =>
    match op with
    | .shl => if b < 0 then none else some (.int k (k.wrap (a * 2 ^ (min b.toNat k.bits))))
    | .shr => if b < 0 then none else some (.int k (a.fdiv (2 ^ (min b.toNat k.bits))))
    | op => if k = k' then
        match op with
        | .add => some (.int k (k.wrap (a + b)))
        | .sub => some (.int k (k.wrap (a - b)))
        | .mul => some (.int k (k.wrap (a * b)))
        | .quo => if b = 0 then none else some (.int k (k.wrap (a.tdiv b)))
        | .rem => if b = 0 then none else some (.int k (a.tmod b))
        | .and => some (.int k (bits .and k a b))
        | .or => some (.int k (bits .or k a b))
        | .xor => some (.int k (bits .xor k a b))
        | .andNot => some (.int k (bits .andNot k a b))
        | .eql => some (.bool (a == b))
        | .neq => some (.bool (a != b))
        | .lss => some (.bool (decide (a < b)))
        | .leq => some (.bool (decide (a ≤ b)))
        | .gtr => some (.bool (decide (a > b)))
        | .geq => some (.bool (decide (a ≥ b)))
        | _ => none
      else none
  | _, _ => none

def vun (op : UnOp) : V → Option V
  | .int k n => match op with
    | .neg => some (.int k (k.wrap (0 - n)))
    | .xor => some (.int k (bits .xor k (if k.signed then -1 else k.max) n))
    | _ => none
  | .bool b => match op with
    | .not => some (.bool (!b))
    | _ => none
  | _ => none

def vidxA (n sz : Nat) : V → V → Option V
  | .ptr b o, .int _ i => if 0 ≤ i ∧ i < n then some (.ptr b (o + i.toNat * sz)) else none
  | .raw (.pointer (some a)), .int _ i => if 0 ≤ i ∧ i < n then some (.raw (.pointer (some (a.add (i.toNat * sz))))) else none
  | _, _ => none

def vidxS (M : Mem) (sz : Nat) : V → V → Option V
  | .slice b o n _, .int _ i => if 0 ≤ i ∧ i < n then some (.ptr b (o + i.toNat * sz)) else none
  | .vec b n, .int _ i => match M[b]? with
    | some (.vec _ xs _) => if xs.length = n ∧ 0 ≤ i ∧ i < n then some (.ptr b (i.toNat * sz)) else none
    | _ => none
  | .raw (.slice (some a) n _), .int _ i => if 0 ≤ i ∧ i < n then some (.raw (.pointer (some (a.add (i.toNat * sz))))) else none
  | _, _ => none

def vld (C : Ctx) (M : Mem) : V → Option V
  | .ptr b o => M.cell b o
  | .raw (.pointer (some a)) => match C.ext a with
    | some v => some (V.ofVal v)
    | none => none
  | _ => none

/-- A part of a value's cells. -/
def vpart (agg : Bool) (off n : Nat) : V → Option V
  | .ints k xs => if agg then (if off + n ≤ xs.length then some (.ints k ((xs.drop off).take n)) else none) else match xs[off]? with
    | some m => some (.int k m)
    | none => none
  | .agg cs => if agg then (if off + n ≤ cs.length then some (.agg ((cs.drop off).take n)) else none) else cs[off]?
  | _ => none

def vidxV (agg : Bool) (len sz : Nat) (x : V) : V → Option V
  | .int _ i => if 0 ≤ i ∧ i < len then vpart agg (i.toNat * sz) sz x else none
  | _ => none

def vbound (m : Nat) (d : Nat) : Option V → Option Nat
  | none => some d
  | some (.int _ i) => if 0 ≤ i ∧ i ≤ m then some i.toNat else none
  | _ => none

/-- The bounds of a slice expression: low, high, max. -/
def vbounds (len cap : Nat) (lo hi mx : Option V) : Option (Nat × Nat × Nat) :=
  match vbound cap cap mx with
  | none => none
  | some m => match hi, mx with
    | none, some _ => none
    | hi, mx => match vbound (if mx.isSome then m else cap) len hi with
      | none => none
      | some h => match vbound h 0 lo with
        | none => none
        | some l => some (l, h, m)

def vslice (n sz : Nat) (lo hi mx : Option V) : V → Option V
  | .ptr b o => match vbounds n n lo hi mx with
    | some (l, h, m) => some (.slice b (if m = l then o else o + l * sz) (h - l) (m - l))
    | none => none
  | _ => none

def vbox (T : Nat) : V → Option Blk
  | .ints k xs => some (.ints k xs T)
  | .agg cs => if cs.all V.known then some (.own cs T) else none
  | v => if v.one then some (.own [v] T) else none

def vfill : List (Nat × Nat × V) → V → Option V
  | [], z => some z
  | (off, n, v) :: r, .ints k zs => match v with
    | .int k' m => if k = k' ∧ n = 1 ∧ off < zs.length then vfill r (.ints k (zs.set off m)) else none
    | .ints k' ys => if k = k' ∧ n = ys.length ∧ off + n ≤ zs.length then vfill r (.ints k (splice zs off ys)) else none
    | _ => none
  | (off, n, v) :: r, .agg zs => match v.cells with
    | some vs => if vs.length = n ∧ off + n ≤ zs.length then vfill r (.agg (splice zs off vs)) else none
    | none => none
  | _, _ => none

def vlen (M : Mem) : V → Option V
  | .slice _ _ n _ => some (.int .i64 n)
  | .nils => some (.int .i64 0)
  | .vec b n => match M[b]? with
    | some (.vec _ xs _) => if xs.length = n then some (.int .i64 n) else none
    | _ => none
  | .raw (.slice _ n _) => some (.int .i64 n)
  | _ => none

inductive VI where
  | mov (x : X)
  | pick (c a b : X)
  | nilck (x : X)
  | bin (op : BinOp) (x y : X)
  | un (op : UnOp) (x : X)
  | conv (k : IntKind) (x : X)
  | fld (off : Nat) (x : X)
  | idxA (n sz : Nat) (x i : X)
  | idxS (sz : Nat) (x i : X)
  | ld (x : X)
  | ldA (n : Nat) (x : X)
  | st (n : Nat) (x y : X)
  | alloc (b : Blk)
  | box (T : Nat) (x : X)
  | tupx (x : X) (i : Nat)
  | part (agg : Bool) (off n : Nat) (x : X)
  | idxV (agg : Bool) (len sz : Nat) (x i : X)
  | build (z : V) (parts : List (Nat × Nat × X))
  | slc (n sz : Nat) (x : X) (lo hi mx : Option X)
  | mkfn (f : Nat) (cap : List X)
  | len (x : X)
  | lenS (x : X)
  deriving Inhabited

def vop (C : Ctx) (e : Env) (M : Mem) : VI → Option (V × Mem)
  | .mov x => some (x.ev e, M)
  | .pick c a b => match c.ev e with
    | .bool t => some (if t then a.ev e else b.ev e, M)
    | _ => none
  | .nilck x => match x.ev e with
    | .ptr b o => some (.ptr b o, M)
    | .raw (.pointer (some a)) => some (.raw (.pointer (some a)), M)
    | .fn f cap => some (.fn f cap, M)
    | _ => none
  | .bin op x y => match vbin op (x.ev e) (y.ev e) with
    | some v => some (v, M)
    | none => none
  | .un op x => match vun op (x.ev e) with
    | some v => some (v, M)
    | none => none
  | .conv k x => match x.ev e with
    | .int _ n => some (.int k (k.wrap n), M)
    | _ => none
  | .fld off x => match x.ev e with
    | .ptr b o => some (.ptr b (o + off), M)
    | _ => none
  | .idxA n sz x i => match vidxA n sz (x.ev e) (i.ev e) with
    | some v => some (v, M)
    | none => none
  | .idxS sz x i => match vidxS M sz (x.ev e) (i.ev e) with
    | some v => some (v, M)
    | none => none
  | .ld x => match vld C M (x.ev e) with
    | some v => some (v, M)
    | none => none
  | .ldA n x => match x.ev e with
    | .ptr b o => match M.range b o n with
      | some v => some (v, M)
      | none => none
    | _ => none
  | .st n x y => match x.ev e with
    | .ptr b o => match M.put b o n (y.ev e) with
      | some M' => some (.undef, M')
      | none => none
    | _ => none
  | .alloc b => some (.ptr M.length 0, M ++ [b])
  | .box T x => match vbox T (x.ev e) with
    | some b => some (.ptr M.length 0, M ++ [b])
    | none => none
  | .tupx x i => match x.ev e with
    | .tup vs => match vs[i]? with
      | some v => if v.known then some (v, M) else none
      | none => none
    | _ => none
  | .part agg off n x => match vpart agg off n (x.ev e) with
    | some v => if v.known then some (v, M) else none
    | none => none
  | .idxV agg len sz x i => match vidxV agg len sz (x.ev e) (i.ev e) with
    | some v => if v.known then some (v, M) else none
    | none => none
  | .build z parts => match vfill (parts.map fun (o, n, x) => (o, n, x.ev e)) z with
    | some v => some (v, M)
    | none => none
  | .slc n sz x lo hi mx => match vslice n sz (lo.map (X.ev e)) (hi.map (X.ev e)) (mx.map (X.ev e)) (x.ev e) with
    | some v => some (v, M)
    | none => none
  | .mkfn f cap => if (cap.map (X.ev e)).all V.known then some (.fn f (cap.map (X.ev e)), M) else none
  | .len x => match vlen M (x.ev e) with
    | some v => some (v, M)
    | none => none
  | .lenS x => match x.ev e with
    | .str s => some (.int .i64 s.size, M)
    | _ => none

end Go.VM
