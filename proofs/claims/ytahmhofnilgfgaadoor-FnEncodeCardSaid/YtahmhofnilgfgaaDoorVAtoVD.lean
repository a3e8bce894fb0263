/-
  The values, the memory and the operations of a small machine that stands over the model, and the compiler of single operations. No condition but what each theorem names.
-/
import Derived.WalkKit
set_option linter.unusedVariables false
set_option linter.unusedSimpArgs false
section
namespace Go.VM
open Go

/-! Values whose block numbers are places in a list of blocks. -/
inductive V where
  | undef
  | bool (b : Bool)
  | int (k : IntKind) (n : Int)
  | str (s : ByteArray)
  | nilp
  | ptr (b o : Nat)
  | nils
  | slice (b o n c : Nat)
  | vec (b n : Nat)
  | fn (f : Nat) (cap : List V)
  | nilf
  | iface (t : Nat) (v : V)
  | nili
  | agg (cs : List V)
  | ints (k : IntKind) (xs : List Int)
  | tup (vs : List V)
  | raw (v : Value)
  deriving Inhabited

def intVals (k : IntKind) (xs : List Int) : List Value := xs.map (Value.int k)

mutual
def V.real (ρ : Nat → Nat) (κ : Nat → Option Nat) : V → Value
  | .undef => Go.undef
  | .bool b => .bool b
  | .int k n => .int k n
  | .str s => .string s
  | .nilp => .pointer none
  | .ptr b o => .pointer (some ⟨ρ b, o, none⟩)
  | .nils => .slice none 0 0
  | .slice b o n c => .slice (some ⟨ρ b, o, none⟩) n c
  | .vec b n => match κ b with
    | none => .slice none 0 0
    | some c => .slice (some ⟨ρ b, 0, none⟩) n c
  | .fn f cap => .func (.func f) #[] (V.reals ρ κ cap).toArray
  | .nilf => .nilFunc
  | .iface t v => .iface t (V.real ρ κ v)
  | .nili => .nilIface
  | .agg cs => .agg (V.reals ρ κ cs).toArray
  | .ints k xs => .agg (intVals k xs).toArray
  | .tup vs => .tuple (V.reals ρ κ vs).toArray
  | .raw v => v
def V.reals (ρ : Nat → Nat) (κ : Nat → Option Nat) : List V → List Value
  | [] => []
  | v :: vs => V.real ρ κ v :: V.reals ρ κ vs
end

mutual
def V.refs : V → List Nat
  | .ptr b _ => [b]
  | .slice b _ _ _ => [b]
  | .vec b _ => [b]
  | .fn _ cap => V.refsL cap
  | .iface _ v => V.refs v
  | .agg cs => V.refsL cs
  | .tup vs => V.refsL vs
  | _ => []
def V.refsL : List V → List Nat
  | [] => []
  | v :: vs => V.refs v ++ V.refsL vs
end

/-- All places below n. -/
def V.cl (n : Nat) (v : V) : Prop := ∀ b ∈ v.refs, b < n
def V.clL (n : Nat) (vs : List V) : Prop := ∀ b ∈ V.refsL vs, b < n

mutual
def V.ren (σ : Nat → Nat) : V → V
  | .ptr b o => .ptr (σ b) o
  | .slice b o n c => .slice (σ b) o n c
  | .vec b n => .vec (σ b) n
  | .fn f cap => .fn f (V.renL σ cap)
  | .iface t v => .iface t (V.ren σ v)
  | .agg cs => .agg (V.renL σ cs)
  | .tup vs => .tup (V.renL σ vs)
  | .undef => .undef
  | .bool b => .bool b
  | .int k n => .int k n
  | .str s => .str s
  | .nilp => .nilp
  | .nils => .nils
  | .nilf => .nilf
  | .nili => .nili
  | .ints k xs => .ints k xs
  | .raw v => .raw v
def V.renL (σ : Nat → Nat) : List V → List V
  | [] => []
  | v :: vs => V.ren σ v :: V.renL σ vs
end

theorem V.reals_map (ρ κ) : ∀ vs, V.reals ρ κ vs = vs.map (V.real ρ κ)
  | [] => rfl
  | v :: vs => by simp [V.reals, V.reals_map ρ κ vs]
theorem V.renL_map (σ) : ∀ vs, V.renL σ vs = vs.map (V.ren σ)
  | [] => rfl
  | v :: vs => by simp [V.renL, V.renL_map σ vs]
theorem V.mem_refsL {b : Nat} : ∀ {vs : List V}, b ∈ V.refsL vs ↔ ∃ v ∈ vs, b ∈ v.refs
  | [] => by simp [V.refsL]
  | v :: vs => by simp [V.refsL, V.mem_refsL (vs := vs)]

theorem V.clL_iff {n : Nat} {vs : List V} : V.clL n vs ↔ ∀ v ∈ vs, v.cl n := by
  unfold V.clL V.cl
  constructor
  · intro h v hv b hb; exact h b (V.mem_refsL.2 ⟨v, hv, hb⟩)
  · intro h b hb
    obtain ⟨v, hv, hb⟩ := V.mem_refsL.1 hb
    exact h v hv b hb

mutual
theorem V.real_congr {ρ ρ' : Nat → Nat} {κ κ' : Nat → Option Nat} : ∀ (v : V), (∀ b ∈ v.refs, ρ b = ρ' b ∧ κ b = κ' b) → v.real ρ κ = v.real ρ' κ'
  | .ptr b o, h => by simp only [V.real]; rw [(h b (by simp [V.refs])).1]
  | .slice b o n c, h => by simp only [V.real]; rw [(h b (by simp [V.refs])).1]
  | .vec b n, h => by simp only [V.real]; rw [(h b (by simp [V.refs])).1, (h b (by simp [V.refs])).2]
  | .fn f cap, h => by simp only [V.real]; rw [V.reals_congr cap (by simpa [V.refs] using h)]
  | .iface t v, h => by simp only [V.real]; rw [V.real_congr v (by simpa [V.refs] using h)]
  | .agg cs, h => by simp only [V.real]; rw [V.reals_congr cs (by simpa [V.refs] using h)]
  | .tup vs, h => by simp only [V.real]; rw [V.reals_congr vs (by simpa [V.refs] using h)]
  | .undef, _ => rfl
  | .bool _, _ => rfl
  | .int _ _, _ => rfl
  | .str _, _ => rfl
  | .nilp, _ => rfl
  | .nils, _ => rfl
  | .nilf, _ => rfl
  | .nili, _ => rfl
  | .ints _ _, _ => rfl
  | .raw _, _ => rfl
theorem V.reals_congr {ρ ρ' : Nat → Nat} {κ κ' : Nat → Option Nat} : ∀ (vs : List V), (∀ b ∈ V.refsL vs, ρ b = ρ' b ∧ κ b = κ' b) → V.reals ρ κ vs = V.reals ρ' κ' vs
  | [], _ => rfl
  | v :: vs, h => by
    simp only [V.reals]
    rw [V.real_congr v (fun b hb => h b (by simp [V.refsL, hb])), V.reals_congr vs (fun b hb => h b (by simp [V.refsL, hb]))]
end

mutual
theorem V.real_ren {ρ : Nat → Nat} {κ : Nat → Option Nat} {σ : Nat → Nat} : ∀ (v : V), (v.ren σ).real ρ κ = v.real (fun i => ρ (σ i)) (fun i => κ (σ i))
  | .ptr b o => rfl
  | .slice b o n c => rfl
  | .vec b n => rfl
  | .fn f cap => by simp only [V.real, V.ren]; rw [V.reals_ren cap]
  | .iface t v => by simp only [V.real, V.ren]; rw [V.real_ren v]
  | .agg cs => by simp only [V.real, V.ren]; rw [V.reals_ren cs]
  | .tup vs => by simp only [V.real, V.ren]; rw [V.reals_ren vs]
  | .undef => rfl
  | .bool _ => rfl
  | .int _ _ => rfl
  | .str _ => rfl
  | .nilp => rfl
  | .nils => rfl
  | .nilf => rfl
  | .nili => rfl
  | .ints _ _ => rfl
  | .raw _ => rfl
theorem V.reals_ren {ρ : Nat → Nat} {κ : Nat → Option Nat} {σ : Nat → Nat} : ∀ (vs : List V), V.reals ρ κ (V.renL σ vs) = V.reals (fun i => ρ (σ i)) (fun i => κ (σ i)) vs
  | [] => rfl
  | v :: vs => by simp only [V.reals, V.renL]; rw [V.real_ren v, V.reals_ren vs]
end

mutual
theorem V.refs_ren {σ : Nat → Nat} : ∀ (v : V), (v.ren σ).refs = v.refs.map σ
  | .ptr b o => rfl
  | .slice b o n c => rfl
  | .vec b n => rfl
  | .fn f cap => by simp only [V.refs, V.ren]; rw [V.refsL_ren cap]
  | .iface t v => by simp only [V.refs, V.ren]; rw [V.refs_ren v]
  | .agg cs => by simp only [V.refs, V.ren]; rw [V.refsL_ren cs]
  | .tup vs => by simp only [V.refs, V.ren]; rw [V.refsL_ren vs]
  | .undef => rfl
  | .bool _ => rfl
  | .int _ _ => rfl
  | .str _ => rfl
  | .nilp => rfl
  | .nils => rfl
  | .nilf => rfl
  | .nili => rfl
  | .ints _ _ => rfl
  | .raw _ => rfl
theorem V.refsL_ren {σ : Nat → Nat} : ∀ (vs : List V), V.refsL (V.renL σ vs) = (V.refsL vs).map σ
  | [] => rfl
  | v :: vs => by simp only [V.refsL, V.renL, List.map_append]; rw [V.refs_ren v, V.refsL_ren vs]
end

mutual
theorem V.ren_congr {σ σ' : Nat → Nat} : ∀ (v : V), (∀ b ∈ v.refs, σ b = σ' b) → v.ren σ = v.ren σ'
  | .ptr b o, h => by simp only [V.ren]; rw [h b (by simp [V.refs])]
  | .slice b o n c, h => by simp only [V.ren]; rw [h b (by simp [V.refs])]
  | .vec b n, h => by simp only [V.ren]; rw [h b (by simp [V.refs])]
  | .fn f cap, h => by simp only [V.ren]; rw [V.renL_congr cap (by simpa [V.refs] using h)]
  | .iface t v, h => by simp only [V.ren]; rw [V.ren_congr v (by simpa [V.refs] using h)]
  | .agg cs, h => by simp only [V.ren]; rw [V.renL_congr cs (by simpa [V.refs] using h)]
  | .tup vs, h => by simp only [V.ren]; rw [V.renL_congr vs (by simpa [V.refs] using h)]
  | .undef, _ => rfl
  | .bool _, _ => rfl
  | .int _ _, _ => rfl
  | .str _, _ => rfl
  | .nilp, _ => rfl
  | .nils, _ => rfl
  | .nilf, _ => rfl
  | .nili, _ => rfl
  | .ints _ _, _ => rfl
  | .raw _, _ => rfl
theorem V.renL_congr {σ σ' : Nat → Nat} : ∀ (vs : List V), (∀ b ∈ V.refsL vs, σ b = σ' b) → V.renL σ vs = V.renL σ' vs
  | [], _ => rfl
  | v :: vs, h => by
    simp only [V.renL]
    rw [V.ren_congr v (fun b hb => h b (by simp [V.refsL, hb])), V.renL_congr vs (fun b hb => h b (by simp [V.refsL, hb]))]
end

/-- A block. -/
inductive Blk where
  | own (cs : List V) (T : Nat)
  | ints (k : IntKind) (xs : List Int) (T : Nat)
  | vec (k : IntKind) (xs : List Int) (T : Nat)
  deriving Inhabited

abbrev Mem := List Blk

def Blk.refs : Blk → List Nat
  | .own cs _ => V.refsL cs
  | _ => []

def Blk.ren (σ : Nat → Nat) : Blk → Blk
  | .own cs T => .own (V.renL σ cs) T
  | .ints k xs T => .ints k xs T
  | .vec k xs T => .vec k xs T

/-- What a block says of the world. -/
def Blk.holds (ρ : Nat → Nat) (κ : Nat → Option Nat) (i : Nat) (w : World) : Blk → Prop
  | .own cs T => ∃ cells : Array Value, w.heap[ρ i]? = some (.cells cells T (0, 0)) ∧ cells.size = cs.length ∧ ∀ (j : Nat) (v : V), cs[j]? = some v → v ≠ V.undef → cells[j]? = some (v.real ρ κ)
  | .ints k xs T => w.heap[ρ i]? = some (.cells (intVals k xs).toArray T (0, 0))
  | .vec k xs T => (κ i = none ∧ xs = []) ∨ ∃ (c : Nat) (cells : Array Value), κ i = some c ∧ w.heap[ρ i]? = some (.cells cells T (0, 0)) ∧
      xs.length ≤ c ∧ c ≤ maxLen ∧ cells.size = c ∧ cells.toList.take xs.length = intVals k xs

def Blk.live (c : Option Nat) : Blk → Prop
  | .vec _ _ _ => c ≠ none
  | _ => True

/-- Is there a block behind place i? -/
def alive (κ : Nat → Option Nat) (M : Mem) (i : Nat) : Prop :=
  match M[i]? with
  | some B => B.live (κ i)
  | none => False

theorem alive_of {κ : Nat → Option Nat} {M : Mem} {i : Nat} {B : Blk} (h : M[i]? = some B) : alive κ M i ↔ B.live (κ i) := by
  unfold alive
  simp only [h]

structure Ctx where
  P : Program
  ext : Addr → Option Value

structure Rel (C : Ctx) (ρ : Nat → Nat) (κ : Nat → Option Nat) (M : Mem) (w : World) : Prop where
  blk : ∀ (i : Nat) (b : Blk), M[i]? = some b → b.holds ρ κ i w
  inj : ∀ i j, alive κ M i → alive κ M j → ρ i = ρ j → i = j
  ext : ∀ a v, C.ext a = some v → w.cell? a = some v ∧ ∀ i, alive κ M i → ρ i ≠ a.block
  cl : ∀ (i : Nat) (b : Blk), M[i]? = some b → ∀ r ∈ b.refs, r < M.length

theorem alive_lt {κ M i} (h : alive κ M i) : i < M.length := by
  unfold alive at h
  rcases Nat.lt_or_ge i M.length with h' | h'
  · exact h'
  · rw [List.getElem?_eq_none h'] at h; exact h.elim

theorem Rel.lt {C : Ctx} {ρ κ M w} (h : Rel C ρ κ M w) {i : Nat} (ha : alive κ M i) : ρ i < w.heap.size := by
  have hl := alive_lt ha
  have hM : M[i]? = some M[i] := by simp [hl]
  rw [alive_of hM] at ha
  have hb := h.blk i M[i] hM
  cases hB : M[i] with
  | own cs T =>
    rw [hB] at hb
    obtain ⟨cells, hc, _⟩ := hb
    exact (Array.getElem?_eq_some_iff.1 hc).1
  | ints k xs T =>
    rw [hB] at hb
    exact (Array.getElem?_eq_some_iff.1 hb).1
  | vec k xs T =>
    rw [hB] at hb ha
    rcases hb with ⟨hn, _⟩ | ⟨c, cells, _, hc, _⟩
    · exact absurd hn ha
    · exact (Array.getElem?_eq_some_iff.1 hc).1

structure Step (K : Nat → Prop) (ρ : Nat → Nat) (κ : Nat → Option Nat) (M : Mem) (w : World) (ρ' : Nat → Nat) (κ' : Nat → Option Nat) (M' : Mem) (w' : World) : Prop where
  os : w'.os = w.os
  tape : w'.tape = w.tape
  output : w'.output = w.output
  size : w.heap.size ≤ w'.heap.size
  keep : ∀ r, r < w.heap.size → (∀ i, alive κ M i → ρ i ≠ r) → w'.heap[r]? = w.heap[r]?
  own : ∀ i, alive κ' M' i → (∃ j, alive κ M j ∧ ρ' i = ρ j) ∨ w.heap.size ≤ ρ' i
  agree : ∀ i, K i → ρ' i = ρ i ∧ κ' i = κ i

theorem Step.refl (K ρ κ M w) : Step K ρ κ M w ρ κ M w :=
  ⟨rfl, rfl, rfl, Nat.le_refl _, fun _ _ _ => rfl, fun i h => .inl ⟨i, h, rfl⟩, fun _ _ => ⟨rfl, rfl⟩⟩

theorem Step.trans {K ρ κ M w ρ₁ κ₁ M₁ w₁ ρ₂ κ₂ M₂ w₂} (h : Step K ρ κ M w ρ₁ κ₁ M₁ w₁) (h' : Step K ρ₁ κ₁ M₁ w₁ ρ₂ κ₂ M₂ w₂) :
    Step K ρ κ M w ρ₂ κ₂ M₂ w₂ := by
  refine ⟨h'.os.trans h.os, h'.tape.trans h.tape, h'.output.trans h.output, Nat.le_trans h.size h'.size, ?_, ?_, ?_⟩
  · intro r hr hn
    rw [h'.keep r (Nat.lt_of_lt_of_le hr h.size) ?_, h.keep r hr hn]
    intro i hi he
    rcases h.own i hi with ⟨j, hj, e⟩ | hge
    · exact hn j hj (e ▸ he)
    · omega
  · intro i hi
    rcases h'.own i hi with ⟨j, hj, e⟩ | hge
    · rcases h.own j hj with ⟨k, hk, e'⟩ | hge
      · exact .inl ⟨k, hk, e.trans e'⟩
      · exact .inr (e ▸ hge)
    · exact .inr (Nat.le_trans h.size hge)
  · intro i hi
    obtain ⟨a, b⟩ := h.agree i hi
    obtain ⟨a', b'⟩ := h'.agree i hi
    exact ⟨a'.trans a, b'.trans b⟩

end Go.VM
end

section
namespace Go.VM
open Go

/-! Operands, environments, one operation. -/
inductive X where
  | t (n : Nat)
  | c (v : V)
  deriving Inhabited

abbrev Env := List (Nat × V)

def Env.get : Env → Nat → V
  | [], _ => .undef
  | (k, v) :: r, j => if k = j then v else Env.get r j

def Env.put (e : Env) (d : Nat) (v : V) : Env := (d, v) :: e
def Env.putO (e : Env) (d : Option Nat) (v : V) : Env := match d with
  | some d => (d, v) :: e
  | none => e
def Env.keep (e : Env) : List Nat → Env
  | [] => []
  | k :: ks => (k, e.get k) :: Env.keep e ks

def X.ev (e : Env) : X → V
  | .t n => e.get n
  | .c v => v

/-- One cell, known. -/
def V.one : V → Bool
  | .undef | .agg _ | .ints _ _ | .tup _ => false
  | .raw v => v.oneCell'
  | _ => true

def V.known : V → Bool
  | .undef => false
  | _ => true

def intVs (k : IntKind) (xs : List Int) : List V := xs.map (V.int k)

/-- The cells of a known value. -/
def V.cells : V → Option (List V)
  | .agg cs => if cs.all V.one then some cs else none
  | .ints k xs => some (intVs k xs)
  | v => if v.one then some [v] else none

def splice {α : Type} (xs : List α) (o : Nat) (ys : List α) : List α := xs.take o ++ ys ++ xs.drop (o + ys.length)

def Mem.cell (M : Mem) (b o : Nat) : Option V :=
  match M[b]? with
  | some (.own cs _) => cs[o]?
  | some (.ints k xs _) => match xs[o]? with
    | some n => some (.int k n)
    | none => none
  | some (.vec k xs _) => match xs[o]? with
    | some n => some (.int k n)
    | none => none
  | none => none

/-- n cells from place o on. -/
def Mem.range (M : Mem) (b o n : Nat) : Option V :=
  match M[b]? with
  | some (.own cs _) => if o + n ≤ cs.length then (let r := (cs.drop o).take n; if r.all V.known then some (.agg r) else none) else none
  | some (.ints k xs _) => if o = 0 ∧ n = xs.length then some (.ints k xs) else if o + n ≤ xs.length then some (.ints k ((xs.drop o).take n)) else none
  | some (.vec k xs _) => if o + n ≤ xs.length then some (.ints k ((xs.drop o).take n)) else none
  | none => none

def Mem.put (M : Mem) (b o n : Nat) (v : V) : Option Mem :=
  match M[b]? with
  | some (.own cs T) =>
    if n = 1 ∧ v.one = true ∧ o < cs.length then some (M.set b (.own (cs.set o v) T)) else
    match v.cells with
    | some vs => if vs.length = n ∧ o + n ≤ cs.length then some (M.set b (.own (splice cs o vs) T)) else none
    | none => none
  | some (.ints k xs T) =>
    match v with
    | .int k' m => if k = k' ∧ n = 1 ∧ o < xs.length then some (M.set b (.ints k (xs.set o m) T)) else none
    | .ints k' ys => if k = k' ∧ n = ys.length ∧ o + n ≤ xs.length then some (M.set b (.ints k (if o = 0 ∧ n = xs.length then ys else splice xs o ys) T)) else none
    | _ => none
  | some (.vec k xs T) =>
    match v with
    | .int k' m => if k = k' ∧ n = 1 ∧ o < xs.length then some (M.set b (.vec k (xs.set o m) T)) else none
    | _ => none
  | none => none

def V.ofVal : Value → V
  | .int k n => .int k n
  | .bool b => .bool b
  | v => .raw v

theorem V.real_ofVal (ρ κ) (v : Value) : (V.ofVal v).real ρ κ = v := by cases v <;> rfl
theorem V.refs_ofVal (v : Value) : (V.ofVal v).refs = [] := by cases v <;> rfl

def vbin (op : BinOp) : V → V → Option V
  | .int k a, .int k' b =>
    match op with
    | .shl => if b < 0 then none else some (.int k (k.wrap (a * 2 ^ (min b.toNat k.bits))))
    | .shr => if b < 0 then none else some (.int k (a.fdiv (2 ^ (min b.toNat k.bits))))
    | op => if k = k' then
        match op with
        | .add => some (.int k (k.wrap (a + b)))
        | .sub => some (.int k (k.wrap (a - b)))
        | .mul => some (.int k (k.wrap (a * b)))
        | .quo => if b = 0 then none else some (.int k (k.wrap (a.tdiv b)))
        | .rem => if b = 0 then none else some (.int k (a.tmod b))
        | .and => some (.int k (bits .and k a b))
        | .or => some (.int k (bits .or k a b))
        | .xor => some (.int k (bits .xor k a b))
        | .andNot => some (.int k (bits .andNot k a b))
        | .eql => some (.bool (a == b))
        | .neq => some (.bool (a != b))
        | .lss => some (.bool (decide (a < b)))
        | .leq => some (.bool (decide (a ≤ b)))
        | .gtr => some (.bool (decide (a > b)))
        | .geq => some (.bool (decide (a ≥ b)))
        | _ => none
      else none
  | .str a, .str b => match op with
    | .eql => some (.bool (a.toList == b.toList))
    | _ => none
  | _, _ => none

def vun (op : UnOp) : V → Option V
  | .int k n => match op with
    | .neg => some (.int k (k.wrap (0 - n)))
    | .xor => some (.int k (bits .xor k (if k.signed then -1 else k.max) n))
    | _ => none
  | .bool b => match op with
    | .not => some (.bool (!b))
    | _ => none
  | _ => none

def vidxA (n sz : Nat) : V → V → Option V
  | .ptr b o, .int _ i => if 0 ≤ i ∧ i < n then some (.ptr b (o + i.toNat * sz)) else none
  | .raw (.pointer (some a)), .int _ i => if 0 ≤ i ∧ i < n then some (.raw (.pointer (some (a.add (i.toNat * sz))))) else none
  | _, _ => none

def vidxS (M : Mem) (sz : Nat) : V → V → Option V
  | .slice b o n _, .int _ i => if 0 ≤ i ∧ i < n then some (.ptr b (o + i.toNat * sz)) else none
  | .vec b n, .int _ i => match M[b]? with
    | some (.vec _ xs _) => if xs.length = n ∧ 0 ≤ i ∧ i < n then some (.ptr b (i.toNat * sz)) else none
    | _ => none
  | .raw (.slice (some a) n _), .int _ i => if 0 ≤ i ∧ i < n then some (.raw (.pointer (some (a.add (i.toNat * sz))))) else none
  | _, _ => none

def vld (C : Ctx) (M : Mem) : V → Option V
  | .ptr b o => M.cell b o
  | .raw (.pointer (some a)) => match C.ext a with
    | some v => some (V.ofVal v)
    | none => none
  | _ => none

/-- A part of a value's cells. -/
def vpart (agg : Bool) (off n : Nat) : V → Option V
  | .ints k xs => if agg then (if off + n ≤ xs.length then some (.ints k ((xs.drop off).take n)) else none) else match xs[off]? with
    | some m => some (.int k m)
    | none => none
  | .agg cs => if agg then (if off + n ≤ cs.length then some (.agg ((cs.drop off).take n)) else none) else cs[off]?
  | _ => none

def vidxV (agg : Bool) (len sz : Nat) (x : V) : V → Option V
  | .int _ i => if 0 ≤ i ∧ i < len then vpart agg (i.toNat * sz) sz x else none
  | _ => none

def vbound (m : Nat) (d : Nat) : Option V → Option Nat
  | none => some d
  | some (.int _ i) => if 0 ≤ i ∧ i ≤ m then some i.toNat else none
  | _ => none

/-- The bounds of a slice expression: low, high, max. -/
def vbounds (len cap : Nat) (lo hi mx : Option V) : Option (Nat × Nat × Nat) :=
  match vbound cap cap mx with
  | none => none
  | some m => match hi, mx with
    | none, some _ => none
    | hi, mx => match vbound (if mx.isSome then m else cap) len hi with
      | none => none
      | some h => match vbound h 0 lo with
        | none => none
        | some l => some (l, h, m)

def vslice (n sz : Nat) (lo hi mx : Option V) : V → Option V
  | .ptr b o => match vbounds n n lo hi mx with
    | some (l, h, m) => some (.slice b (if m = l then o else o + l * sz) (h - l) (m - l))
    | none => none
  | _ => none

/-- a slice of a slice -/
def vsliceS (sz : Nat) (lo hi mx : Option V) : V → Option V
  | .slice b o n c => match vbounds n c lo hi mx with
    | some (l, h, m) => some (.slice b (if m = l then o else o + l * sz) (h - l) (m - l))
    | none => none
  | _ => none

def vmm (isMin : Bool) : V → V → Option V
  | .int k x, .int k' y => if k = k' then some (.int k (if isMin then (if y < x then y else x) else (if y > x then y else x))) else none
  | _, _ => none

/-- Is it nil? -/
def visnil : Bool → V → Option Bool
  | false, .nili => some true
  | true, .nilp => some true
  | false, .iface _ _ => some false
  | true, .ptr _ _ => some false
  | _, _ => none

/-- Is the slice nil? -/
def visnils (M : Mem) : V → Option Bool
  | .nils => some true
  | .slice _ _ _ _ => some false
  | .vec b _ => match M[b]? with
    | some (.vec _ xs _) => if 0 < xs.length then some false else none
    | _ => none
  | _ => none

def vidxStr : V → V → Option V
  | .str s, .int _ i => if 0 ≤ i then match s[i.toNat]? with
      | some b => some (.int .u8 b.toNat)
      | none => none
    else none
  | _, _ => none

/-- Asserted to be of a type that is no interface. -/
def vtas (t : Nat) (z : V) : V → Option V
  | .nili => some (.tup [z, .bool false])
  | .iface t' v => some (.tup (if t' = t then [v, .bool true] else [z, .bool false]))
  | _ => none

def vints (k : IntKind) : List V → Option (List Int)
  | [] => some []
  | .int k' n :: r => if k' = k then match vints k r with
      | some ns => some (n :: ns)
      | none => none
    else none
  | _ => none

/-- The numbers that a slice holds. -/
def elems (M : Mem) (k : IntKind) : V → Option (List Int)
  | .nils => some []
  | .vec b n => match M[b]? with
    | some (.vec k' xs _) => if k' = k ∧ xs.length = n then some xs else none
    | _ => none
  | .slice b o n _ => match M.range b o n with
    | some (.ints k' ys) => if k' = k then some ys else none
    | some (.agg vs) => vints k vs
    | _ => none
  | _ => none

def ofBytes (xs : List Int) : ByteArray := ⟨(xs.map fun n => UInt8.ofNat n.toNat).toArray⟩

def vbox (T : Nat) : V → Option Blk
  | .ints k xs => some (.ints k xs T)
  | .agg cs => if cs.all V.known then some (.own cs T) else none
  | v => if v.one then some (.own [v] T) else none

def vfill : List (Nat × Nat × V) → V → Option V
  | [], z => some z
  | (off, n, v) :: r, .ints k zs => match v with
    | .int k' m => if k = k' ∧ n = 1 ∧ off < zs.length then vfill r (.ints k (zs.set off m)) else none
    | .ints k' ys => if k = k' ∧ n = ys.length ∧ off + n ≤ zs.length then vfill r (.ints k (splice zs off ys)) else none
    | _ => none
  | (off, n, v) :: r, .agg zs => match v.cells with
    | some vs => if vs.length = n ∧ off + n ≤ zs.length then vfill r (.agg (splice zs off vs)) else none
    | none => none
  | _, _ => none

def vlen (M : Mem) : V → Option V
  | .slice _ _ n _ => some (.int .i64 n)
  | .nils => some (.int .i64 0)
  | .vec b n => match M[b]? with
    | some (.vec _ xs _) => if xs.length = n then some (.int .i64 n) else none
    | _ => none
  | .raw (.slice _ n _) => some (.int .i64 n)
  | _ => none

inductive VI where
  | mov (x : X)
  | pick (c a b : X)
  | nilck (x : X)
  | bin (op : BinOp) (x y : X)
  | un (op : UnOp) (x : X)
  | conv (k : IntKind) (x : X)
  | fld (off : Nat) (x : X)
  | idxA (n sz : Nat) (x i : X)
  | idxS (sz : Nat) (x i : X)
  | ld (x : X)
  | ldA (n : Nat) (x : X)
  | st (n : Nat) (x y : X)
  | alloc (b : Blk)
  | box (T : Nat) (x : X)
  | tupx (x : X) (i : Nat)
  | part (agg : Bool) (off n : Nat) (x : X)
  | idxV (agg : Bool) (len sz : Nat) (x i : X)
  | build (z : V) (parts : List (Nat × Nat × X))
  | slc (n sz : Nat) (x : X) (lo hi mx : Option X)
  | mkfn (f : Nat) (cap : List X)
  | len (x : X)
  | lenS (x : X)
  | slcS (sz : Nat) (x : X) (lo hi mx : Option X)
  | mm (isMin : Bool) (x y : X)
  | isnil (p neg : Bool) (x : X)
  | isnils (neg : Bool) (x : X)
  | idxStr (x i : X)
  | mkif (t : Nat) (x : X)
  | tas (t : Nat) (z : V) (x : X)
  | b2s (x : X)
  | bsl (T len : Nat) (z : V) (parts : List (Nat × Nat × X))
  | mks (k : IntKind) (T : Nat) (x : X)
  deriving Inhabited

def bslGo (M : Mem) (T len : Nat) : Option V → Option (V × Mem)
  | some (.ints k xs) => if xs.length = len ∧ len ≤ 16777216 then some (.vec M.length len, M ++ [.vec k xs T]) else none
  | some (.agg cs) => if cs.all V.known ∧ len ≤ 16777216 then some (.slice M.length 0 len len, M ++ [.own cs T]) else none
  | _ => none

def vop (C : Ctx) (e : Env) (M : Mem) : VI → Option (V × Mem)
  | .mov x => some (x.ev e, M)
  | .pick c a b => match c.ev e with
    | .bool t => some (if t then a.ev e else b.ev e, M)
    | _ => none
  | .nilck x => match x.ev e with
    | .ptr b o => some (.ptr b o, M)
    | .raw (.pointer (some a)) => some (.raw (.pointer (some a)), M)
    | .fn f cap => some (.fn f cap, M)
    | _ => none
  | .bin op x y => match vbin op (x.ev e) (y.ev e) with
    | some v => some (v, M)
    | none => none
  | .un op x => match vun op (x.ev e) with
    | some v => some (v, M)
    | none => none
  | .conv k x => match x.ev e with
    | .int _ n => some (.int k (k.wrap n), M)
    | _ => none
  | .fld off x => match x.ev e with
    | .ptr b o => some (.ptr b (o + off), M)
    | .raw (.pointer (some a)) => some (.raw (.pointer (some (a.add off))), M)
    | _ => none
  | .idxA n sz x i => match vidxA n sz (x.ev e) (i.ev e) with
    | some v => some (v, M)
    | none => none
  | .idxS sz x i => match vidxS M sz (x.ev e) (i.ev e) with
    | some v => some (v, M)
    | none => none
  | .ld x => match vld C M (x.ev e) with
    | some v => some (v, M)
    | none => none
  | .ldA n x => match x.ev e with
    | .ptr b o => match M.range b o n with
      | some v => some (v, M)
      | none => none
    | _ => none
  | .st n x y => match x.ev e with
    | .ptr b o => match M.put b o n (y.ev e) with
      | some M' => some (.undef, M')
      | none => none
    | _ => none
  | .alloc b => some (.ptr M.length 0, M ++ [b])
  | .box T x => match vbox T (x.ev e) with
    | some b => some (.ptr M.length 0, M ++ [b])
    | none => none
  | .tupx x i => match x.ev e with
    | .tup vs => match vs[i]? with
      | some v => if v.known then some (v, M) else none
      | none => none
    | _ => none
  | .part agg off n x => match vpart agg off n (x.ev e) with
    | some v => if v.known then some (v, M) else none
    | none => none
  | .idxV agg len sz x i => match vidxV agg len sz (x.ev e) (i.ev e) with
    | some v => if v.known then some (v, M) else none
    | none => none
  | .build z parts => match vfill (parts.map fun (o, n, x) => (o, n, x.ev e)) z with
    | some v => some (v, M)
    | none => none
  | .slc n sz x lo hi mx => match vslice n sz (lo.map (X.ev e)) (hi.map (X.ev e)) (mx.map (X.ev e)) (x.ev e) with
    | some v => some (v, M)
    | none => none
  | .mkfn f cap => if (cap.map (X.ev e)).all V.known then some (.fn f (cap.map (X.ev e)), M) else none
  | .len x => match vlen M (x.ev e) with
    | some v => some (v, M)
    | none => none
  | .lenS x => match x.ev e with
    | .str s => some (.int .i64 s.size, M)
    | _ => none

  | .slcS sz x lo hi mx => match vsliceS sz (lo.map (X.ev e)) (hi.map (X.ev e)) (mx.map (X.ev e)) (x.ev e) with
    | some v => some (v, M)
    | none => none
  | .mm isMin x y => match vmm isMin (x.ev e) (y.ev e) with
    | some v => some (v, M)
    | none => none
  | .isnil p neg x => match visnil p (x.ev e) with
    | some b => some (.bool (b != neg), M)
    | none => none
  | .isnils neg x => match visnils M (x.ev e) with
    | some b => some (.bool (b != neg), M)
    | none => none
  | .idxStr x i => match vidxStr (x.ev e) (i.ev e) with
    | some v => some (v, M)
    | none => none
  | .mkif t x => if (x.ev e).known then some (.iface t (x.ev e), M) else none
  | .tas t z x => match vtas t z (x.ev e) with
    | some v => some (v, M)
    | none => none
  | .b2s x => match elems M .u8 (x.ev e) with
    | some xs => some (.str (ofBytes xs), M)
    | none => none
  | .bsl T len z parts => bslGo M T len (vfill (parts.map fun (o, n, x) => (o, n, x.ev e)) z)
  | .mks k T x => match x.ev e with
    | .int _ n => if 0 ≤ n ∧ n ≤ 16777216 then some (.vec M.length n.toNat, M ++ [.vec k (List.replicate n.toNat 0) T]) else none
    | _ => none

end Go.VM
end

section
namespace Go.VM
open Go

/-! The compiler of single operations. -/
def V.ofConst : Value → V
  | .int k n => .int k n
  | .bool b => .bool b
  | .string s => .str s
  | .pointer none => .nilp
  | .slice none 0 0 => .nils
  | .nilFunc => .nilf
  | .nilIface => .nili
  | v => .raw v

theorem V.real_ofConst (ρ κ) (v : Value) : (V.ofConst v).real ρ κ = v := by
  unfold V.ofConst; split <;> rfl
theorem V.refs_ofConst (v : Value) : (V.ofConst v).refs = [] := by
  unfold V.ofConst; split <;> rfl

def compX : Operand → X
  | .tmp t => .t t
  | .const v => .c (V.ofConst v)
  | .global g => .c (.raw (.pointer (some ⟨g, 0, none⟩)))
  | .func f => .c (.fn f [])

def aggT (P : Program) (t : TypeId) : Option Bool :=
  match P.underlying t with
  | some (.struct _) | some (.array _ _) => some true
  | some _ => some false
  | none => none

def sizeT (P : Program) (t : TypeId) : Option Nat :=
  match P.info? t with
  | some i => some i.size
  | none => none

def zeroT (P : Program) (t : TypeId) : Option Value :=
  match P.info? t with
  | some i => i.zero
  | none => none

/-- All cells whole numbers of one kind? -/
def allInts (k : IntKind) : List Value → Option (List Int)
  | [] => some []
  | .int k' n :: r => if k = k' then match allInts k r with
      | some ns => some (n :: ns)
      | none => none
    else none
  | _ => none

def isArr (P : Program) (t : TypeId) : Bool :=
  match P.underlying t with
  | some (.array _ _) => true
  | _ => false

/-- A value of a type, out of a constant. -/
def V.ofZero (arr : Bool) : Value → V
  | .agg cs =>
    match arr, cs.toList with
    | true, .int k n :: r => match allInts k r with
      | some ns => .ints k (n :: ns)
      | none => .agg ((Value.int k n :: r).map V.ofConst)
    | _, l => .agg (l.map V.ofConst)
  | v => V.ofConst v

def compParts (P : Program) (ps : List (Nat × Operand)) (place : Nat → Option (Nat × Nat)) : Option (List (Nat × Nat × X)) :=
  match ps with
  | [] => some []
  | (i, x) :: r => match place i, compParts P r place with
    | some (o, n), some l => some ((o, n, compX x) :: l)
    | _, _ => none

def fieldPlaces (P : Program) : List Field → Option (List (Nat × Nat))
  | [] => some []
  | f :: r => match sizeT P f.type, fieldPlaces P r with
    | some n, some l => some ((f.offset, n) :: l)
    | _, _ => none

/-- is it the nil constant of the type: of an interface (some false), of a pointer (some true) -/
def nilC (P : Program) (t : TypeId) (x : Operand) : Option Bool :=
  match x, P.underlying t with
  | .const .nilIface, some (.interface _) => some false
  | .const (.pointer none), some (.pointer _) => some true
  | _, _ => none

/-- a comparison with the nil constant -/
def isNilC (P : Program) (op : BinOp) (t : TypeId) (x y : Operand) : Option (Bool × Bool × Operand) :=
  match op with
  | .eql => match nilC P t y, nilC P t x with
    | some p, _ => some (p, false, x)
    | _, some p => some (p, false, y)
    | _, _ => none
  | .neq => match nilC P t y, nilC P t x with
    | some p, _ => some (p, true, x)
    | _, some p => some (p, true, y)
    | _, _ => none
  | _ => none

/-- a comparison of a slice with the nil constant -/
def isNilS (P : Program) (op : BinOp) (t : TypeId) (x y : Operand) : Option (Bool × Operand) :=
  match op, y, P.underlying t with
  | .eql, .const (.slice none _ _), some (.slice _) => some (false, x)
  | .neq, .const (.slice none _ _), some (.slice _) => some (true, x)
  | _, _, _ => none

def intKindT (P : Program) (t : TypeId) : Option IntKind :=
  match P.underlying t with
  | some (.int k) => some k
  | _ => none

/-- a type of whole numbers of at most 8 bytes, one cell each -/
def zeroIs (P : Program) (e : Nat) (k : IntKind) : Bool :=
  match P.info? e with
  | some i => (match i.zero with
    | some (.int k' n) => decide (k' = k ∧ n = 0)
    | _ => false) && i.size == 1 && decide (i.bytes ≤ 8)
  | none => false

def zerosOf (P : Program) (e len sz : Nat) : Option (Array Value) :=
  if len * sz = 0 then some #[] else match zeroT P e with
    | some z => some ((Array.range (len * sz)).map (z.cells[· % z.cells.size]!))
    | none => none

def zeroRow (P : Program) (e : Nat) (zs : Array Value) : Option V :=
  match intKindT P e with
  | some k => match allInts k zs.toList with
    | some ns => some (.ints k ns)
    | none => none
  | none => some (.agg (zs.toList.map V.ofConst))

def compOp (P : Program) : Op → Option VI
  | .move x => some (.mov (compX x))
  | .assign x => some (.mov (compX x))
  | .pick c a b => some (.pick (compX c) (compX a) (compX b))
  | .nilCheck x => some (.nilck (compX x))
  | .binOp op t x y _ => match isNilC P op t x y with
    | some (p, neg, z) => some (.isnil p neg (compX z))
    | none => match isNilS P op t x y with
      | some (neg, z) => some (.isnils neg (compX z))
      | none => some (.bin op (compX x) (compX y))
  | .unOp op _ x => some (.un op (compX x))
  | .convert src dst x => match P.underlying src, P.underlying dst with
    | some _, some (.int k) => some (.conv k (compX x))
    | some (.slice e), some .string => match P.underlying e with
      | some (.int .u8) => some (.b2s (compX x))
      | _ => none
    | _, _ => none
  | .fieldAddr s x f => match P.underlying s with
    | some (.struct fs) => match fs[f]? with
      | some fd => match sizeT P fd.type with
        | some (_ + 1) => some (.fld fd.offset (compX x))
        | _ => none
      | none => none
    | _ => none
  | .indexAddr t x i => match P.underlying t with
    | some (.array n e) => match sizeT P e with
      | some sz => some (.idxA n sz (compX x) (compX i))
      | none => none
    | some (.slice e) => match sizeT P e with
      | some sz => some (.idxS sz (compX x) (compX i))
      | none => none
    | _ => none
  | .load t x => match aggT P t, sizeT P t with
    | some true, some n => some (.ldA n (compX x))
    | some false, _ => some (.ld (compX x))
    | _, _ => none
  | .store t x y => match sizeT P t with
    | some n => some (.st n (compX x) (compX y))
    | none => none
  | .alloc t => match zeroT P t with
    | some z => match vbox t (V.ofZero (isArr P t) z) with
      | some b => some (.alloc b)
      | none => none
    | none => none
  | .box t x => some (.box t (compX x))
  | .extract x i => some (.tupx (compX x) i)
  | .field t x f => match P.underlying t with
    | some (.struct fs) => match fs[f]? with
      | some fd => match aggT P fd.type, sizeT P fd.type with
        | some g, some n => some (.part g fd.offset n (compX x))
        | _, _ => none
      | none => none
    | _ => none
  | .index t x i => match P.underlying t with
    | some (.array n e) => match aggT P e, sizeT P e with
      | some g, some sz => some (.idxV g n sz (compX x) (compX i))
      | _, _ => none
    | some .string => some (.idxStr (compX x) (compX i))
    | _ => none
  | .build t parts => match zeroT P t, P.underlying t with
    | some (.agg z), some (.struct fs) => match fieldPlaces P fs.toList with
      | some pl => match compParts P parts.toList (pl[·]?) with
        | some l => some (.build (V.ofZero false (.agg z)) l)
        | none => none
      | none => none
    | some (.agg z), some (.array _ e) => match sizeT P e with
      | some sz => match compParts P parts.toList (fun i => some (i * sz, sz)) with
        | some l => some (.build (V.ofZero true (.agg z)) l)
        | none => none
      | none => none
    | _, _ => none
  | .slice t x lo hi mx => match P.underlying t with
    | some (.array n e) => match sizeT P e with
      | some sz => some (.slc n sz (compX x) (lo.map compX) (hi.map compX) (mx.map compX))
      | none => none
    | some (.slice e) => match sizeT P e with
      | some sz => some (.slcS sz (compX x) (lo.map compX) (hi.map compX) (mx.map compX))
      | none => none
    | _ => none
  | .makeFunc (.func f) first cap => if first.isEmpty then some (.mkfn f (cap.toList.map compX)) else none
  | .call { callee := .builtin .len, args := args, argTypes := ts } =>
    match args.toList, ts.toList with
    | [x], [t] => match P.underlying t with
      | some (.slice _) => some (.len (compX x))
      | some .string => some (.lenS (compX x))
      | some (.array n _) => some (.mov (.c (.int .i64 n)))
      | _ => none
    | _, _ => none
  | .call { callee := .builtin .min, args := args, argTypes := _ } =>
    match args.toList with
    | [x, y] => some (.mm true (compX x) (compX y))
    | _ => none
  | .call { callee := .builtin .max, args := args, argTypes := _ } =>
    match args.toList with
    | [x, y] => some (.mm false (compX x) (compX y))
    | _ => none
  | .makeInterface t x => match P.underlying t with
    | some (.interface _) => none
    | some _ => some (.mkif t (compX x))
    | none => none
  | .typeAssert x _ t true => match P.underlying t, zeroT P t with
    | some (.interface _), _ => none
    | some _, some z => some (.tas t (V.ofConst z) (compX x))
    | _, _ => none
  | .buildSlice t len parts => match P.underlying t with
    | some (.slice e) => match sizeT P e with
      | some sz => if len * sz ≤ 16777216 then match zerosOf P e len sz with
          | some zs => match zeroRow P e zs, compParts P parts.toList (fun i => some (i * sz, sz)) with
            | some z, some l => some (.bsl e len z l)
            | _, _ => none
          | none => none
        else none
      | none => none
    | _ => none
  | .makeSlice t l c => match P.underlying t with
    | some (.slice e) => match intKindT P e, l, c with
      | some k, .tmp a, .tmp b => if a = b && zeroIs P e k then some (.mks k e (.t a)) else none
      | _, _, _ => none
    | _ => none
  | _ => none

structure EnvRel (ρ : Nat → Nat) (κ : Nat → Option Nat) (e : Env) (n : Nat) (a : Act) : Prop where
  size : a.tmps.size = n
  get : ∀ j, e.get j ≠ .undef → a.tmps[j]? = some ((e.get j).real ρ κ)

def EnvCl (m : Nat) (e : Env) : Prop := ∀ j, (e.get j).cl m

section
variable {ρ : Nat → Nat} {κ : Nat → Option Nat} {e : Env} {n m : Nat} {a : Act}

theorem V.cl_undef : (V.undef).cl m := by intro b hb; simp [V.refs] at hb

theorem ev_real (h : EnvRel ρ κ e n a) (x : Operand) (hu : (compX x).ev e ≠ .undef) : a.eval x = ((compX x).ev e).real ρ κ := by
  cases x with
  | tmp t =>
    have := h.get t hu
    simp only [Act.eval, Array.getD_eq_getD_getElem?, this, compX, X.ev, Option.getD_some]
  | const v => simp only [Act.eval, compX, X.ev, V.real_ofConst]
  | global g => simp only [Act.eval, compX, X.ev, V.real]
  | func f => simp [Act.eval, compX, X.ev, V.real, V.reals]

theorem ev_cl (h : EnvCl m e) (x : Operand) : ((compX x).ev e).cl m := by
  cases x with
  | tmp t => exact h t
  | const v => intro b hb; simp [compX, X.ev, V.refs_ofConst] at hb
  | global g => intro b hb; simp [compX, X.ev, V.refs] at hb
  | func f => intro b hb; simp [compX, X.ev, V.refs, V.refsL] at hb

/-- What a quiet operation comes to. -/
def QOut (ρ : Nat → Nat) (κ : Nat → Option Nat) (m : Nat) (w : World) (r : Result Next) (v : V) : Prop :=
  ∃ x, r = .ok (.value x) w ∧ (v ≠ .undef → x = v.real ρ κ) ∧ v.cl m

theorem QOut.known {w : World} {r : Result Next} {v : V} (h : r = .ok (.value (v.real ρ κ)) w) (hc : v.cl m) : QOut ρ κ m w r v :=
  ⟨_, h, fun _ => rfl, hc⟩
end

theorem cl_nil {m : Nat} {v : V} (h : v.refs = []) : v.cl m := by intro b hb; rw [h] at hb; cases hb

theorem run_shift {P : Program} (w : World) (op : BinOp) (k yk : IntKind) (a b : Int) (v : V) (ho : op = .shl ∨ op = .shr) (h : vbin op (.int k a) (.int yk b) = some v) (ρ κ) :
    (Op.shift op k a yk b).run P w = .ok (v.real ρ κ) w ∧ v.refs = [] := by
  rcases ho with rfl | rfl
  all_goals
    simp only [vbin] at h
    split at h
    · cases h
    · rename_i hb
      cases h
      constructor
      · unfold Op.shift; rw [if_neg hb]; rfl
      · rfl

theorem run_bin {P : Program} (w : World) (op : BinOp) (t : TypeId) (x y : V) (v : V) (h : vbin op x y = some v) (ρ κ) (xo yo : Operand) :
    ((do eqGuard op t xo yo (x.real ρ κ) (y.real ρ κ); binOp op t (x.real ρ κ) (y.real ρ κ)) : Sem Value).run P w = .ok (v.real ρ κ) w ∧ v.refs = [] := by
  unfold vbin at h
  split at h
  · rename_i k a k' b
    simp only [V.real, eqGuard_at_int, pure_bind]
    cases op
    case shl => exact run_shift w .shl k k' a b v (.inl rfl) h ρ κ
    case shr => exact run_shift w .shr k k' a b v (.inr rfl) h ρ κ
    all_goals simp only at h
    all_goals
      split at h
      · rename_i hk
        subst hk
        first
        | (cases h; exact ⟨by simp [binOp, Op.intArith, Op.intCmp, Op.intBits, bits, V.real], rfl⟩)
        | (split at h
           · cases h
           · rename_i hb; cases h; exact ⟨by simp [binOp, Op.intDiv, hb, V.real], rfl⟩)
        | cases h
      · cases h
  · rename_i s s'
    split at h
    · cases h
      refine ⟨?_, rfl⟩
      simp [V.real, eqGuard, binOp, Op.stringOp]
    · cases h
  · cases h

end Go.VM
end

section
namespace Go.VM
open Go

/-! Quiet operations: they leave the world alone. -/
section
variable {C : Ctx} {ρ : Nat → Nat} {κ : Nat → Option Nat} {M : Mem} {w : World} {e : Env} {n : Nat} {a : Act}

theorem sizeT_run {P : Program} {t s : Nat} (h : sizeT P t = some s) (w : World) : (sizeOf t).run P w = .ok s w := by
  unfold sizeT at h
  split at h
  · rename_i i hi; cases h; simp [sizeOf, typeInfo, hi]
  · cases h

theorem zeroT_run {P : Program} {t : Nat} {z : Value} (h : zeroT P t = some z) (w : World) : (zeroValue t).run P w = .ok z w := by
  unfold zeroT at h
  split at h
  · rename_i i hi; simp [zeroValue, typeInfo, hi, h]
  · cases h

theorem aggT_run {P : Program} {t : Nat} {b : Bool} (h : aggT P t = some b) (w : World) : (isAgg t).run P w = .ok b w := by
  unfold aggT at h
  split at h
  · rename_i fs hu; cases h; simp [isAgg, run_underlying hu]
  · rename_i n el hu; cases h; simp [isAgg, run_underlying hu]
  · rename_i d h1 h2 hu
    cases h
    simp only [isAgg, Sem.run_bind, run_underlying hu, Result.andThen_ok]
    rfl
  · cases h

/-- the form in which execOp hands a value on -/
theorem exec_value {P : Program} {s : Sem Value} {x : Value} {w' : World} (h : s.run P w = .ok x w') :
    ((do let r ← s; pure (Next.value r)) : Sem Next).run P w = .ok (.value x) w' := by simp [h]

theorem known_ne {v : V} (h : v.known = true) : v ≠ .undef := by rintro rfl; cases h

theorem q_mov (hE : EnvRel ρ κ e n a) (hcl : EnvCl M.length e) (o : Oper) (x : Operand) (ho : o.op = .move x ∨ o.op = .assign x) :
    QOut ρ κ M.length w ((execOp a.eval o).run C.P w) ((compX x).ev e) := by
  refine ⟨a.eval x, ?_, fun hu => ev_real hE x hu, ev_cl hcl x⟩
  rcases ho with ho | ho <;> simp [execOp, ho]

theorem q_pick (hE : EnvRel ρ κ e n a) (hcl : EnvCl M.length e) (o : Oper) (c x y : Operand) (ho : o.op = .pick c x y) (t : Bool) (hc : (compX c).ev e = .bool t) :
    QOut ρ κ M.length w ((execOp a.eval o).run C.P w) (if t then (compX x).ev e else (compX y).ev e) := by
  have h := ev_real hE c (by rw [hc]; simp)
  rw [hc] at h
  simp only [V.real] at h
  refine ⟨if t then a.eval x else a.eval y, ?_, ?_, ?_⟩
  · simp [execOp, ho, h, asBool]
  · cases t
    · exact fun hu => ev_real hE y hu
    · exact fun hu => ev_real hE x hu
  · cases t
    · exact ev_cl hcl y
    · exact ev_cl hcl x

theorem q_nilck (hE : EnvRel ρ κ e n a) (hcl : EnvCl M.length e) (o : Oper) (x : Operand) (ho : o.op = .nilCheck x) (v : V) (M' : Mem)
    (h : vop C e M (.nilck (compX x)) = some (v, M')) :
    M' = M ∧ QOut ρ κ M.length w ((execOp a.eval o).run C.P w) v := by
  have hcx := ev_cl hcl x
  simp only [vop] at h
  split at h
  · rename_i b off hv
    cases h
    have hr := ev_real hE x (by rw [hv]; simp)
    rw [hv] at hr hcx
    refine ⟨rfl, QOut.known ?_ hcx⟩
    simp [execOp, ho, hr, V.real]
  · rename_i ad hv
    cases h
    have hr := ev_real hE x (by rw [hv]; simp)
    rw [hv] at hr hcx
    refine ⟨rfl, QOut.known ?_ hcx⟩
    simp [execOp, ho, hr, V.real]
  · rename_i f cap hv
    cases h
    have hr := ev_real hE x (by rw [hv]; simp)
    rw [hv] at hr hcx
    refine ⟨rfl, QOut.known ?_ hcx⟩
    simp [execOp, ho, hr, V.real]
  · cases h

theorem q_bin (hE : EnvRel ρ κ e n a) (o : Oper) (op : BinOp) (t t' : TypeId) (x y : Operand) (ho : o.op = .binOp op t x y t') (v : V)
    (h : vbin op ((compX x).ev e) ((compX y).ev e) = some v) :
    QOut ρ κ M.length w ((execOp a.eval o).run C.P w) v := by
  have hx : (compX x).ev e ≠ .undef := by intro hu; rw [hu] at h; simp [vbin] at h
  have hy : (compX y).ev e ≠ .undef := by intro hu; rw [hu] at h; unfold vbin at h; split at h <;> simp_all
  obtain ⟨hr, hn⟩ := run_bin (P := C.P) w op t _ _ v h ρ κ x y
  refine QOut.known ?_ (cl_nil hn)
  simp only [execOp, ho, ev_real hE x hx, ev_real hE y hy]
  exact exec_value hr

theorem q_un (hE : EnvRel ρ κ e n a) (o : Oper) (op : UnOp) (t : TypeId) (x : Operand) (ho : o.op = .unOp op t x) (v : V)
    (h : vun op ((compX x).ev e) = some v) :
    QOut ρ κ M.length w ((execOp a.eval o).run C.P w) v := by
  have hx : (compX x).ev e ≠ .undef := by intro hu; rw [hu] at h; simp [vun] at h
  have hr := ev_real hE x hx
  unfold vun at h
  split at h
  · rename_i k m hv
    rw [hv] at hr
    cases op <;> simp only at h <;> cases h
    · refine QOut.known ?_ (cl_nil rfl)
      simp [execOp, ho, hr, V.real, Op.unary, Op.intArith]
    · refine QOut.known ?_ (cl_nil rfl)
      simp [execOp, ho, hr, V.real, Op.unary, Op.intBits, bits]
  · rename_i b hv
    rw [hv] at hr
    cases op <;> simp only at h <;> cases h
    refine QOut.known ?_ (cl_nil rfl)
    simp [execOp, ho, hr, V.real, Op.unary]
  · cases h

theorem q_conv (hE : EnvRel ρ κ e n a) (o : Oper) (src dst : TypeId) (x : Operand) (ho : o.op = .convert src dst x) (d : TypeDesc) (k : IntKind)
    (hs : C.P.underlying src = some d) (hd : C.P.underlying dst = some (.int k)) (k' : IntKind) (m : Int) (h : (compX x).ev e = .int k' m) :
    QOut ρ κ M.length w ((execOp a.eval o).run C.P w) (.int k (k.wrap m)) := by
  have hr := ev_real hE x (by rw [h]; simp)
  rw [h] at hr
  refine QOut.known ?_ (cl_nil rfl)
  simp only [execOp, ho, hr, V.real]
  refine exec_value ?_
  simp only [convert, Sem.run_bind, run_underlying hs, run_underlying hd, Result.andThen_ok, Conv.intToInt]
  simp

theorem q_fld (hE : EnvRel ρ κ e n a) (hcl : EnvCl M.length e) (o : Oper) (s : TypeId) (x : Operand) (f : Nat) (ho : o.op = .fieldAddr s x f) (fs : Array Field) (fd : Field) (sz : Nat)
    (hs : C.P.underlying s = some (.struct fs)) (hf : fs[f]? = some fd) (hz : sizeT C.P fd.type = some (sz + 1)) (b off : Nat) (h : (compX x).ev e = .ptr b off) :
    QOut ρ κ M.length w ((execOp a.eval o).run C.P w) (.ptr b (off + fd.offset)) := by
  have hr := ev_real hE x (by rw [h]; simp)
  have hcx := ev_cl hcl x
  rw [h] at hr hcx
  refine QOut.known ?_ (by intro r hr; exact hcx r (by simpa [V.refs] using hr))
  simp only [execOp, ho, hr, V.real]
  refine exec_value ?_
  simp only [Instr.fieldAt, Sem.run_bind, run_underlying hs, Result.andThen_ok, hf, Instr.sureAddr, Sem.run_pure, fieldPlace, sizeT_run hz]
  simp [Addr.add_lit]

theorem q_fldR (hE : EnvRel ρ κ e n a) (o : Oper) (s : TypeId) (x : Operand) (f : Nat) (ho : o.op = .fieldAddr s x f) (fs : Array Field) (fd : Field) (sz : Nat)
    (hs : C.P.underlying s = some (.struct fs)) (hf : fs[f]? = some fd) (hz : sizeT C.P fd.type = some (sz + 1)) (ad : Addr) (h : (compX x).ev e = .raw (.pointer (some ad))) :
    QOut ρ κ M.length w ((execOp a.eval o).run C.P w) (.raw (.pointer (some (ad.add fd.offset)))) := by
  have hr := ev_real hE x (by rw [h]; simp)
  rw [h] at hr
  refine QOut.known ?_ (cl_nil rfl)
  simp only [execOp, ho, hr, V.real]
  refine exec_value ?_
  simp only [Instr.fieldAt, Sem.run_bind, run_underlying hs, Result.andThen_ok, hf, Instr.sureAddr, Sem.run_pure, fieldPlace, sizeT_run hz]
  simp [Addr.add_lit]

theorem q_idxA (hE : EnvRel ρ κ e n a) (hcl : EnvCl M.length e) (o : Oper) (t : TypeId) (x i : Operand) (ho : o.op = .indexAddr t x i) (len el sz : Nat)
    (hs : C.P.underlying t = some (.array len el)) (hz : sizeT C.P el = some sz) (v : V) (h : vidxA len sz ((compX x).ev e) ((compX i).ev e) = some v) :
    QOut ρ κ M.length w ((execOp a.eval o).run C.P w) v := by
  have hcx := ev_cl hcl x
  unfold vidxA at h
  split at h
  · rename_i b off k j hx hi
    split at h
    · rename_i hb
      cases h
      have hr := ev_real hE x (by rw [hx]; simp)
      have hri := ev_real hE i (by rw [hi]; simp)
      rw [hx] at hr hcx
      rw [hi] at hri
      refine QOut.known ?_ (by intro r hr; exact hcx r (by simpa [V.refs] using hr))
      simp only [execOp, ho, hr, hri, V.real]
      refine exec_value ?_
      simp only [Instr.indexAt, asIntOf, Sem.run_bind, Sem.run_pure, Result.andThen_ok, run_underlying hs, Instr.sureAddr, hb.1, hb.2, and_self, if_true, sizeT_run hz]
      simp [Addr.add_lit]
    · cases h
  · rename_i ad k j hx hi
    split at h
    · rename_i hb
      cases h
      have hr := ev_real hE x (by rw [hx]; simp)
      have hri := ev_real hE i (by rw [hi]; simp)
      rw [hx] at hr hcx
      rw [hi] at hri
      refine QOut.known ?_ (cl_nil rfl)
      simp only [execOp, ho, hr, hri, V.real]
      refine exec_value ?_
      simp only [Instr.indexAt, asIntOf, Sem.run_bind, Sem.run_pure, Result.andThen_ok, run_underlying hs, Instr.sureAddr, hb.1, hb.2, and_self, if_true, sizeT_run hz]
    · cases h
  · cases h

theorem q_idxS (hR : Rel C ρ κ M w) (hE : EnvRel ρ κ e n a) (hcl : EnvCl M.length e) (o : Oper) (t : TypeId) (x i : Operand) (ho : o.op = .indexAddr t x i) (el sz : Nat)
    (hs : C.P.underlying t = some (.slice el)) (hz : sizeT C.P el = some sz) (v : V) (h : vidxS M sz ((compX x).ev e) ((compX i).ev e) = some v) :
    QOut ρ κ M.length w ((execOp a.eval o).run C.P w) v := by
  have hcx := ev_cl hcl x
  unfold vidxS at h
  split at h
  · rename_i b off len cap k j hx hi
    split at h
    · rename_i hb
      cases h
      have hr := ev_real hE x (by rw [hx]; simp)
      have hri := ev_real hE i (by rw [hi]; simp)
      rw [hx] at hr hcx
      rw [hi] at hri
      refine QOut.known ?_ (by intro r hr; exact hcx r (by simpa [V.refs] using hr))
      simp only [execOp, ho, hr, hri, V.real]
      refine exec_value ?_
      simp only [Instr.indexAt, asIntOf, Sem.run_bind, Sem.run_pure, Result.andThen_ok, run_underlying hs, hb.1, hb.2, and_self, if_true, sizeT_run hz]
      simp [Addr.add_lit]
    · cases h
  · rename_i b len k j hx hi
    split at h
    · rename_i k2 xs T hM
      split at h
      · rename_i hb
        cases h
        have hr := ev_real hE x (by rw [hx]; simp)
        have hri := ev_real hE i (by rw [hi]; simp)
        rw [hx] at hr hcx
        rw [hi] at hri
        have hbk := hR.blk b _ hM
        rcases hbk with ⟨_, hnil⟩ | ⟨c, cells, hk, _⟩
        · subst hnil
          have := hb.1; simp at this
          omega
        refine QOut.known ?_ (by intro r hr; exact hcx r (by simpa [V.refs] using hr))
        simp only [execOp, ho, hr, hri, V.real, hk]
        refine exec_value ?_
        simp only [Instr.indexAt, asIntOf, Sem.run_bind, Sem.run_pure, Result.andThen_ok, run_underlying hs, hb.2.1, hb.2.2, and_self, if_true, sizeT_run hz]
        simp [Addr.add_lit]
      · cases h
    · cases h
  · rename_i ad len cap k j hx hi
    split at h
    · rename_i hb
      cases h
      have hr := ev_real hE x (by rw [hx]; simp)
      have hri := ev_real hE i (by rw [hi]; simp)
      rw [hx] at hr hcx
      rw [hi] at hri
      refine QOut.known ?_ (cl_nil rfl)
      simp only [execOp, ho, hr, hri, V.real]
      refine exec_value ?_
      simp only [Instr.indexAt, asIntOf, Sem.run_bind, Sem.run_pure, Result.andThen_ok, run_underlying hs, hb.1, hb.2, and_self, if_true, sizeT_run hz]
    · cases h
  · cases h

end
end Go.VM
end
