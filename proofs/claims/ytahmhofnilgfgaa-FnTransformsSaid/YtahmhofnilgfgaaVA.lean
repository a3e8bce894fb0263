/-
  The values and the memory of a small machine that stands over the model. Proved outright, under no condition but what each theorem names.
-/
import Derived.WalkKit
namespace Go.VM
open Go

/-! Values whose block numbers are places in a list of blocks. -/
inductive V where
  | undef
  | bool (b : Bool)
  | int (k : IntKind) (n : Int)
  | str (s : ByteArray)
  | nilp
  | ptr (b o : Nat)
  | nils
  | slice (b o n c : Nat)
  | vec (b n : Nat)
  | fn (f : Nat) (cap : List V)
  | nilf
  | iface (t : Nat) (v : V)
  | nili
  | agg (cs : List V)
  | ints (k : IntKind) (xs : List Int)
  | tup (vs : List V)
  | raw (v : Value)
  deriving Inhabited

def intVals (k : IntKind) (xs : List Int) : List Value := xs.map (Value.int k)

mutual
def V.real (ρ : Nat → Nat) (κ : Nat → Option Nat) : V → Value
  | .undef => Go.undef
  | .bool b => .bool b
  | .int k n => .int k n
  | .str s => .string s
  | .nilp => .pointer none
  | .ptr b o => .pointer (some ⟨ρ b, o, none⟩)
  | .nils => .slice none 0 0
  | .slice b o n c => .slice (some ⟨ρ b, o, none⟩) n c
  | .vec b n => match κ b with
    | none => .slice none 0 0
    | some c => .slice (some ⟨ρ b, 0, none⟩) n c
  | .fn f cap => .func (.func f) #[] (V.reals ρ κ cap).toArray
  | .nilf => .nilFunc
  | .iface t v => .iface t (V.real ρ κ v)
  | .nili => .nilIface
  | .agg cs => .agg (V.reals ρ κ cs).toArray
  | .ints k xs => .agg (intVals k xs).toArray
  | .tup vs => .tuple (V.reals ρ κ vs).toArray
  | .raw v => v
def V.reals (ρ : Nat → Nat) (κ : Nat → Option Nat) : List V → List Value
  | [] => []
  | v :: vs => V.real ρ κ v :: V.reals ρ κ vs
end

mutual
def V.refs : V → List Nat
  | .ptr b _ => [b]
  | .slice b _ _ _ => [b]
  | .vec b _ => [b]
  | .fn _ cap => V.refsL cap
  | .iface _ v => V.refs v
  | .agg cs => V.refsL cs
  | .tup vs => V.refsL vs
  | _ => []
def V.refsL : List V → List Nat
  | [] => []
  | v :: vs => V.refs v ++ V.refsL vs
end

/-- All places below n. -/
def V.cl (n : Nat) (v : V) : Prop := ∀ b ∈ v.refs, b < n
def V.clL (n : Nat) (vs : List V) : Prop := ∀ b ∈ V.refsL vs, b < n

mutual
def V.ren (σ : Nat → Nat) : V → V
  | .ptr b o => .ptr (σ b) o
  | .slice b o n c => .slice (σ b) o n c
  | .vec b n => .vec (σ b) n
  | .fn f cap => .fn f (V.renL σ cap)
  | .iface t v => .iface t (V.ren σ v)
  | .agg cs => .agg (V.renL σ cs)
  | .tup vs => .tup (V.renL σ vs)
  | .undef => .undef
  | .bool b => .bool b
  | .int k n => .int k n
  | .str s => .str s
  | .nilp => .nilp
  | .nils => .nils
  | .nilf => .nilf
  | .nili => .nili
  | .ints k xs => .ints k xs
  | .raw v => .raw v
def V.renL (σ : Nat → Nat) : List V → List V
  | [] => []
  | v :: vs => V.ren σ v :: V.renL σ vs
end

theorem V.reals_map (ρ κ) : ∀ vs, V.reals ρ κ vs = vs.map (V.real ρ κ)
  | [] => rfl
  | v :: vs => by simp [V.reals, V.reals_map ρ κ vs]
theorem V.renL_map (σ) : ∀ vs, V.renL σ vs = vs.map (V.ren σ)
  | [] => rfl
  | v :: vs => by simp [V.renL, V.renL_map σ vs]
theorem V.mem_refsL {b : Nat} : ∀ {vs : List V}, b ∈ V.refsL vs ↔ ∃ v ∈ vs, b ∈ v.refs
  | [] => by simp [V.refsL]
  | v :: vs => by simp [V.refsL, V.mem_refsL (vs := vs)]

theorem V.clL_iff {n : Nat} {vs : List V} : V.clL n vs ↔ ∀ v ∈ vs, v.cl n := by
  unfold V.clL V.cl
  constructor
  · intro h v hv b hb; exact h b (V.mem_refsL.2 ⟨v, hv, hb⟩)
  · intro h b hb
    obtain ⟨v, hv, hb⟩ := V.mem_refsL.1 hb
    exact h v hv b hb

mutual
theorem V.real_congr {ρ ρ' : Nat → Nat} {κ κ' : Nat → Option Nat} : ∀ (v : V), (∀ b ∈ v.refs, ρ b = ρ' b ∧ κ b = κ' b) → v.real ρ κ = v.real ρ' κ'
  | .ptr b o, h => by simp only [V.real]; rw [(h b (by simp [V.refs])).1]
  | .slice b o n c, h => by simp only [V.real]; rw [(h b (by simp [V.refs])).1]
  | .vec b n, h => by simp only [V.real]; rw [(h b (by simp [V.refs])).1, (h b (by simp [V.refs])).2]
  | .fn f cap, h => by simp only [V.real]; rw [V.reals_congr cap (by simpa [V.refs] using h)]
  | .iface t v, h => by simp only [V.real]; rw [V.real_congr v (by simpa [V.refs] using h)]
  | .agg cs, h => by simp only [V.real]; rw [V.reals_congr cs (by simpa [V.refs] using h)]
  | .tup vs, h => by simp only [V.real]; rw [V.reals_congr vs (by simpa [V.refs] using h)]
  | .undef, _ => rfl
  | .bool _, _ => rfl
  | .int _ _, _ => rfl
  | .str _, _ => rfl
  | .nilp, _ => rfl
  | .nils, _ => rfl
  | .nilf, _ => rfl
  | .nili, _ => rfl
  | .ints _ _, _ => rfl
  | .raw _, _ => rfl
theorem V.reals_congr {ρ ρ' : Nat → Nat} {κ κ' : Nat → Option Nat} : ∀ (vs : List V), (∀ b ∈ V.refsL vs, ρ b = ρ' b ∧ κ b = κ' b) → V.reals ρ κ vs = V.reals ρ' κ' vs
  | [], _ => rfl
  | v :: vs, h => by
    simp only [V.reals]
    rw [V.real_congr v (fun b hb => h b (by simp [V.refsL, hb])), V.reals_congr vs (fun b hb => h b (by simp [V.refsL, hb]))]
end

mutual
theorem V.real_ren {ρ : Nat → Nat} {κ : Nat → Option Nat} {σ : Nat → Nat} : ∀ (v : V), (v.ren σ).real ρ κ = v.real (fun i => ρ (σ i)) (fun i => κ (σ i))
  | .ptr b o => rfl
  | .slice b o n c => rfl
  | .vec b n => rfl
  | .fn f cap => by simp only [V.real, V.ren]; rw [V.reals_ren cap]
  | .iface t v => by simp only [V.real, V.ren]; rw [V.real_ren v]
  | .agg cs => by simp only [V.real, V.ren]; rw [V.reals_ren cs]
  | .tup vs => by simp only [V.real, V.ren]; rw [V.reals_ren vs]
  | .undef => rfl
  | .bool _ => rfl
  | .int _ _ => rfl
  | .str _ => rfl
  | .nilp => rfl
  | .nils => rfl
  | .nilf => rfl
  | .nili => rfl
  | .ints _ _ => rfl
  | .raw _ => rfl
theorem V.reals_ren {ρ : Nat → Nat} {κ : Nat → Option Nat} {σ : Nat → Nat} : ∀ (vs : List V), V.reals ρ κ (V.renL σ vs) = V.reals (fun i => ρ (σ i)) (fun i => κ (σ i)) vs
  | [] => rfl
  | v :: vs => by simp only [V.reals, V.renL]; rw [V.real_ren v, V.reals_ren vs]
end

mutual
theorem V.refs_ren {σ : Nat → Nat} : ∀ (v : V), (v.ren σ).refs = v.refs.map σ
  | .ptr b o => rfl
  | .slice b o n c => rfl
  | .vec b n => rfl
  | .fn f cap => by simp only [V.refs, V.ren]; rw [V.refsL_ren cap]
  | .iface t v => by simp only [V.refs, V.ren]; rw [V.refs_ren v]
  | .agg cs => by simp only [V.refs, V.ren]; rw [V.refsL_ren cs]
  | .tup vs => by simp only [V.refs, V.ren]; rw [V.refsL_ren vs]
  | .undef => rfl
  | .bool _ => rfl
  | .int _ _ => rfl
  | .str _ => rfl
  | .nilp => rfl
  | .nils => rfl
  | .nilf => rfl
  | .nili => rfl
  | .ints _ _ => rfl
  | .raw _ => rfl
theorem V.refsL_ren {σ : Nat → Nat} : ∀ (vs : List V), V.refsL (V.renL σ vs) = (V.refsL vs).map σ
  | [] => rfl
  | v :: vs => by simp only [V.refsL, V.renL, List.map_append]; rw [V.refs_ren v, V.refsL_ren vs]
end

mutual
theorem V.ren_congr {σ σ' : Nat → Nat} : ∀ (v : V), (∀ b ∈ v.refs, σ b = σ' b) → v.ren σ = v.ren σ'
  | .ptr b o, h => by simp only [V.ren]; rw [h b (by simp [V.refs])]
  | .slice b o n c, h => by simp only [V.ren]; rw [h b (by simp [V.refs])]
  | .vec b n, h => by simp only [V.ren]; rw [h b (by simp [V.refs])]
  | .fn f cap, h => by simp only [V.ren]; rw [V.renL_congr cap (by simpa [V.refs] using h)]
  | .iface t v, h => by simp only [V.ren]; rw [V.ren_congr v (by simpa [V.refs] using h)]
  | .agg cs, h => by simp only [V.ren]; rw [V.renL_congr cs (by simpa [V.refs] using h)]
  | .tup vs, h => by simp only [V.ren]; rw [V.renL_congr vs (by simpa [V.refs] using h)]
  | .undef, _ => rfl
  | .bool _, _ => rfl
  | .int _ _, _ => rfl
  | .str _, _ => rfl
  | .nilp, _ => rfl
  | .nils, _ => rfl
  | .nilf, _ => rfl
  | .nili, _ => rfl
  | .ints _ _, _ => rfl
  | .raw _, _ => rfl
theorem V.renL_congr {σ σ' : Nat → Nat} : ∀ (vs : List V), (∀ b ∈ V.refsL vs, σ b = σ' b) → V.renL σ vs = V.renL σ' vs
  | [], _ => rfl
  | v :: vs, h => by
    simp only [V.renL]
    rw [V.ren_congr v (fun b hb => h b (by simp [V.refsL, hb])), V.renL_congr vs (fun b hb => h b (by simp [V.refsL, hb]))]
end

/-- A block. -/
inductive Blk where
  | own (cs : List V) (T : Nat)
  | ints (k : IntKind) (xs : List Int) (T : Nat)
  | vec (k : IntKind) (xs : List Int) (T : Nat)
  deriving Inhabited

abbrev Mem := List Blk

def Blk.refs : Blk → List Nat
  | .own cs _ => V.refsL cs
  | _ => []

def Blk.ren (σ : Nat → Nat) : Blk → Blk
  | .own cs T => .own (V.renL σ cs) T
  | .ints k xs T => .ints k xs T
  | .vec k xs T => .vec k xs T

/-- What a block says of the world. -/
def Blk.holds (ρ : Nat → Nat) (κ : Nat → Option Nat) (i : Nat) (w : World) : Blk → Prop
  | .own cs T => ∃ cells : Array Value, w.heap[ρ i]? = some (.cells cells T (0, 0)) ∧ cells.size = cs.length ∧ ∀ (j : Nat) (v : V), cs[j]? = some v → v ≠ V.undef → cells[j]? = some (v.real ρ κ)
  | .ints k xs T => w.heap[ρ i]? = some (.cells (intVals k xs).toArray T (0, 0))
  | .vec k xs T => (κ i = none ∧ xs = []) ∨ ∃ (c : Nat) (cells : Array Value), κ i = some c ∧ w.heap[ρ i]? = some (.cells cells T (0, 0)) ∧
      xs.length ≤ c ∧ c ≤ maxLen ∧ cells.size = c ∧ cells.toList.take xs.length = intVals k xs

def Blk.live (c : Option Nat) : Blk → Prop
  | .vec _ _ _ => c ≠ none
  | _ => True

/-- Is there a block behind place i? -/
def alive (κ : Nat → Option Nat) (M : Mem) (i : Nat) : Prop :=
  match M[i]? with
  | some B => B.live (κ i)
  | none => False

theorem alive_of {κ : Nat → Option Nat} {M : Mem} {i : Nat} {B : Blk} (h : M[i]? = some B) : alive κ M i ↔ B.live (κ i) := by
  unfold alive
  simp only [h]

structure Ctx where
  P : Program
  ext : Addr → Option Value

structure Rel (C : Ctx) (ρ : Nat → Nat) (κ : Nat → Option Nat) (M : Mem) (w : World) : Prop where
  blk : ∀ (i : Nat) (b : Blk), M[i]? = some b → b.holds ρ κ i w
  inj : ∀ i j, alive κ M i → alive κ M j → ρ i = ρ j → i = j
  ext : ∀ a v, C.ext a = some v → w.cell? a = some v ∧ ∀ i, alive κ M i → ρ i ≠ a.block
  cl : ∀ (i : Nat) (b : Blk), M[i]? = some b → ∀ r ∈ b.refs, r < M.length

theorem alive_lt {κ M i} (h : alive κ M i) : i < M.length := by
  unfold alive at h
  rcases Nat.lt_or_ge i M.length with h' | h'
  · exact h'
  · rw [List.getElem?_eq_none h'] at h; exact h.elim

theorem Rel.lt {C : Ctx} {ρ κ M w} (h : Rel C ρ κ M w) {i : Nat} (ha : alive κ M i) : ρ i < w.heap.size := by
  have hl := alive_lt ha
  have hM : M[i]? = some M[i] := by simp [hl]
  rw [alive_of hM] at ha
  have hb := h.blk i M[i] hM
  cases hB : M[i] with
  | own cs T =>
    rw [hB] at hb
    obtain ⟨cells, hc, _⟩ := hb
    exact (Array.getElem?_eq_some_iff.1 hc).1
  | ints k xs T =>
    rw [hB] at hb
    exact (Array.getElem?_eq_some_iff.1 hb).1
  | vec k xs T =>
    rw [hB] at hb ha
    rcases hb with ⟨hn, _⟩ | ⟨c, cells, _, hc, _⟩
    · exact absurd hn ha
    · exact (Array.getElem?_eq_some_iff.1 hc).1

structure Step (K : Nat → Prop) (ρ : Nat → Nat) (κ : Nat → Option Nat) (M : Mem) (w : World) (ρ' : Nat → Nat) (κ' : Nat → Option Nat) (M' : Mem) (w' : World) : Prop where
  os : w'.os = w.os
  tape : w'.tape = w.tape
  output : w'.output = w.output
  size : w.heap.size ≤ w'.heap.size
  keep : ∀ r, r < w.heap.size → (∀ i, alive κ M i → ρ i ≠ r) → w'.heap[r]? = w.heap[r]?
  own : ∀ i, alive κ' M' i → (∃ j, alive κ M j ∧ ρ' i = ρ j) ∨ w.heap.size ≤ ρ' i
  agree : ∀ i, K i → ρ' i = ρ i ∧ κ' i = κ i

theorem Step.refl (K ρ κ M w) : Step K ρ κ M w ρ κ M w :=
  ⟨rfl, rfl, rfl, Nat.le_refl _, fun _ _ _ => rfl, fun i h => .inl ⟨i, h, rfl⟩, fun _ _ => ⟨rfl, rfl⟩⟩

theorem Step.trans {K ρ κ M w ρ₁ κ₁ M₁ w₁ ρ₂ κ₂ M₂ w₂} (h : Step K ρ κ M w ρ₁ κ₁ M₁ w₁) (h' : Step K ρ₁ κ₁ M₁ w₁ ρ₂ κ₂ M₂ w₂) :
    Step K ρ κ M w ρ₂ κ₂ M₂ w₂ := by
  refine ⟨h'.os.trans h.os, h'.tape.trans h.tape, h'.output.trans h.output, Nat.le_trans h.size h'.size, ?_, ?_, ?_⟩
  · intro r hr hn
    rw [h'.keep r (Nat.lt_of_lt_of_le hr h.size) ?_, h.keep r hr hn]
    intro i hi he
    rcases h.own i hi with ⟨j, hj, e⟩ | hge
    · exact hn j hj (e ▸ he)
    · omega
  · intro i hi
    rcases h'.own i hi with ⟨j, hj, e⟩ | hge
    · rcases h.own j hj with ⟨k, hk, e'⟩ | hge
      · exact .inl ⟨k, hk, e.trans e'⟩
      · exact .inr (e ▸ hge)
    · exact .inr (Nat.le_trans h.size hge)
  · intro i hi
    obtain ⟨a, b⟩ := h.agree i hi
    obtain ⟨a', b'⟩ := h'.agree i hi
    exact ⟨a'.trans a, b'.trans b⟩

end Go.VM
