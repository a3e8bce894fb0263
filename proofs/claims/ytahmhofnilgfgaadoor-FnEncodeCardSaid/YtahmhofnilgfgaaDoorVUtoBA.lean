/-
  More rules for simp; plain facts on rows of bits. No condition but what each theorem names.
-/
import Derived.Test.YtahmhofnilgfgaaDoorVPtoVT
set_option linter.unusedVariables false
set_option linter.unusedSimpArgs false
section
namespace Go.VM
open Go

/-! More rules for simp: stores to a block at hand, names that are forgotten. -/
def putB (M : Mem) (b o : Nat) (v : V) : Option Blk → Option (V × Mem)
  | some (.own cs T) => if o < cs.length then some (.undef, M.set b (.own (cs.set o v) T)) else none
  | some (.ints k xs T) => match v with
    | .int k' m => if k = k' ∧ o < xs.length then some (.undef, M.set b (.ints k (xs.set o m) T)) else none
    | _ => none
  | some (.vec k xs T) => match v with
    | .int k' m => if k = k' ∧ o < xs.length then some (.undef, M.set b (.vec k (xs.set o m) T)) else none
    | _ => none
  | none => none

section
variable {C : Ctx} {M : Mem} {e : Env} {b o n : Nat} {k k' : IntKind} {m : Int} {v : V} {cs : List V} {xs : List Int} {T : Nat} {mvc : List Nat}

theorem stGo_one (hv : v.one = true) (hcells : v.cells = some [v]) (hi : ∀ k xs, v ≠ .ints k xs) : stGo M 1 v (.ptr b o) = putB M b o v M[b]? := by
  simp only [stGo, Mem.put]
  cases hM : M[b]? with
  | none => rfl
  | some B =>
    cases B with
    | own cs T =>
      simp only [putB, hv, hcells]
      by_cases h : o < cs.length
      · simp [h]
      · have : ¬ (o + 1 ≤ cs.length) := by omega
        simp [h, this]
    | ints k xs T =>
      simp only [putB]
      cases v with
      | int k' m =>
        simp only
        by_cases h : k = k' ∧ o < xs.length
        · rw [if_pos ⟨h.1, trivial, h.2⟩, if_pos h]
        · rw [if_neg (fun h' => h ⟨h'.1, h'.2.2⟩), if_neg h]
      | ints k' ys => exact absurd rfl (hi _ _)
      | _ => rfl
    | vec k xs T =>
      simp only [putB]
      cases v with
      | int k' m =>
        simp only
        by_cases h : k = k' ∧ o < xs.length
        · rw [if_pos ⟨h.1, trivial, h.2⟩, if_pos h]
        · rw [if_neg (fun h' => h ⟨h'.1, h'.2.2⟩), if_neg h]
      | _ => rfl

theorem stGo_int : stGo M 1 (.int k m) (.ptr b o) = putB M b o (.int k m) M[b]? := stGo_one rfl rfl (fun _ _ => by simp)
theorem stGo_bool {t} : stGo M 1 (.bool t) (.ptr b o) = putB M b o (.bool t) M[b]? := stGo_one rfl rfl (fun _ _ => by simp)
theorem stGo_ptr {b' o'} : stGo M 1 (.ptr b' o') (.ptr b o) = putB M b o (.ptr b' o') M[b]? := stGo_one rfl rfl (fun _ _ => by simp)
theorem stGo_vec {b' n'} : stGo M 1 (.vec b' n') (.ptr b o) = putB M b o (.vec b' n') M[b]? := stGo_one rfl rfl (fun _ _ => by simp)
theorem stGo_slice {b' o' n' c'} : stGo M 1 (.slice b' o' n' c') (.ptr b o) = putB M b o (.slice b' o' n' c') M[b]? := stGo_one rfl rfl (fun _ _ => by simp)
theorem stGo_iface {t u} : stGo M 1 (.iface t u) (.ptr b o) = putB M b o (.iface t u) M[b]? := stGo_one rfl rfl (fun _ _ => by simp)
theorem stGo_nili : stGo M 1 .nili (.ptr b o) = putB M b o .nili M[b]? := stGo_one rfl rfl (fun _ _ => by simp)
theorem stGo_nilp : stGo M 1 .nilp (.ptr b o) = putB M b o .nilp M[b]? := stGo_one rfl rfl (fun _ _ => by simp)
theorem stGo_nils : stGo M 1 .nils (.ptr b o) = putB M b o .nils M[b]? := stGo_one rfl rfl (fun _ _ => by simp)
theorem vres_nil : vres e M [] = some (.tup []) := rfl
theorem putB_own : putB M b o v (some (.own cs T)) = if o < cs.length then some (.undef, M.set b (.own (cs.set o v) T)) else none := rfl
theorem putB_ints (h : o < xs.length) : putB M b o (.int k m) (some (.ints k xs T)) = some (.undef, M.set b (.ints k (xs.set o m) T)) := by simp [putB, h]

/-- a value whose blocks have moved is forgotten -/
def V.drops (mvc : List Nat) (v : V) : V := if v.refs.any (mvc.contains ·) then .undef else v
theorem erases_env_nil : Env.erases [] (b :: mvc) = [] := rfl
theorem erases_env_cons {j} {r : Env} : Env.erases ((j, v) :: r) (b :: mvc) = (j, v.drops (b :: mvc)) :: Env.erases r (b :: mvc) := rfl
theorem drops_undef : V.drops mvc .undef = .undef := rfl
theorem drops_int : V.drops mvc (.int k m) = .int k m := rfl
theorem drops_bool {t} : V.drops mvc (.bool t) = .bool t := rfl
theorem drops_str {s} : V.drops mvc (.str s) = .str s := rfl
theorem drops_nilp : V.drops mvc .nilp = .nilp := rfl
theorem drops_nils : V.drops mvc .nils = .nils := rfl
theorem drops_nili : V.drops mvc .nili = .nili := rfl
theorem drops_nilf : V.drops mvc .nilf = .nilf := rfl
theorem drops_ints : V.drops mvc (.ints k xs) = .ints k xs := rfl
theorem drops_raw {u} : V.drops mvc (.raw u) = .raw u := rfl
theorem drops_ptr : V.drops mvc (.ptr b o) = if mvc.contains b then .undef else .ptr b o := by simp [V.drops, V.refs]
theorem drops_vec : V.drops mvc (.vec b n) = if mvc.contains b then .undef else .vec b n := by simp [V.drops, V.refs]
theorem drops_slice {c} : V.drops mvc (.slice b o n c) = if mvc.contains b then .undef else .slice b o n c := by simp [V.drops, V.refs]

theorem drops_iface {t} : V.drops mvc (.iface t (.ptr b o)) = if mvc.contains b then .undef else .iface t (.ptr b o) := by simp [V.drops, V.refs]
theorem erase_mem_nil : Mem.erase [] b = [] := rfl
theorem erase_mem_cons {B : Blk} {r : Mem} : Mem.erase (B :: r) b = B.erase b :: Mem.erase r b := rfl
theorem erase_own : Blk.erase b (.own cs T) = .own (cs.map (V.eraseB b)) T := rfl
theorem erase_ints : Blk.erase b (.ints k xs T) = .ints k xs T := rfl
theorem erase_vec : Blk.erase b (.vec k xs T) = .vec k xs T := rfl
theorem eraseB_undef : V.eraseB b .undef = .undef := rfl
theorem eraseB_int : V.eraseB b (.int k m) = .int k m := rfl
theorem eraseB_bool {t} : V.eraseB b (.bool t) = .bool t := rfl
theorem eraseB_str {s} : V.eraseB b (.str s) = .str s := rfl
theorem eraseB_nilp : V.eraseB b .nilp = .nilp := rfl
theorem eraseB_nils : V.eraseB b .nils = .nils := rfl
theorem eraseB_nili : V.eraseB b .nili = .nili := rfl
theorem eraseB_raw {u} : V.eraseB b (.raw u) = .raw u := rfl
theorem eraseB_ptr {b'} : V.eraseB b (.ptr b' o) = if (b' == b) = true then .undef else .ptr b' o := by
  simp only [V.eraseB, V.refs, List.contains_cons, List.contains_nil, Bool.or_false]
  by_cases h : b' = b
  · subst h; simp
  · have : ¬ b = b' := fun h' => h h'.symm
    simp [h, this]
theorem eraseB_vec {b'} : V.eraseB b (.vec b' n) = if (b' == b) = true then .undef else .vec b' n := by
  simp only [V.eraseB, V.refs, List.contains_cons, List.contains_nil, Bool.or_false]
  by_cases h : b' = b
  · subst h; simp
  · have : ¬ b = b' := fun h' => h h'.symm
    simp [h, this]
theorem eraseB_slice {b' c} : V.eraseB b (.slice b' o n c) = if (b' == b) = true then .undef else .slice b' o n c := by
  simp only [V.eraseB, V.refs, List.contains_cons, List.contains_nil, Bool.or_false]
  by_cases h : b' = b
  · subst h; simp
  · have : ¬ b = b' := fun h' => h h'.symm
    simp [h, this]
/-- one number in a new row -/
theorem vfill_one {z : Int} {r : List (Nat × Nat × V)} : vfill ((0, 1, .int k m) :: r) (.ints k [z]) = vfill r (.ints k [m]) := by simp [vfill]
end
end Go.VM
end

section
/-
  Bits written one by one, and by bytes: plain facts, no program in sight. No condition.
-/
namespace Go.Bits

/-- the last n bits of x, the highest first -/
def bitsOf (x : Nat) : Nat → List Bool
  | 0 => []
  | n + 1 => x.testBit n :: bitsOf x n

def val : List Bool → Nat
  | [] => 0
  | b :: bs => b.toNat * 2 ^ bs.length + val bs

theorem bitsOf_length (x : Nat) : ∀ n, (bitsOf x n).length = n
  | 0 => rfl
  | n + 1 => by simp [bitsOf, bitsOf_length x n]

theorem val_lt : ∀ bs : List Bool, val bs < 2 ^ bs.length
  | [] => by simp [val]
  | b :: bs => by
    have := val_lt bs
    have hb : b.toNat ≤ 1 := Bool.toNat_le b
    have h2 : b.toNat * 2 ^ bs.length ≤ 1 * 2 ^ bs.length := Nat.mul_le_mul_right _ hb
    simp only [val, List.length_cons, Nat.pow_succ]
    omega

theorem val_append : ∀ (a b : List Bool), val (a ++ b) = val a * 2 ^ b.length + val b
  | [], b => by simp [val]
  | x :: a, b => by
    simp only [List.cons_append, val, val_append a b, List.length_append, Nat.pow_add, Nat.add_mul, Nat.mul_assoc]
    omega

theorem val_bitsOf (x : Nat) : ∀ n, val (bitsOf x n) = x % 2 ^ n
  | 0 => by simp [bitsOf, val, Nat.mod_one]
  | n + 1 => by
    simp only [bitsOf, val, bitsOf_length, val_bitsOf x n]
    rw [Nat.mod_pow_succ, Nat.testBit_eq_decide_div_mod_eq]
    have : x / 2 ^ n % 2 = 0 ∨ x / 2 ^ n % 2 = 1 := by omega
    rcases this with h | h <;> simp [h] <;> omega

/-- a byte, a nought behind one of 255 -/
def stuff (v : Nat) : List Int := if v = 255 then [255, 0] else [(v : Int)]

/-- one bit more: what waits, what is written -/
def feed1 (s : List Bool × List Int) (b : Bool) : List Bool × List Int :=
  if s.1.length = 7 then ([], s.2 ++ stuff (val (s.1 ++ [b]))) else (s.1 ++ [b], s.2)

def feed (s : List Bool × List Int) (bs : List Bool) : List Bool × List Int := bs.foldl feed1 s

theorem feed_nil (s) : feed s [] = s := rfl
theorem feed_cons (s b bs) : feed s (b :: bs) = feed (feed1 s b) bs := rfl
theorem feed_append (s a b) : feed s (a ++ b) = feed (feed s a) b := by simp [feed, List.foldl_append]

theorem feed1_lt {s : List Bool × List Int} (h : s.1.length < 8) (b : Bool) : (feed1 s b).1.length < 8 := by
  unfold feed1; split
  · simp
  · simp; omega

theorem feed_lt : ∀ (bs : List Bool) {s : List Bool × List Int}, s.1.length < 8 → (feed s bs).1.length < 8
  | [], _, h => h
  | b :: bs, _, h => feed_lt bs (feed1_lt h b)

/-- by bytes -/
def loop8 : Nat → List Bool → List Int → List Bool × List Int
  | 0, l, out => (l, out)
  | k + 1, l, out => if 8 ≤ l.length then loop8 k (l.drop 8) (out ++ stuff (val (l.take 8))) else (l, out)

theorem loop8_short {k : Nat} {l : List Bool} {out : List Int} (h : l.length < 8) : loop8 k l out = (l, out) := by
  cases k with
  | zero => rfl
  | succ k => simp only [loop8]; rw [if_neg (by omega)]

theorem feed_loop8 : ∀ (bs p : List Bool) (out : List Int) (k : Nat), p.length < 8 → p.length + bs.length < 8 * (k + 1) → feed (p, out) bs = loop8 k (p ++ bs) out
  | [], p, out, k, hp, _ => by simp only [feed_nil, List.append_nil]; rw [loop8_short hp]
  | b :: bs, p, out, k, hp, hk => by
    rw [feed_cons]
    unfold feed1
    simp only
    split
    · rename_i h7
      cases k with
      | zero => simp at hk; omega
      | succ k =>
        rw [feed_loop8 bs [] _ k (by simp) (by simp at hk ⊢; omega)]
        simp only [loop8, List.nil_append]
        rw [if_pos (by simp; omega)]
        have h1 : (p ++ b :: bs).take 8 = p ++ [b] := by
          rw [show p ++ b :: bs = (p ++ [b]) ++ bs by simp, List.take_left' (by simp [h7])]
        have h2 : (p ++ b :: bs).drop 8 = bs := by
          rw [show p ++ b :: bs = (p ++ [b]) ++ bs by simp, List.drop_left' (by simp [h7])]
        rw [h1, h2]
    · rename_i h7
      rw [feed_loop8 bs (p ++ [b]) out k (by simp; omega) (by simp at hk ⊢; omega)]
      simp

/-- padding by ones: a byte filled up, or seven more ones of which the rest waits: the same is written -/
theorem pad_same (p : List Bool) (out : List Int) (hp : p.length < 8) : (feed (p, out) (List.replicate 7 true)).2 = (feed (p, out) (List.replicate (if p.length = 0 then 0 else 8 - p.length) true)).2 := by
  by_cases h0 : p.length = 0
  · have : p = [] := List.length_eq_zero_iff.1 h0
    subst this
    rfl
  · rw [if_neg h0]
    obtain ⟨m, hm⟩ : ∃ m, 7 = (8 - p.length) + m := ⟨p.length - 1, by omega⟩
    have hr : List.replicate 7 true = List.replicate (8 - p.length) true ++ List.replicate m true := (List.eq_replicate_iff.2 ⟨by simp; omega, by intro b hb; simp at hb; exact hb.2⟩).symm
    rw [hr, feed_append]
    have h1 : feed (p, out) (List.replicate (8 - p.length) true) = ([], out ++ stuff (val (p ++ List.replicate (8 - p.length) true))) := by
      rw [feed_loop8 _ _ _ 1 hp (by simp; omega)]
      simp only [loop8]
      rw [if_pos (by simp; omega), List.take_of_length_le (by simp; omega), List.drop_eq_nil_of_le (by simp; omega)]
    rw [h1]
    rw [feed_loop8 _ _ _ 0 (by simp) (by simp; omega)]
    rfl
end Go.Bits
end
