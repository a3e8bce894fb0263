/-
  A part of a small machine over the model, or of a walk by it, proved right against the model. Proved outright, under no condition but what each theorem names.
-/
import Derived.Test.YtahmhofnilgfgaaVN
namespace Go.VM
open Go

/-! Running closed code. -/
def Env.gets (e : Env) (g : Option (Nat × Bool)) : Option Bool :=
  match g with
  | none => some true
  | some (j, want) => match e.get j with
    | .bool b => some (b == want)
    | _ => none

def runItems (C : Ctx) (call : Nat → List V → Mem → Option (V × Mem)) : List Item → Env → Mem → Option (Env × Mem)
  | [], e, M => some (e, M)
  | .op g d vi :: r, e, M => match e.gets g with
    | some true => match vop C e M vi with
      | some (v, M') => runItems C call r (e.putO d v) M'
      | none => none
    | some false => runItems C call r (e.putO d .undef) M
    | none => none
  | .call d f args :: r, e, M => if allKnown (vargs e args) then match call f (vargs e args) M with
      | some (v, M') => runItems C call r (e.putO d v) M'
      | none => none
    else none
  | .callv d fn args :: r, e, M => match fn.ev e with
    | .fn f cap => if callable C.P f && allKnown (vargs e args ++ cap) then match call f (vargs e args ++ cap) M with
        | some (v, M') => runItems C call r (e.putO d v) M'
        | none => none
      else none
    | _ => none

def runQuiet (C : Ctx) : List Item → Env → Mem → Option Env
  | [], e, _ => some e
  | .op g d vi :: r, e, M => match e.gets g with
    | some true => match vop C e M vi with
      | some (v, _) => runQuiet C r (e.putO d v) M
      | none => none
    | some false => runQuiet C r (e.putO d .undef) M
    | none => none
  | _ :: _, _, _ => none

def runLoop (F : Env → Mem → Option (VX × Env × Mem)) : Nat → Env → Mem → Option (VX × Env × Mem)
  | 0, _, _ => none
  | k + 1, e, M => match F e M with
    | some (.normal, e', M') => runLoop F k e' M'
    | r => r

def runCode (C : Ctx) (call : Nat → List V → Mem → Option (V × Mem)) (k : Nat) : VC → Env → Mem → Option (VX × Env × Mem)
  | .skip, e, M => some (.normal, e, M)
  | .reg its ks, e, M => match runItems C call its e M with
    | some (e', M') => some (.normal, e'.keep ks, M')
    | none => none
  | .drq its ks, e, M => match runQuiet C its e M with
    | some e' => some (.normal, e'.keep ks, M)
    | none => none
  | .drt hd tl ks, e, M => match runQuiet C hd e M with
    | some e' => match runItems C call tl e' M with
      | some (e'', M') => some (.normal, e''.keep ks, M')
      | none => none
    | none => none
  | .seq a b, e, M => match runCode C call k a e M with
    | some (.normal, e', M') => runCode C call k b e' M'
    | r => r
  | .cond c a b, e, M => match c.ev e with
    | .bool t => if t then runCode C call k a e M else runCode C call k b e M
    | _ => none
  | .block id a, e, M => match runCode C call k a e M with
    | some (.exit j, e', M') => if j = id then some (.normal, e', M') else some (.exit j, e', M')
    | r => r
  | .loop a, e, M => runLoop (runCode C call k a) k e M
  | .exit id, e, M => some (.exit id, e, M)
  | .ret, e, M => some (.ret, e, M)

def clB (n : Nat) (l : List Nat) : Bool := l.all fun b => decide (b < n)
def memCl (n : Nat) (M : Mem) : Bool := M.all fun b => clB n b.refs

/-- Blocks that nothing names are left away. -/
def trim (n0 : Nat) (v : V) (M : Mem) : V × Mem :=
  if clB n0 v.refs && memCl n0 (M.take n0) then (v, M.take n0) else (v, M)

def callX (C : Ctx) (tbl : Nat → Option VFn) (k : Nat) : Nat → Nat → List V → Mem → Option (V × Mem)
  | 0, _, _, _ => none
  | d + 1, f, vs, M => match tbl f with
    | none => none
    | some F => if vs.length ≤ F.nt then
        match runCode C (callX C tbl k d) k F.body (Env.ofArgs 0 vs) M with
        | some (.exit _, _, _) => none
        | some (_, e, M') => match vres e M' F.res with
          | some v => some (trim M.length v M')
          | none => none
        | none => none
      else none

section
variable {C : Ctx} {n0 : Nat} {mv : List Nat}

theorem wpItems_mono {Q Q' : Env → Mem → Prop} (hq : ∀ e M, Q e M → Q' e M) : ∀ (its : List Item) (e : Env) (M : Mem), wpItems C n0 mv its e M Q → wpItems C n0 mv its e M Q'
  | [], e, M, h => hq e M h
  | .op g d vi :: r, e, M, h => by
    simp only [wpItems, guardK, opK] at h ⊢
    split
    · simp only at h
      split
      · rename_i v M' hv; rw [hv] at h; exact wpItems_mono hq r _ _ h
      · rename_i hv; rw [hv] at h; exact h
    · rename_i j want
      simp only at h
      split
      · rename_i b hb
        rw [hb] at h
        simp only at h
        split
        · rename_i hbw
          rw [if_pos hbw] at h
          split
          · rename_i v M' hv; rw [hv] at h; exact wpItems_mono hq r _ _ h
          · rename_i hv; rw [hv] at h; exact h
        · rename_i hbw
          rw [if_neg hbw] at h
          exact wpItems_mono hq r _ _ h
      · rename_i hne
        split at h
        · rename_i b hb; exact absurd hb (hne b)
        · exact h
  | .call d f args :: r, e, M, h => by
    simp only [wpItems, callK] at h ⊢
    obtain ⟨h1, mvc, h2, h3⟩ := h
    exact ⟨h1, mvc, h2, fun ρ κ w hR hcl => (h3 ρ κ w hR hcl).mono fun en w' ⟨ρ', κ', v, M', a1, a2, a3, a4, a5, a6⟩ => ⟨ρ', κ', v, M', a1, a2, a3, a4, a5, wpItems_mono hq r _ _ a6⟩⟩
  | .callv d fn args :: r, e, M, h => by
    simp only [wpItems] at h ⊢
    split
    · rename_i f cap hf
      rw [hf] at h
      simp only [callK] at h ⊢
      obtain ⟨h0, h1, mvc, h2, h3⟩ := h
      exact ⟨h0, h1, mvc, h2, fun ρ κ w hR hcl => (h3 ρ κ w hR hcl).mono fun en w' ⟨ρ', κ', v, M', a1, a2, a3, a4, a5, a6⟩ => ⟨ρ', κ', v, M', a1, a2, a3, a4, a5, wpItems_mono hq r _ _ a6⟩⟩
    · rename_i hne
      split at h
      · rename_i f cap hf; exact absurd hf (hne f cap)
      · exact h

theorem wpQuiet_mono {Q Q' : Env → Prop} (hq : ∀ e, Q e → Q' e) : ∀ (its : List Item) (e : Env) (M : Mem), wpQuiet C its e M Q → wpQuiet C its e M Q'
  | [], e, M, h => hq e h
  | .op g d vi :: r, e, M, h => by
    simp only [wpQuiet, guardK, opK] at h ⊢
    split
    · simp only at h
      split
      · rename_i v M' hv; rw [hv] at h; exact wpQuiet_mono hq r _ _ h
      · rename_i hv; rw [hv] at h; exact h
    · rename_i j want
      simp only at h
      split
      · rename_i b hb
        rw [hb] at h
        simp only at h
        split
        · rename_i hbw
          rw [if_pos hbw] at h
          split
          · rename_i v M' hv; rw [hv] at h; exact wpQuiet_mono hq r _ _ h
          · rename_i hv; rw [hv] at h; exact h
        · rename_i hbw
          rw [if_neg hbw] at h
          exact wpQuiet_mono hq r _ _ h
      · rename_i hne
        split at h
        · rename_i b hb; exact absurd hb (hne b)
        · exact h
  | .call d f args :: r, e, M, h => by
    simp only [wpQuiet] at h ⊢
    obtain ⟨h1, v, h2, h3⟩ := h
    exact ⟨h1, v, h2, wpQuiet_mono hq r _ _ h3⟩
  | .callv d fn args :: r, e, M, h => h

theorem VRounds_mono {F : Env → Mem → (VX → Env → Mem → Prop) → Prop} (hF : ∀ e M Q Q', (∀ x e M, Q x e M → Q' x e M) → F e M Q → F e M Q') {Q Q' : VX → Env → Mem → Prop} (hq : ∀ x e M, Q x e M → Q' x e M) :
    ∀ (k : Nat) (e : Env) (M : Mem), VRounds n0 F k e M Q → VRounds n0 F k e M Q'
  | 0, _, _, h => h
  | k + 1, e, M, h => by
    obtain ⟨e', M', ha, hf⟩ := h
    refine ⟨e', M', ha, hF e' M' _ _ (fun x e M hx => ?_) hf⟩
    cases x with
    | normal => exact VRounds_mono hF hq k e M hx
    | exit id => exact hq _ _ _ hx
    | ret => exact hq _ _ _ hx

theorem VWp_mono : ∀ (vc : VC) (e : Env) (M : Mem) (Q Q' : VX → Env → Mem → Prop), (∀ x e M, Q x e M → Q' x e M) → VWp C n0 mv vc e M Q → VWp C n0 mv vc e M Q'
  | .skip, e, M, Q, Q', hq, h => hq _ _ _ h
  | .exit id, e, M, Q, Q', hq, h => hq _ _ _ h
  | .ret, e, M, Q, Q', hq, h => hq _ _ _ h
  | .reg its ks, e, M, Q, Q', hq, h => wpItems_mono (fun e M h => hq _ _ _ h) its e M h
  | .drq its ks, e, M, Q, Q', hq, h => wpQuiet_mono (fun e h => hq _ _ _ h) its e M h
  | .drt hd tl ks, e, M, Q, Q', hq, h => wpQuiet_mono (fun e h => wpItems_mono (fun e M h => hq _ _ _ h) tl e M h) hd e M h
  | .seq a b, e, M, Q, Q', hq, h => VWp_mono a e M _ _ (fun x e M hx => by
      cases x with
      | normal => exact VWp_mono b e M Q Q' hq hx
      | exit id => exact hq _ _ _ hx
      | ret => exact hq _ _ _ hx) h
  | .cond c a b, e, M, Q, Q', hq, h => by
    simp only [VWp] at h ⊢
    split
    · rename_i t ht
      rw [ht] at h
      exact ⟨fun h1 => VWp_mono a e M Q Q' hq (h.1 h1), fun h1 => VWp_mono b e M Q Q' hq (h.2 h1)⟩
    · rename_i hne
      split at h
      · rename_i t ht; exact absurd ht (hne t)
      · exact h
  | .block id a, e, M, Q, Q', hq, h => VWp_mono a e M _ _ (fun x e M hx => by
      cases x with
      | normal => exact hq _ _ _ hx
      | ret => exact hq _ _ _ hx
      | exit j =>
        simp only [blockK] at hx ⊢
        split
        · rename_i hj; rw [if_pos hj] at hx; exact hq _ _ _ hx
        · rename_i hj; rw [if_neg hj] at hx; exact hq _ _ _ hx) h
  | .loop a, e, M, Q, Q', hq, h => by
    obtain ⟨k, hk⟩ := h
    exact ⟨k, VRounds_mono (fun e M Q Q' hq h => VWp_mono a e M Q Q' hq h) hq k e M hk⟩

theorem VCalls.mono {f : Nat} {vs : List V} {M : Mem} {mv : List Nat} {R R' : V → Mem → Prop} (h : VCalls C f vs M mv R) (hr : ∀ v M', R v M' → R' v M') : VCalls C f vs M mv R' :=
  fun ρ κ w hR hcl => (h ρ κ w hR hcl).mono fun _ _ ⟨ρ', κ', v, M', a1, a2, a3, a4, a5, a6⟩ => ⟨ρ', κ', v, M', a1, a2, a3, a4, a5, hr _ _ a6⟩

/-- what a run shows of a call -/
def CallOk (C : Ctx) (call : Nat → List V → Mem → Option (V × Mem)) : Prop :=
  ∀ f vs M v M', call f vs M = some (v, M') → VCalls C f vs M [] fun v' M'' => v' = v ∧ M'' = M'

theorem runItems_sound {call : Nat → List V → Mem → Option (V × Mem)} (hc : CallOk C call) : ∀ (its : List Item) (e : Env) (M : Mem) (e' : Env) (M' : Mem), runItems C call its e M = some (e', M') →
    wpItems C n0 mv its e M fun e'' M'' => e'' = e' ∧ M'' = M'
  | [], e, M, e', M', h => by
    simp only [runItems, Option.some.injEq, Prod.mk.injEq] at h
    exact h
  | .op g d vi :: r, e, M, e', M', h => by
    simp only [runItems] at h
    simp only [wpItems, guardK, opK]
    cases g with
    | none =>
      simp only [Env.gets] at h ⊢
      split at h
      · rename_i v M₂ hv
        rw [hv]
        exact runItems_sound hc r _ _ _ _ h
      · cases h
    | some jw =>
      obtain ⟨j, want⟩ := jw
      simp only [Env.gets] at h ⊢
      split at h
      · rename_i hg
        split at hg
        · rename_i b hb
          rw [hb]
          simp only [Option.some.injEq, beq_iff_eq] at hg
          simp only
          rw [if_pos hg]
          split at h
          · rename_i v M₂ hv
            rw [hv]
            exact runItems_sound hc r _ _ _ _ h
          · cases h
        · cases hg
      · rename_i hg
        split at hg
        · rename_i b hb
          rw [hb]
          simp only [Option.some.injEq, beq_eq_false_iff_ne] at hg
          simp only
          rw [if_neg hg]
          exact runItems_sound hc r _ _ _ _ h
        · cases hg
      · cases h
  | .call d f args :: r, e, M, e', M', h => by
    simp only [runItems] at h
    split at h
    · rename_i hk
      split at h
      · rename_i v M₂ hcall
        refine ⟨hk, [], by simp, (hc f _ M v M₂ hcall).mono fun v' M'' ⟨h1, h2⟩ => ?_⟩
        subst h1; subst h2
        exact runItems_sound hc r _ _ _ _ h
      · cases h
    · cases h
  | .callv d fn args :: r, e, M, e', M', h => by
    simp only [runItems] at h
    simp only [wpItems]
    split at h
    · rename_i f cap hf
      rw [hf]
      split at h
      · rename_i hk
        rw [Bool.and_eq_true] at hk
        split at h
        · rename_i v M₂ hcall
          refine ⟨hk.1, hk.2, [], by simp, (hc f _ M v M₂ hcall).mono fun v' M'' ⟨h1, h2⟩ => ?_⟩
          subst h1; subst h2
          exact runItems_sound hc r _ _ _ _ h
        · cases h
      · cases h
    · cases h

theorem runQuiet_sound : ∀ (its : List Item) (e : Env) (M : Mem) (e' : Env), runQuiet C its e M = some e' → wpQuiet C its e M fun e'' => e'' = e'
  | [], e, M, e', h => by
    simp only [runQuiet, Option.some.injEq] at h
    exact h
  | .op g d vi :: r, e, M, e', h => by
    simp only [runQuiet] at h
    simp only [wpQuiet, guardK, opK]
    cases g with
    | none =>
      simp only [Env.gets] at h ⊢
      split at h
      · rename_i v M₂ hv
        rw [hv]
        exact runQuiet_sound r _ _ _ h
      · cases h
    | some jw =>
      obtain ⟨j, want⟩ := jw
      simp only [Env.gets] at h ⊢
      split at h
      · rename_i hg
        split at hg
        · rename_i b hb
          rw [hb]
          simp only [Option.some.injEq, beq_iff_eq] at hg
          simp only
          rw [if_pos hg]
          split at h
          · rename_i v M₂ hv
            rw [hv]
            exact runQuiet_sound r _ _ _ h
          · cases h
        · cases hg
      · rename_i hg
        split at hg
        · rename_i b hb
          rw [hb]
          simp only [Option.some.injEq, beq_eq_false_iff_ne] at hg
          simp only
          rw [if_neg hg]
          exact runQuiet_sound r _ _ _ h
        · cases hg
      · cases h
  | .call .. :: _, e, M, e', h => by simp [runQuiet] at h
  | .callv .. :: _, e, M, e', h => by simp [runQuiet] at h

theorem runLoop_sound {F : Env → Mem → Option (VX × Env × Mem)} {W : Env → Mem → (VX → Env → Mem → Prop) → Prop}
    (hmono : ∀ e M Q Q', (∀ x e M, Q x e M → Q' x e M) → W e M Q → W e M Q')
    (hF : ∀ e M x e' M', F e M = some (x, e', M') → W e M fun x' e'' M'' => x' = x ∧ e'' = e' ∧ M'' = M') :
    ∀ (k : Nat) (e : Env) (M : Mem) (x : VX) (e' : Env) (M' : Mem), runLoop F k e M = some (x, e', M') → VRounds n0 W k e M fun x' e'' M'' => x' = x ∧ e'' = e' ∧ M'' = M'
  | 0, _, _, _, _, _, h => by simp [runLoop] at h
  | k + 1, e, M, x, e', M', h => by
    simp only [runLoop] at h
    refine ⟨e, M, .refl, ?_⟩
    split at h
    · rename_i e₂ M₂ hf
      refine hmono _ _ _ _ (fun x₃ e₃ M₃ hx => ?_) (hF e M _ _ _ hf)
      obtain ⟨rfl, rfl, rfl⟩ := hx
      exact runLoop_sound hmono hF k _ _ _ _ _ h
    · rename_i hne
      refine hmono _ _ _ _ (fun x₃ e₃ M₃ hx => ?_) (hF e M _ _ _ h)
      obtain ⟨rfl, rfl, rfl⟩ := hx
      cases x₃ with
      | normal => exact absurd h (hne _ _)
      | exit id => exact ⟨rfl, rfl, rfl⟩
      | ret => exact ⟨rfl, rfl, rfl⟩

theorem runCode_sound {call : Nat → List V → Mem → Option (V × Mem)} (hc : CallOk C call) (k : Nat) : ∀ (vc : VC) (e : Env) (M : Mem) (x : VX) (e' : Env) (M' : Mem), runCode C call k vc e M = some (x, e', M') →
    VWp C n0 mv vc e M fun x' e'' M'' => x' = x ∧ e'' = e' ∧ M'' = M'
  | .skip, e, M, x, e', M', h => by simp only [runCode, Option.some.injEq, Prod.mk.injEq] at h; exact h
  | .exit id, e, M, x, e', M', h => by simp only [runCode, Option.some.injEq, Prod.mk.injEq] at h; exact h
  | .ret, e, M, x, e', M', h => by simp only [runCode, Option.some.injEq, Prod.mk.injEq] at h; exact h
  | .reg its ks, e, M, x, e', M', h => by
    simp only [runCode] at h
    split at h
    · rename_i e₂ M₂ hi
      cases h
      refine wpItems_mono (fun e M hx => ?_) its e M (runItems_sound hc its e M _ _ hi)
      obtain ⟨rfl, rfl⟩ := hx
      exact ⟨rfl, rfl, rfl⟩
    · cases h
  | .drq its ks, e, M, x, e', M', h => by
    simp only [runCode] at h
    split at h
    · rename_i e₂ hi
      cases h
      refine wpQuiet_mono (fun e hx => ?_) its e M (runQuiet_sound its e M _ hi)
      subst hx
      exact ⟨rfl, rfl, rfl⟩
    · cases h
  | .drt hd tl ks, e, M, x, e', M', h => by
    simp only [runCode] at h
    split at h
    · rename_i e₂ hi
      split at h
      · rename_i e₃ M₃ hi'
        cases h
        refine wpQuiet_mono (fun e hx => ?_) hd e M (runQuiet_sound hd e M _ hi)
        subst hx
        refine wpItems_mono (fun e M hx => ?_) tl _ M (runItems_sound hc tl _ M _ _ hi')
        obtain ⟨rfl, rfl⟩ := hx
        exact ⟨rfl, rfl, rfl⟩
      · cases h
    · cases h
  | .seq a b, e, M, x, e', M', h => by
    simp only [runCode] at h
    simp only [VWp]
    split at h
    · rename_i e₂ M₂ ha
      refine VWp_mono a _ _ _ _ (fun x₃ e₃ M₃ hx => ?_) (runCode_sound hc k a e M _ _ _ ha)
      obtain ⟨rfl, rfl, rfl⟩ := hx
      exact runCode_sound hc k b _ _ _ _ _ h
    · rename_i hne
      refine VWp_mono a _ _ _ _ (fun x₃ e₃ M₃ hx => ?_) (runCode_sound hc k a e M _ _ _ h)
      obtain ⟨rfl, rfl, rfl⟩ := hx
      cases x₃ with
      | normal => exact absurd h (hne _ _)
      | exit id => exact ⟨rfl, rfl, rfl⟩
      | ret => exact ⟨rfl, rfl, rfl⟩
  | .cond c a b, e, M, x, e', M', h => by
    simp only [runCode] at h
    simp only [VWp]
    split at h
    · rename_i t ht
      rw [ht]
      cases t with
      | true => exact ⟨fun _ => runCode_sound hc k a _ _ _ _ _ (by simpa using h), fun hf => (by cases hf)⟩
      | false => exact ⟨fun hf => (by cases hf), fun _ => runCode_sound hc k b _ _ _ _ _ (by simpa using h)⟩
    · cases h
  | .block id a, e, M, x, e', M', h => by
    simp only [runCode] at h
    simp only [VWp]
    split at h
    · rename_i j e₂ M₂ ha
      refine VWp_mono a _ _ _ _ (fun x₃ e₃ M₃ hx => ?_) (runCode_sound hc k a e M _ _ _ ha)
      obtain ⟨rfl, rfl, rfl⟩ := hx
      simp only [blockK]
      split at h
      · rename_i hj; cases h; rw [if_pos hj]; exact ⟨rfl, rfl, rfl⟩
      · rename_i hj; cases h; rw [if_neg hj]; exact ⟨rfl, rfl, rfl⟩
    · rename_i hne
      refine VWp_mono a _ _ _ _ (fun x₃ e₃ M₃ hx => ?_) (runCode_sound hc k a e M _ _ _ h)
      obtain ⟨rfl, rfl, rfl⟩ := hx
      cases x₃ with
      | normal => exact ⟨rfl, rfl, rfl⟩
      | exit id => exact absurd h (hne _ _ _)
      | ret => exact ⟨rfl, rfl, rfl⟩
  | .loop a, e, M, x, e', M', h => by
    simp only [runCode] at h
    exact ⟨k, runLoop_sound (fun e M Q Q' hq h => VWp_mono a e M Q Q' hq h) (fun e M x e' M' h => runCode_sound hc k a e M x e' M' h) k e M x e' M' h⟩

theorem clB_iff {n : Nat} {l : List Nat} (h : clB n l = true) : ∀ b ∈ l, b < n := by
  intro b hb
  have := List.all_eq_true.1 h b hb
  simpa using this

theorem V.ren_id (v : V) : v.ren id = v := by
  have := (V.ren_congr (σ := id) (σ' := fun x => x) v (fun _ _ => rfl))
  have key : ∀ v : V, v.ren (fun x => x) = v := by
    intro v
    exact V.rec (motive_1 := fun v => v.ren (fun x => x) = v) (motive_2 := fun vs => V.renL (fun x => x) vs = vs)
      rfl (fun _ => rfl) (fun _ _ => rfl) (fun _ => rfl) rfl (fun _ _ => rfl) rfl (fun _ _ _ _ => rfl) (fun _ _ => rfl)
      (fun f cap h => by simp only [V.ren]; rw [h]) rfl (fun t v h => by simp only [V.ren]; rw [h]) rfl (fun cs h => by simp only [V.ren]; rw [h]) (fun _ _ => rfl) (fun vs h => by simp only [V.ren]; rw [h]) (fun _ => rfl)
      rfl (fun v vs h1 h2 => by simp only [V.renL]; rw [h1, h2]) v
  rw [this, key]

theorem Blk.ren_id (b : Blk) : b.ren id = b := by
  cases b with
  | own cs T =>
    simp only [Blk.ren, V.renL_map]
    congr 1
    conv => rhs; rw [← List.map_id cs]
    exact List.map_congr_left fun v _ => V.ren_id v
  | _ => rfl

/-- leaving the last blocks away -/
theorem Fin.take {n0 : Nat} {v : V} {M : Mem} (k : Nat) (hk : n0 ≤ k) (hkM : k ≤ M.length) (hv : clB k v.refs = true) (hM : memCl k (M.take k) = true) : Fin n0 v M v (M.take k) := by
  have hl : (M.take k).length = k := by simp; omega
  refine .ren v _ id (fun _ _ => rfl) (by omega) (fun _ _ _ _ h => h) (fun j b hb => ?_) (V.ren_id v).symm ?_ ?_
  · rw [Blk.ren_id]
    rw [List.getElem?_take] at hb
    split at hb
    · exact hb
    · cases hb
  · rw [hl]; exact clB_iff hv
  · intro j b hb r hr
    rw [hl]
    have h1 := List.all_eq_true.1 hM b (List.mem_of_getElem? hb)
    exact clB_iff h1 r hr

theorem callX_sound (tbl : Nat → Option VFn) (htbl : ∀ f F, tbl f = some F → ∃ hs, compFn C.P hs f = some F) (k : Nat) : ∀ d, CallOk C (callX C tbl k d)
  | 0 => fun f vs M v M' h => by simp [callX] at h
  | d + 1 => fun f vs M v M' h => by
    simp only [callX] at h
    split at h
    · cases h
    · rename_i F hF
      obtain ⟨hs, hcomp⟩ := htbl f F hF
      split at h
      · rename_i hl
        split at h
        · cases h
        · rename_i x e M₂ hne hrun
          split at h
          · rename_i u hu
            refine VCalls.of_fn hcomp hl (VWp_mono _ _ _ _ _ (fun x₃ e₃ M₃ hx => ?_) (runCode_sound (callX_sound tbl htbl k d) k F.body _ M _ _ _ hrun))
            obtain ⟨rfl, rfl, rfl⟩ := hx
            have main : match vres e₃ M₃ F.res with
                | some v => ∃ v' M', Fin M.length v M₃ v' M' ∧ v' = v ∧ M' = M'
                | none => False := by
              rw [hu]; exact ⟨_, _, .refl, rfl, rfl⟩
            have fin : match vres e₃ M₃ F.res with
                | some v₁ => ∃ v' M'', Fin M.length v₁ M₃ v' M'' ∧ (v' = v ∧ M'' = M')
                | none => False := by
              rw [hu]
              simp only [Option.some.injEq] at h
              unfold trim at h
              split at h
              · rename_i hcl
                rw [Bool.and_eq_true] at hcl
                cases h
                by_cases hle : M.length ≤ M₃.length
                · exact ⟨_, _, Fin.take M.length (Nat.le_refl _) hle hcl.1 hcl.2, rfl, rfl⟩
                · rw [List.take_of_length_le (by omega)]
                  exact ⟨_, _, .refl, rfl, rfl⟩
              · cases h
                exact ⟨_, _, .refl, rfl, rfl⟩
            cases x₃ with
            | normal => exact fin
            | ret => exact fin
            | exit id => exact (hne id rfl).elim
          · cases h
        · cases h
      · cases h
end
end Go.VM
