/-
  A part of a small machine over the model, or of a walk by it, proved right against the model. Proved outright, under no condition but what each theorem names.
-/
import Derived.Test.YtahmhofnilgfgaaVK
namespace Go.VM
open Go

structure St (C : Ctx) (n : Nat) (ρ : Nat → Nat) (κ : Nat → Option Nat) (M : Mem) (w : World) (e : Env) (a : Act) : Prop where
  rel : Rel C ρ κ M w
  env : EnvRel ρ κ e n a
  cl : EnvCl M.length e
  defers : a.defers = []

def Kset (n0 : Nat) (mv : List Nat) (i : Nat) : Prop := i < n0 ∧ i ∉ mv

section
variable {C : Ctx} {n0 : Nat} {mv : List Nat} {ρ : Nat → Nat} {κ : Nat → Option Nat} {M : Mem} {w : World} {e : Env} {n : Nat} {a : Act}

theorem Step.weaken {K K' : Nat → Prop} {ρ κ M w ρ' κ' M' w'} (h : Step K ρ κ M w ρ' κ' M' w') (hK : ∀ i, K' i → K i) : Step K' ρ κ M w ρ' κ' M' w' :=
  ⟨h.os, h.tape, h.output, h.size, h.keep, h.own, fun i hi => h.agree i (hK i hi)⟩

theorem EnvRel.move {ρ' κ'} (h : EnvRel ρ κ e n a) (hc : EnvCl M.length e) (hag : ∀ i, i < M.length → ρ' i = ρ i ∧ κ' i = κ i) : EnvRel ρ' κ' e n a :=
  ⟨h.size, fun j hj => by
    rw [h.get j hj]
    congr 1
    exact V.real_congr _ (fun b hb => by obtain ⟨h1, h2⟩ := hag b (hc j b hb); exact ⟨h1.symm, h2.symm⟩)⟩

theorem EnvCl.mono {m m' : Nat} (h : EnvCl m e) (hm : m ≤ m') : EnvCl m' e := fun j b hb => Nat.lt_of_lt_of_le (h j b hb) hm

theorem get_put (e : Env) (d : Nat) (v : V) (j : Nat) : Env.get ((d, v) :: e) j = if d = j then v else e.get j := rfl

theorem EnvRel.putO (h : EnvRel ρ κ e n a) (d : Option Nat) (hd : ∀ k, d = some k → k < n) (v : V) (x : Value) (hv : v ≠ .undef → x = v.real ρ κ) : EnvRel ρ κ (e.putO d v) n (a.put d x) := by
  cases d with
  | none => exact h
  | some k =>
    have hk := hd k rfl
    refine ⟨by simp [Act.put, h.size], fun j hj => ?_⟩
    simp only [Env.putO, get_put] at hj ⊢
    simp only [Act.put]
    split
    · rename_i hkj
      subst hkj
      rw [if_pos rfl] at hj
      rw [Array.getElem?_setIfInBounds_self_of_lt (by rw [h.size]; exact hk), hv hj]
    · rename_i hkj
      rw [if_neg hkj] at hj
      rw [Array.getElem?_setIfInBounds_ne hkj, h.get j hj]

theorem EnvCl.putO {m : Nat} (h : EnvCl m e) (d : Option Nat) (v : V) (hv : v.cl m) : EnvCl m (e.putO d v) := by
  cases d with
  | none => exact h
  | some k =>
    intro j
    simp only [Env.putO, get_put]
    split
    · exact hv
    · exact h j

theorem get_keep (e : Env) (ks : List Nat) (j : Nat) : (e.keep ks).get j = .undef ∨ (e.keep ks).get j = e.get j := by
  induction ks with
  | nil => exact .inl rfl
  | cons k ks ih =>
    simp only [Env.keep, get_put]
    split
    · rename_i h; subst h; exact .inr rfl
    · exact ih

theorem EnvRel.weak {e' : Env} (h : EnvRel ρ κ e n a) (hw : ∀ j, e'.get j = .undef ∨ e'.get j = e.get j) : EnvRel ρ κ e' n a :=
  ⟨h.size, fun j hj => by
    rcases hw j with h1 | h1
    · exact absurd h1 hj
    · rw [h1] at hj ⊢; exact h.get j hj⟩

theorem EnvCl.weak {m : Nat} {e' : Env} (h : EnvCl m e) (hw : ∀ j, e'.get j = .undef ∨ e'.get j = e.get j) : EnvCl m e' := by
  intro j
  rcases hw j with h1 | h1
  · rw [h1]; exact V.cl_undef
  · rw [h1]; exact h j

theorem St.weak {e' : Env} (h : St C n ρ κ M w e a) (hw : ∀ j, e'.get j = .undef ∨ e'.get j = e.get j) : St C n ρ κ M w e' a :=
  ⟨h.rel, h.env.weak hw, h.cl.weak hw, h.defers⟩

theorem get_erases (e : Env) (mvc : List Nat) (j : Nat) : (e.erases mvc).get j = .undef ∨ ((e.erases mvc).get j = e.get j ∧ ∀ b ∈ (e.get j).refs, b ∉ mvc) := by
  cases mvc with
  | nil => exact .inr ⟨rfl, fun _ _ => by simp⟩
  | cons c cs =>
    simp only [Env.erases]
    induction e with
    | nil => exact .inl rfl
    | cons x r ih =>
      obtain ⟨k, v⟩ := x
      simp only [List.map_cons, get_put]
      split
      · split
        · exact .inl rfl
        · rename_i hn
          refine .inr ⟨rfl, fun b hb hm => hn ?_⟩
          simp only [List.any_eq_true, List.contains_iff_mem]
          exact ⟨b, hb, hm⟩
      · exact ih

theorem St.put {d : Option Nat} {v : V} {x : Value} (h : St C n ρ κ M w e a) (hd : ∀ k, d = some k → k < n) (hv : v ≠ .undef → x = v.real ρ κ) (hc : v.cl M.length) :
    St C n ρ κ M w (e.putO d v) (a.put d x) :=
  ⟨h.rel, h.env.putO d hd v x hv, h.cl.putO d v hc, by cases d <;> simpa [Act.put] using h.defers⟩

theorem St.move {ρ' κ' M' w'} (h : St C n ρ κ M w e a) (hR : Rel C ρ' κ' M' w') (hl : M.length ≤ M'.length) (hag : ∀ i, i < M.length → ρ' i = ρ i ∧ κ' i = κ i) : St C n ρ' κ' M' w' e a :=
  ⟨hR, h.env.move h.cl hag, h.cl.mono hl, h.defers⟩

theorem yielded_get {ops : Array Oper} {j dj : Nat} {b : Bool} (hE : EnvRel ρ κ e n a) (hj : (ops[j]?).bind (·.dst) = some dj) (hb : e.get dj = .bool b) : yielded ops a.tmps j = some b := by
  have h := hE.get dj (by rw [hb]; simp)
  rw [hb] at h
  simp [yielded, hj, h, V.real]

theorem mem_vargs {args : List X} {v : V} (h : v ∈ vargs e args) : ∃ x ∈ args, v = x.ev e := by
  obtain ⟨x, hx, rfl⟩ := List.mem_map.1 h
  exact ⟨x, hx, rfl⟩

theorem vargs_real (hE : EnvRel ρ κ e n a) (args : Array Operand) (hk : allKnown (vargs e (args.toList.map compX)) = true) :
    args.map a.eval = (V.reals ρ κ (vargs e (args.toList.map compX))).toArray := by
  apply Array.ext'
  simp only [Array.toList_map, V.reals_map, vargs, List.map_map]
  apply List.map_congr_left
  intro x hx
  have := List.all_eq_true.1 hk ((compX x).ev e) (by simp only [vargs, List.map_map]; exact List.mem_map.2 ⟨x, hx, rfl⟩)
  exact ev_real hE x (known_ne this)

theorem vargs_cl (hcl : EnvCl M.length e) (args : List Operand) : V.clL M.length (vargs e (args.map compX)) := by
  rw [V.clL_iff]
  intro v hv
  simp only [vargs, List.map_map] at hv
  obtain ⟨x, _, rfl⟩ := List.mem_map.1 hv
  exact ev_cl hcl x

theorem callable_run {P : Program} {f : Nat} (h : callable P f = true) (args : Array Value) (w : World) : (callFunc f args).run P w = .ok (.enter f args) w := by
  unfold callable at h
  split at h
  · rename_i fn hf
    simp only [Bool.and_eq_true, Bool.not_eq_true'] at h
    simp only [callFunc, Sem.run_bind, run_program, Result.andThen_ok, hf]
    have h1 : ¬ (fn.name == "runtime.NumGoroutine") = true := by rw [h.1]; simp
    rw [if_neg h1]
    have h2 : ¬ fn.body.isNone = true := by rw [h.2]; simp
    rw [if_neg h2]
    rfl
  · cases h

theorem exec_call {P : Program} {o : Oper} {f : Nat} {args : Array Operand} {ts : Array TypeId} (ho : o.op = .call { callee := .value (.func f), args := args, argTypes := ts })
    (hf : callable P f = true) (w : World) : (execOp a.eval o).run P w = .ok (.enter f (args.map a.eval)) w := by
  simp only [execOp, ho, resolve, Sem.run_bind, Act.eval, Deferred.ofValue, Sem.run_pure, Result.andThen_ok, invoke, Array.append_empty]
  rw [callable_run hf]
  simp

theorem exec_callv {P : Program} {o : Oper} {f t : Nat} {args : Array Operand} {ts : Array TypeId} {cap : Array Value} (ho : o.op = .call { callee := .value (.tmp t), args := args, argTypes := ts })
    (ht : a.eval (.tmp t) = .func (.func f) #[] cap) (hf : callable P f = true) (w : World) : (execOp a.eval o).run P w = .ok (.enter f (args.map a.eval ++ cap)) w := by
  simp only [execOp, ho, resolve, Sem.run_bind, ht, Deferred.ofValue, Sem.run_pure, Result.andThen_ok, invoke]
  rw [callable_run hf]
  simp

theorem reals_append (xs ys : List V) : V.reals ρ κ (xs ++ ys) = V.reals ρ κ xs ++ V.reals ρ κ ys := by simp [V.reals_map]

/-- what a call does to the state -/
theorem call_sound (hS : St C n ρ κ M w e a) (hn : n0 ≤ M.length) {f : Nat} {vs : List V} (hvs : V.clL M.length vs) {mvc : List Nat} (hmv : ∀ b ∈ mvc, n0 ≤ b ∨ b ∈ mv) {R : V → Mem → Prop}
    (h : VCalls C f vs M mvc R) {next : Act → World → Prop} {Q : Exit → Act → World → Prop} {d : Option Nat} (hd : ∀ k, d = some k → k < n)
    (hnext : ∀ ρ' κ' v M' w' a', St C n ρ' κ' M' w' ((e.erases mvc).putO d v) a' → Step (Kset n0 mv) ρ κ M w ρ' κ' M' w' → n0 ≤ M'.length → R v M' → next a' w') :
    Calls C.P f (V.reals ρ κ vs).toArray w fun
      | .returned v, w'' => next (a.put d v) w''
      | .panicked chain, w'' => Q (.panic chain) a w''
      | .outgrown, _ => LetsOut Q := by
  refine (h ρ κ w hS.rel hvs).mono fun en w' hh => ?_
  obtain ⟨ρ', κ', v, M', rfl, hvc, hR', hl, hst, hr⟩ := hh
  have hE' : EnvRel ρ' κ' (e.erases mvc) n a := ⟨hS.env.size, fun j hj => by
    rcases get_erases e mvc j with h1 | ⟨h1, h2⟩
    · exact absurd h1 hj
    · rw [h1] at hj ⊢
      rw [hS.env.get j hj]
      congr 1
      exact V.real_congr _ (fun b hb => by
        obtain ⟨h3, h4⟩ := hst.agree b ⟨hS.cl j b hb, h2 b hb⟩
        exact ⟨h3.symm, h4.symm⟩)⟩
  have hS' : St C n ρ' κ' M' w' (e.erases mvc) a := ⟨hR', hE', (hS.cl.mono hl).weak (fun j => by
    rcases get_erases e mvc j with h1 | ⟨h1, _⟩
    · exact .inl h1
    · exact .inr h1), hS.defers⟩
  exact hnext ρ' κ' v M' w' _ (hS'.put hd (fun _ => rfl) hvc) (hst.weaken fun i hi => ⟨Nat.lt_of_lt_of_le hi.1 hn, fun hm => by
    rcases hmv i hm with h1 | h1
    · exact absurd hi.1 (by omega)
    · exact hi.2 h1⟩) (Nat.le_trans hn hl) hr

theorem compItem_dst {P : Program} {ops : Array Oper} {o : Oper} {it : Item} (h : compItem P n ops o = some it) : ∀ k, o.dst = some k → k < n := by
  unfold compItem at h
  split at h
  · cases h
  · rename_i hd
    intro k hk
    rw [hk] at hd
    simpa using hd

/-- the goal behind a list of operations -/
def After (C : Ctx) (n0 : Nat) (mv : List Nat) (n : Nat) (ρ : Nat → Nat) (κ : Nat → Option Nat) (M : Mem) (w : World) (Q : Env → Mem → Prop) (a' : Act) (w' : World) : Prop :=
  ∃ ρ' κ' e' M', St C n ρ' κ' M' w' e' a' ∧ Step (Kset n0 mv) ρ κ M w ρ' κ' M' w' ∧ n0 ≤ M'.length ∧ Q e' M'

theorem After.trans {ρ' κ' M' w' Q a'' w''} (h : Step (Kset n0 mv) ρ κ M w ρ' κ' M' w') (h' : After C n0 mv n ρ' κ' M' w' Q a'' w'') : After C n0 mv n ρ κ M w Q a'' w'' := by
  obtain ⟨ρ'', κ'', e'', M'', hS, hst, hn, hq⟩ := h'
  exact ⟨ρ'', κ'', e'', M'', hS, h.trans hst, hn, hq⟩

theorem items_sound (ops : Array Oper) (Q' : Exit → Act → World → Prop) : ∀ (l : List Oper) (its : List Item), compItems C.P n ops l = some its →
    ∀ (e : Env) (M : Mem) (Q : Env → Mem → Prop), wpItems C n0 mv its e M Q → ∀ (ρ : Nat → Nat) (κ : Nat → Option Nat) (w : World) (a : Act), St C n ρ κ M w e a → n0 ≤ M.length →
    (∀ a' w', After C n0 mv n ρ κ M w Q a' w' → Q' .normal a' w') → wpList C.P ops Q' l a w
  | [], its, hc, e, M, Q, h, ρ, κ, w, a, hS, hn, hQ => by
    simp only [compItems, Option.some.injEq] at hc
    subst hc
    exact hQ a w ⟨ρ, κ, e, M, hS, Step.refl .., hn, h⟩
  | o :: l, its, hc, e, M, Q, h, ρ, κ, w, a, hS, hn, hQ => by
    simp only [compItems] at hc
    split at hc
    · rename_i it its' hit hits
      cases hc
      have hd := compItem_dst hit
      have cont : ∀ (e' : Env) (M' : Mem) (ρ' : Nat → Nat) (κ' : Nat → Option Nat) (w' : World) (a' : Act), wpItems C n0 mv its' e' M' Q → St C n ρ' κ' M' w' e' a' →
          Step (Kset n0 mv) ρ κ M w ρ' κ' M' w' → n0 ≤ M'.length → wpList C.P ops Q' l a' w' := by
        intro e' M' ρ' κ' w' a' h' hS' hst' hn'
        exact items_sound ops Q' l its' hits e' M' Q h' ρ' κ' w' a' hS' hn' fun a'' w'' hA => hQ a'' w'' (hA.trans hst')
      unfold compItem at hit
      split at hit
      · cases hit
      · split at hit
        · rename_i hg
          have hw : Region.wanted o (yielded ops a.tmps) = true := by simp [Region.wanted, hg]
          simp only [wpList, hw, if_true]
          refine .inl ?_
          split at hit
          · rename_i f args ts hop
            split at hit
            · rename_i hf
              cases hit
              simp only [wpItems, callK] at h
              obtain ⟨hk, mvc, hmv, hcall⟩ := h
              unfold Oper.wp
              rw [exec_call hop hf, Oper.upon_enter, vargs_real hS.env args hk]
              exact call_sound hS hn (vargs_cl hS.cl _) hmv hcall hd fun ρ' κ' v M' w' a' hS' hst' hn' hr => cont _ M' ρ' κ' w' a' hr hS' hst' hn'
            · cases hit
          · rename_i t args ts hop
            cases hit
            simp only [wpItems] at h
            split at h
            · rename_i f cap hfn
              obtain ⟨hf, hk, mvc, hmv, hcall⟩ := h
              have hkk : allKnown (vargs e (args.toList.map compX)) = true := by
                unfold allKnown at hk ⊢
                rw [List.all_append, Bool.and_eq_true] at hk
                exact hk.1
              have hfr : a.eval (.tmp t) = (V.fn f cap).real ρ κ := by
                have := ev_real hS.env (.tmp t) (by simp only [compX]; rw [hfn]; simp)
                simp only [compX] at this
                rw [hfn] at this
                exact this
              have hfc : V.clL M.length cap := by
                have := ev_cl hS.cl (.tmp t)
                simp only [compX] at this
                rw [hfn] at this
                exact this
              unfold Oper.wp
              rw [exec_callv hop hfr hf, Oper.upon_enter, vargs_real hS.env args hkk, List.append_toArray, ← reals_append]
              refine call_sound hS hn ?_ hmv hcall hd fun ρ' κ' v M' w' a' hS' hst' hn' hr => cont _ M' ρ' κ' w' a' hr hS' hst' hn'
              rw [V.clL_iff] at hfc ⊢
              intro v hv
              rcases List.mem_append.1 hv with hv | hv
              · exact (V.clL_iff.1 (vargs_cl hS.cl args.toList)) v hv
              · exact hfc v hv
            · exact h.elim
          · split at hit
            · rename_i vi hvi
              cases hit
              simp only [wpItems, guardK, opK] at h
              split at h
              · rename_i v M' hop
                obtain ⟨ρ', κ', w', x, hrun, hv, hvc, hR', hl, hst⟩ := op_sound hS.rel hS.env hS.cl o vi hvi v M' hop
                have hS' := (hS.move hR' hl hst.agree).put hd hv hvc
                have hst' := hst.weaken (K' := Kset n0 mv) fun i hi => Nat.lt_of_lt_of_le hi.1 hn
                unfold Oper.wp
                rcases hrun with hrun | ⟨hrun, rfl⟩
                · rw [hrun, Oper.upon_value]
                  exact cont _ M' ρ' κ' w' _ h hS' hst' (Nat.le_trans hn hl)
                · rw [hrun, Oper.upon_skip]
                  exact cont _ M' ρ' κ' w' _ h hS' hst' (Nat.le_trans hn hl)
              · exact h.elim
            · cases hit
        · rename_i j want hg
          split at hit
          · rename_i dj vi hdj hvi
            cases hit
            simp only [wpItems, guardK] at h
            split at h
            · rename_i b hb
              have hy := yielded_get hS.env hdj hb
              by_cases hbw : b = want
              · rw [if_pos hbw] at h
                have hw : Region.wanted o (yielded ops a.tmps) = true := by simp [Region.wanted, hg, hy, hbw]
                simp only [wpList, hw, if_true]
                refine .inl ?_
                simp only [opK] at h
                split at h
                · rename_i v M' hop
                  obtain ⟨ρ', κ', w', x, hrun, hv, hvc, hR', hl, hst⟩ := op_sound hS.rel hS.env hS.cl o vi hvi v M' hop
                  have hS' := (hS.move hR' hl hst.agree).put hd hv hvc
                  have hst' := hst.weaken (K' := Kset n0 mv) fun i hi => Nat.lt_of_lt_of_le hi.1 hn
                  unfold Oper.wp
                  rcases hrun with hrun | ⟨hrun, rfl⟩
                  · rw [hrun, Oper.upon_value]
                    exact cont _ M' ρ' κ' w' _ h hS' hst' (Nat.le_trans hn hl)
                  · rw [hrun, Oper.upon_skip]
                    exact cont _ M' ρ' κ' w' _ h hS' hst' (Nat.le_trans hn hl)
                · exact h.elim
              · rw [if_neg hbw] at h
                have hw : Region.wanted o (yielded ops a.tmps) = false := by simp [Region.wanted, hg, hy, hbw]
                simp only [wpList, hw, Bool.false_eq_true, if_false]
                exact cont _ M ρ κ w _ h (hS.put hd (fun hu => absurd rfl hu) V.cl_undef) (Step.refl ..) hn
            · exact h.elim
          · cases hit
    · cases hc

end
end Go.VM
