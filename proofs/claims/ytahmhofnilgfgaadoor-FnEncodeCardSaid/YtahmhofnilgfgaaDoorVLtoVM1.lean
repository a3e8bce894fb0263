/-
  Code of the small machine is sound for the code of the model: regions and calls. No condition but what each theorem names.
-/
import Derived.Test.YtahmhofnilgfgaaDoorVJ2toVK
set_option linter.unusedVariables false
set_option linter.unusedSimpArgs false
section
namespace Go.VM
open Go

structure St (C : Ctx) (n : Nat) (ρ : Nat → Nat) (κ : Nat → Option Nat) (M : Mem) (w : World) (e : Env) (a : Act) : Prop where
  rel : Rel C ρ κ M w
  env : EnvRel ρ κ e n a
  cl : EnvCl M.length e
  defers : a.defers = []

def Kset (n0 : Nat) (mv : List Nat) (i : Nat) : Prop := i < n0 ∧ i ∉ mv

section
variable {C : Ctx} {n0 : Nat} {mv : List Nat} {ρ : Nat → Nat} {κ : Nat → Option Nat} {M : Mem} {w : World} {e : Env} {n : Nat} {a : Act}

theorem Step.weaken {K K' : Nat → Prop} {ρ κ M w ρ' κ' M' w'} (h : Step K ρ κ M w ρ' κ' M' w') (hK : ∀ i, K' i → K i) : Step K' ρ κ M w ρ' κ' M' w' :=
  ⟨h.os, h.tape, h.output, h.size, h.keep, h.own, fun i hi => h.agree i (hK i hi)⟩

theorem EnvRel.move {ρ' κ'} (h : EnvRel ρ κ e n a) (hc : EnvCl M.length e) (hag : ∀ i, i < M.length → ρ' i = ρ i ∧ κ' i = κ i) : EnvRel ρ' κ' e n a :=
  ⟨h.size, fun j hj => by
    rw [h.get j hj]
    congr 1
    exact V.real_congr _ (fun b hb => by obtain ⟨h1, h2⟩ := hag b (hc j b hb); exact ⟨h1.symm, h2.symm⟩)⟩

theorem EnvCl.mono {m m' : Nat} (h : EnvCl m e) (hm : m ≤ m') : EnvCl m' e := fun j b hb => Nat.lt_of_lt_of_le (h j b hb) hm

theorem get_put (e : Env) (d : Nat) (v : V) (j : Nat) : Env.get ((d, v) :: e) j = if d = j then v else e.get j := rfl

theorem EnvRel.putO (h : EnvRel ρ κ e n a) (d : Option Nat) (hd : ∀ k, d = some k → k < n) (v : V) (x : Value) (hv : v ≠ .undef → x = v.real ρ κ) : EnvRel ρ κ (e.putO d v) n (a.put d x) := by
  cases d with
  | none => exact h
  | some k =>
    have hk := hd k rfl
    refine ⟨by simp [Act.put, h.size], fun j hj => ?_⟩
    simp only [Env.putO, get_put] at hj ⊢
    simp only [Act.put]
    split
    · rename_i hkj
      subst hkj
      rw [if_pos rfl] at hj
      rw [Array.getElem?_setIfInBounds_self_of_lt (by rw [h.size]; exact hk), hv hj]
    · rename_i hkj
      rw [if_neg hkj] at hj
      rw [Array.getElem?_setIfInBounds_ne hkj, h.get j hj]

theorem EnvCl.putO {m : Nat} (h : EnvCl m e) (d : Option Nat) (v : V) (hv : v.cl m) : EnvCl m (e.putO d v) := by
  cases d with
  | none => exact h
  | some k =>
    intro j
    simp only [Env.putO, get_put]
    split
    · exact hv
    · exact h j

theorem get_keep (e : Env) (ks : List Nat) (j : Nat) : (e.keep ks).get j = .undef ∨ (e.keep ks).get j = e.get j := by
  induction ks with
  | nil => exact .inl rfl
  | cons k ks ih =>
    simp only [Env.keep, get_put]
    split
    · rename_i h; subst h; exact .inr rfl
    · exact ih

theorem EnvRel.weak {e' : Env} (h : EnvRel ρ κ e n a) (hw : ∀ j, e'.get j = .undef ∨ e'.get j = e.get j) : EnvRel ρ κ e' n a :=
  ⟨h.size, fun j hj => by
    rcases hw j with h1 | h1
    · exact absurd h1 hj
    · rw [h1] at hj ⊢; exact h.get j hj⟩

theorem EnvCl.weak {m : Nat} {e' : Env} (h : EnvCl m e) (hw : ∀ j, e'.get j = .undef ∨ e'.get j = e.get j) : EnvCl m e' := by
  intro j
  rcases hw j with h1 | h1
  · rw [h1]; exact V.cl_undef
  · rw [h1]; exact h j

theorem St.weak {e' : Env} (h : St C n ρ κ M w e a) (hw : ∀ j, e'.get j = .undef ∨ e'.get j = e.get j) : St C n ρ κ M w e' a :=
  ⟨h.rel, h.env.weak hw, h.cl.weak hw, h.defers⟩

theorem get_erases (e : Env) (mvc : List Nat) (j : Nat) : (e.erases mvc).get j = .undef ∨ ((e.erases mvc).get j = e.get j ∧ ∀ b ∈ (e.get j).refs, b ∉ mvc) := by
  cases mvc with
  | nil => exact .inr ⟨rfl, fun _ _ => by simp⟩
  | cons c cs =>
    simp only [Env.erases]
    induction e with
    | nil => exact .inl rfl
    | cons x r ih =>
      obtain ⟨k, v⟩ := x
      simp only [List.map_cons, get_put]
      split
      · split
        · exact .inl rfl
        · rename_i hn
          refine .inr ⟨rfl, fun b hb hm => hn ?_⟩
          simp only [List.any_eq_true, List.contains_iff_mem]
          exact ⟨b, hb, hm⟩
      · exact ih

theorem St.put {d : Option Nat} {v : V} {x : Value} (h : St C n ρ κ M w e a) (hd : ∀ k, d = some k → k < n) (hv : v ≠ .undef → x = v.real ρ κ) (hc : v.cl M.length) :
    St C n ρ κ M w (e.putO d v) (a.put d x) :=
  ⟨h.rel, h.env.putO d hd v x hv, h.cl.putO d v hc, by cases d <;> simpa [Act.put] using h.defers⟩

theorem St.move {ρ' κ' M' w'} (h : St C n ρ κ M w e a) (hR : Rel C ρ' κ' M' w') (hl : M.length ≤ M'.length) (hag : ∀ i, i < M.length → ρ' i = ρ i ∧ κ' i = κ i) : St C n ρ' κ' M' w' e a :=
  ⟨hR, h.env.move h.cl hag, h.cl.mono hl, h.defers⟩

theorem yielded_get {ops : Array Oper} {j dj : Nat} {b : Bool} (hE : EnvRel ρ κ e n a) (hj : (ops[j]?).bind (·.dst) = some dj) (hb : e.get dj = .bool b) : yielded ops a.tmps j = some b := by
  have h := hE.get dj (by rw [hb]; simp)
  rw [hb] at h
  simp [yielded, hj, h, V.real]

theorem vargs_real (hE : EnvRel ρ κ e n a) (args : Array Operand) (hk : allKnown (vargs e (args.toList.map compX)) = true) :
    args.map a.eval = (V.reals ρ κ (vargs e (args.toList.map compX))).toArray := by
  apply Array.ext'
  simp only [Array.toList_map, V.reals_map, vargs, List.map_map]
  apply List.map_congr_left
  intro x hx
  have := List.all_eq_true.1 hk ((compX x).ev e) (by simp only [vargs, List.map_map]; exact List.mem_map.2 ⟨x, hx, rfl⟩)
  exact ev_real hE x (known_ne this)

theorem vargs_cl (hcl : EnvCl M.length e) (args : List Operand) : V.clL M.length (vargs e (args.map compX)) := by
  rw [V.clL_iff]
  intro v hv
  simp only [vargs, List.map_map] at hv
  obtain ⟨x, _, rfl⟩ := List.mem_map.1 hv
  exact ev_cl hcl x

theorem callable_run {P : Program} {f : Nat} (h : callable P f = true) (args : Array Value) (w : World) : (callFunc f args).run P w = .ok (.enter f args) w := by
  unfold callable at h
  split at h
  · rename_i fn hf
    simp only [Bool.and_eq_true, Bool.not_eq_true'] at h
    simp only [callFunc, Sem.run_bind, run_program, Result.andThen_ok, hf]
    have h1 : ¬ (fn.name == "runtime.NumGoroutine") = true := by rw [h.1]; simp
    rw [if_neg h1]
    have h2 : ¬ fn.body.isNone = true := by rw [h.2]; simp
    rw [if_neg h2]
    rfl
  · cases h

theorem exec_call {P : Program} {o : Oper} {f : Nat} {args : Array Operand} {ts : Array TypeId} (ho : o.op = .call { callee := .value (.func f), args := args, argTypes := ts })
    (hf : callable P f = true) (w : World) : (execOp a.eval o).run P w = .ok (.enter f (args.map a.eval)) w := by
  simp only [execOp, ho, resolve, Sem.run_bind, Act.eval, Deferred.ofValue, Sem.run_pure, Result.andThen_ok, invoke, Array.append_empty]
  rw [callable_run hf]
  simp

theorem exec_callv {P : Program} {o : Oper} {f t : Nat} {args : Array Operand} {ts : Array TypeId} {cap : Array Value} (ho : o.op = .call { callee := .value (.tmp t), args := args, argTypes := ts })
    (ht : a.eval (.tmp t) = .func (.func f) #[] cap) (hf : callable P f = true) (w : World) : (execOp a.eval o).run P w = .ok (.enter f (args.map a.eval ++ cap)) w := by
  simp only [execOp, ho, resolve, Sem.run_bind, ht, Deferred.ofValue, Sem.run_pure, Result.andThen_ok, invoke]
  rw [callable_run hf]
  simp

theorem reals_append (xs ys : List V) : V.reals ρ κ (xs ++ ys) = V.reals ρ κ xs ++ V.reals ρ κ ys := by simp [V.reals_map]

theorem St.erases (hS : St C n ρ κ M w e a) {mvc : List Nat} {ρ' κ' M' w'} (hR' : Rel C ρ' κ' M' w') (hl : M.length ≤ M'.length) (hst : Step (fun i => i < M.length ∧ i ∉ mvc) ρ κ M w ρ' κ' M' w') :
    St C n ρ' κ' M' w' (e.erases mvc) a :=
  ⟨hR', ⟨hS.env.size, fun j hj => by
    rcases get_erases e mvc j with h1 | ⟨h1, h2⟩
    · exact absurd h1 hj
    · rw [h1] at hj ⊢
      rw [hS.env.get j hj]
      congr 1
      exact V.real_congr _ (fun b hb => by
        obtain ⟨h3, h4⟩ := hst.agree b ⟨hS.cl j b hb, h2 b hb⟩
        exact ⟨h3.symm, h4.symm⟩)⟩, (hS.cl.mono hl).weak (fun j => by
    rcases get_erases e mvc j with h1 | ⟨h1, _⟩
    · exact .inl h1
    · exact .inr h1), hS.defers⟩

theorem Step.kset {mvc : List Nat} {ρ' κ' M' w'} (hn : n0 ≤ M.length) (hmv : ∀ b ∈ mvc, n0 ≤ b ∨ b ∈ mv) (hst : Step (fun i => i < M.length ∧ i ∉ mvc) ρ κ M w ρ' κ' M' w') : Step (Kset n0 mv) ρ κ M w ρ' κ' M' w' :=
  hst.weaken fun i hi => ⟨Nat.lt_of_lt_of_le hi.1 hn, fun hm => by
    rcases hmv i hm with h1 | h1
    · exact absurd hi.1 (by omega)
    · exact hi.2 h1⟩

theorem exec_inv {P : Program} {o : Oper} {x : Operand} {name : String} {args : Array Operand} {ts : Array TypeId} (ho : o.op = .call { callee := .invoke x name, args := args, argTypes := ts }) {t f : Nat} {v : Value}
    (hx : a.eval x = .iface t v) (hm : methT P t name = some f) (hf : callable P f = true) (w : World) : (execOp a.eval o).run P w = .ok (.enter f (#[v] ++ args.map a.eval)) w := by
  unfold methT at hm
  split at hm
  · rename_i i hi
    split at hm
    · rename_i m el hfm hu
      split at hm
      · rename_i f' hp hfn
        cases hm
        have hr : (method (P.types.size + Made.depth) t v name).run P w = .ok (f, v) w := by
          have hpos : 0 < Made.depth := by decide
          obtain ⟨k, hk⟩ : ∃ k, P.types.size + Made.depth = k + 1 := ⟨P.types.size + Made.depth - 1, by omega⟩
          rw [hk]
          simp [method, typeInfo, hi, hfm, hp, follow, hfn, receiverAt, run_underlying hu, Place.get]
        simp only [execOp, ho, resolve, Sem.run_bind, Sem.run_pure, Result.andThen_ok, invoke]
        simp only [hx, Array.getElem?_append, callMethod]
        simp [hr, callable_run hf]
        rw [Array.extract_eq_self_of_le (by simp)]
      · cases hm
    · cases hm
  · cases hm

theorem Rel.ghost (hR : Rel C ρ κ M w) (k : IntKind) (T : Nat) : Rel C ρ (updN κ M.length none) (M ++ [.vec k [] T]) w ∧ Step (fun i => i < M.length) ρ κ M w ρ (updN κ M.length none) (M ++ [.vec k [] T]) w := by
  have hold : ∀ i, i < M.length → updN κ M.length none i = κ i := fun i hi => updN_ne _ _ (by omega)
  have hal : ∀ i, alive (updN κ M.length none) (M ++ [.vec k [] T]) i → alive κ M i := by
    intro i hi
    by_cases him : i = M.length
    · subst him
      have hb : (M ++ [Blk.vec k [] T])[M.length]? = some (.vec k [] T) := by simp
      rw [alive_of hb, updN_same] at hi
      exact absurd rfl hi
    · have hl := alive_lt hi
      simp at hl
      have hl2 : i < M.length := by omega
      have hb : M[i]? = some M[i] := by simp [hl2]
      have hb' : (M ++ [Blk.vec k [] T])[i]? = some M[i] := by rw [List.getElem?_append_left hl2, hb]
      rw [alive_of hb', hold i hl2] at hi
      rw [alive_of hb]; exact hi
  refine ⟨⟨?_, fun i j hi hj => hR.inj i j (hal i hi) (hal j hj), fun ad v hv => ⟨(hR.ext ad v hv).1, fun i hi => (hR.ext ad v hv).2 i (hal i hi)⟩, ?_⟩,
    ⟨rfl, rfl, rfl, Nat.le_refl _, fun _ _ _ => rfl, fun i hi => .inl ⟨i, hal i hi, rfl⟩, fun i hi => ⟨rfl, hold i hi⟩⟩⟩
  · intro i b hb
    by_cases him : i = M.length
    · subst him
      simp at hb
      subst hb
      exact .inl ⟨updN_same .., rfl⟩
    · have hl : i < M.length := by
        have := (List.getElem?_eq_some_iff.1 hb).1
        simp at this; omega
      rw [List.getElem?_append_left hl] at hb
      exact holds_congr (hR.blk i b hb) rfl (hold i hl) (fun _ => rfl) (fun r hr => ⟨rfl, hold r (hR.cl i b hb r hr)⟩)
  · intro i b hb r hr
    by_cases him : i = M.length
    · subst him
      simp at hb
      subst hb
      simp [Blk.refs] at hr
    · have hl : i < M.length := by
        have := (List.getElem?_eq_some_iff.1 hb).1
        simp at this; omega
      rw [List.getElem?_append_left hl] at hb
      have := hR.cl i b hb r hr
      simp; omega

theorem elems_append (B : Blk) {k : IntKind} {v : V} (hv : v.cl M.length) : VM.elems (M ++ [B]) k v = VM.elems M k v := by
  cases v with
  | vec b n =>
    have hb : b < M.length := hv b (by simp [V.refs])
    simp only [VM.elems, List.getElem?_append_left hb]
  | slice b o n c =>
    have hb : b < M.length := hv b (by simp [V.refs])
    simp only [VM.elems, Mem.range, List.getElem?_append_left hb]
  | _ => rfl

theorem erase_none (hR : Rel C ρ κ M w) (B B' : Blk) : ((M ++ [B]).erase M.length).set M.length B' = M ++ [B'] := by
  have : M.erase M.length = M := by
    apply List.ext_getElem?
    intro i
    simp only [Mem.erase, List.getElem?_map]
    cases hb : M[i]? with
    | none => rfl
    | some b =>
      simp only [Option.map_some]
      congr 1
      cases b with
      | own cs T =>
        simp only [Blk.erase]
        congr 1
        refine (List.map_congr_left fun v hv => ?_).trans (List.map_id _)
        rcases eraseB_cases M.length v with h | ⟨h, _⟩
        · unfold V.eraseB at h ⊢
          split
          · rename_i hc
            have := hR.cl i _ hb M.length (by simp only [Blk.refs]; exact V.mem_refsL.2 ⟨v, hv, by simpa using hc⟩)
            omega
          · rfl
        · exact h
      | _ => rfl
  simp only [Mem.erase, List.map_append, List.map_cons, List.map_nil] at this ⊢
  rw [this]
  simp

theorem app_sound (hS : St C n ρ κ M w e a) (hn : n0 ≤ M.length) {k : IntKind} {T : Nat} {x y : Operand} {K : List Nat → V → Mem → Prop} (h : appK n0 mv k T M ((compX x).ev e) ((compX y).ev e) K) (o : Oper) (t : TypeId)
    (ho : o.op = .call { callee := .builtin .append, args := #[x, y], argTypes := #[t, t] }) (ht : C.P.underlying t = some (.slice T)) (hz : zeroIs C.P T k = true) :
    ∃ ρ' κ' w' mvc v M', (execOp a.eval o).run C.P w = .ok (.value (v.real ρ' κ')) w' ∧ St C n ρ' κ' M' w' (e.erases mvc) a ∧ Step (Kset n0 mv) ρ κ M w ρ' κ' M' w' ∧ n0 ≤ M'.length ∧ v.cl M'.length ∧ K mvc v M' := by
  have hexec : ∀ (xv yv : Value) (r : Value) (w' : World), a.eval x = xv → a.eval y = yv → (Builtin.append_ #[t, t] o.type #[xv, yv]).run C.P w = .ok r w' → (execOp a.eval o).run C.P w = .ok (.value r) w' := by
    intro xv yv r w' hx hy hr
    simp [execOp, ho, resolve, invoke, builtin, hx, hy, hr]
  unfold appK at h
  split at h
  · rename_i b m hxe
    split at h
    · rename_i k' xs T' hM
      obtain ⟨rfl, rfl, rfl, hb, h⟩ := h
      split at h
      · rename_i ys hy
        obtain ⟨hle, hK⟩ := h
        have hxr := ev_real hS.env x (by rw [hxe]; simp)
        rw [hxe] at hxr
        have hyr := ev_real hS.env y (hS.rel.elems hy).1
        obtain ⟨ρ', κ', w', hrun, hR', hst⟩ := run_app hS.rel hM t o.type ht hz hy hle
        have hl : M.length ≤ ((M.erase b).set b (.vec k' (xs ++ ys) T')).length := by simp [Mem.erase]
        refine ⟨ρ', κ', w', [b], _, _, hexec _ _ _ _ hxr hyr hrun, hS.erases hR' hl hst, Step.kset hn (by simpa using hb) hst, Nat.le_trans hn hl, ?_, hK⟩
        intro r hr
        simp only [V.refs, List.mem_singleton] at hr
        subst hr
        exact Nat.lt_of_lt_of_le (List.getElem?_eq_some_iff.1 hM).1 hl
      · exact h.elim
    · exact h.elim
  · rename_i hxe
    split at h
    · rename_i ys hy
      obtain ⟨hle, _, _, hK⟩ := h
      have hxr := ev_real hS.env x (by rw [hxe]; simp)
      rw [hxe] at hxr
      have hyr := ev_real hS.env y (hS.rel.elems hy).1
      obtain ⟨hRg, hSg⟩ := hS.rel.ghost k T
      have hMg : (M ++ [Blk.vec k [] T])[M.length]? = some (.vec k [] T) := by simp
      have hcy := ev_cl hS.cl y
      have hyg : VM.elems (M ++ [.vec k [] T]) k ((compX y).ev e) = some ys := by rw [elems_append _ hcy]; exact hy
      obtain ⟨ρ', κ', w', hrun, hR', hst⟩ := run_app hRg hMg t o.type ht hz hyg (by simpa using hle)
      rw [erase_none hS.rel] at hR' hst
      have hx0 : (V.vec M.length ([] : List Int).length).real ρ (updN κ M.length none) = .slice none 0 0 := by simp [V.real, updN_same]
      have hyv : ((compX y).ev e).real ρ (updN κ M.length none) = ((compX y).ev e).real ρ κ := V.real_congr _ (fun b hb => ⟨rfl, updN_ne _ _ (by have := hcy b hb; omega)⟩)
      rw [hx0, hyv] at hrun
      have hst2 := (hSg.weaken (K' := fun i => i < M.length ∧ i ∉ ([] : List Nat)) fun i hi => hi.1).trans (hst.weaken (K' := fun i => i < M.length ∧ i ∉ ([] : List Nat)) fun i hi => ⟨by have := hi.1; simp; omega, by have := hi.1; simp; omega⟩)
      have hl : M.length ≤ (M ++ [Blk.vec k ([] ++ ys) T]).length := by simp
      refine ⟨ρ', κ', w', [], .vec M.length ys.length, M ++ [.vec k ys T], ?_, ?_, ?_, ?_, ?_, hK⟩
      · refine hexec _ _ _ _ hxr hyr ?_
        simpa [V.real] using hrun
      · simpa using hS.erases hR' hl hst2
      · simpa using Step.kset hn (by simp) hst2
      · simp; omega
      · intro r hr
        simp only [V.refs, List.mem_singleton] at hr
        subst hr; simp
    · exact h.elim
  · exact h.elim

/-- what a call does to the state -/
theorem call_sound (hS : St C n ρ κ M w e a) (hn : n0 ≤ M.length) {f : Nat} {vs : List V} (hvs : V.clL M.length vs) {mvc : List Nat} (hmv : ∀ b ∈ mvc, n0 ≤ b ∨ b ∈ mv) {R : V → Mem → Prop}
    (h : VCalls C f vs M mvc R) {next : Act → World → Prop} {Q : Exit → Act → World → Prop} {d : Option Nat} (hd : ∀ k, d = some k → k < n)
    (hnext : ∀ ρ' κ' v M' w' a', St C n ρ' κ' M' w' ((e.erases mvc).putO d v) a' → Step (Kset n0 mv) ρ κ M w ρ' κ' M' w' → n0 ≤ M'.length → R v M' → next a' w') :
    Calls C.P f (V.reals ρ κ vs).toArray w fun
      | .returned v, w'' => next (a.put d v) w''
      | .panicked chain, w'' => Q (.panic chain) a w''
      | .outgrown, _ => LetsOut Q := by
  refine (h ρ κ w hS.rel hvs).mono fun en w' hh => ?_
  obtain ⟨ρ', κ', v, M', rfl, hvc, hR', hl, hst, hr⟩ := hh
  have hE' : EnvRel ρ' κ' (e.erases mvc) n a := ⟨hS.env.size, fun j hj => by
    rcases get_erases e mvc j with h1 | ⟨h1, h2⟩
    · exact absurd h1 hj
    · rw [h1] at hj ⊢
      rw [hS.env.get j hj]
      congr 1
      exact V.real_congr _ (fun b hb => by
        obtain ⟨h3, h4⟩ := hst.agree b ⟨hS.cl j b hb, h2 b hb⟩
        exact ⟨h3.symm, h4.symm⟩)⟩
  have hS' : St C n ρ' κ' M' w' (e.erases mvc) a := ⟨hR', hE', (hS.cl.mono hl).weak (fun j => by
    rcases get_erases e mvc j with h1 | ⟨h1, _⟩
    · exact .inl h1
    · exact .inr h1), hS.defers⟩
  exact hnext ρ' κ' v M' w' _ (hS'.put hd (fun _ => rfl) hvc) (hst.weaken fun i hi => ⟨Nat.lt_of_lt_of_le hi.1 hn, fun hm => by
    rcases hmv i hm with h1 | h1
    · exact absurd hi.1 (by omega)
    · exact hi.2 h1⟩) (Nat.le_trans hn hl) hr

theorem compItem_dst {P : Program} {ops : Array Oper} {o : Oper} {it : Item} (h : compItem P n ops o = some it) : ∀ k, o.dst = some k → k < n := by
  unfold compItem at h
  split at h
  · cases h
  · rename_i hd
    intro k hk
    rw [hk] at hd
    simpa using hd

/-- the goal behind a list of operations -/
def After (C : Ctx) (n0 : Nat) (mv : List Nat) (n : Nat) (ρ : Nat → Nat) (κ : Nat → Option Nat) (M : Mem) (w : World) (Q : Env → Mem → Prop) (a' : Act) (w' : World) : Prop :=
  ∃ ρ' κ' e' M', St C n ρ' κ' M' w' e' a' ∧ Step (Kset n0 mv) ρ κ M w ρ' κ' M' w' ∧ n0 ≤ M'.length ∧ Q e' M'

theorem After.trans {ρ' κ' M' w' Q a'' w''} (h : Step (Kset n0 mv) ρ κ M w ρ' κ' M' w') (h' : After C n0 mv n ρ' κ' M' w' Q a'' w'') : After C n0 mv n ρ κ M w Q a'' w'' := by
  obtain ⟨ρ'', κ'', e'', M'', hS, hst, hn, hq⟩ := h'
  exact ⟨ρ'', κ'', e'', M'', hS, h.trans hst, hn, hq⟩

/-- one operation, whatever its kind -/
theorem item_sound (ops : Array Oper) {o : Oper} {it : Item} (hit : compItem C.P n ops o = some it) {K : (Env → Env) → Mem → Prop} (h : effK C n0 mv it e M K) (hS : St C n ρ κ M w e a) (hn : n0 ≤ M.length)
    (next : Act → World → Prop) (Q' : Exit → Act → World → Prop)
    (hnext : ∀ (f : Env → Env) (M' : Mem) (ρ' : Nat → Nat) (κ' : Nat → Option Nat) (w' : World) (a' : Act), K f M' → St C n ρ' κ' M' w' (f e) a' → Step (Kset n0 mv) ρ κ M w ρ' κ' M' w' → n0 ≤ M'.length → next a' w') :
    if Region.wanted o (yielded ops a.tmps) = true then Oper.wp C.P o a w next Q' else next (a.put o.dst Go.undef) w := by
  have hd := compItem_dst hit
  have doOp : ∀ (vi : VI), compOp C.P o.op = some vi → ∀ (K' : V → Mem → Prop), opK C e M vi K' → (∀ v M', K' v M' → K (fun e => e.putO o.dst v) M') → Oper.wp C.P o a w next Q' := by
    intro vi hvi K' hop hK
    simp only [opK] at hop
    split at hop
    · rename_i v M' hv
      obtain ⟨ρ', κ', w', x, hrun, hv', hvc, hR', hl, hst⟩ := op_sound hS.rel hS.env hS.cl o vi hvi v M' hv
      have hS' := (hS.move hR' hl hst.agree).put hd hv' hvc
      have hst' := hst.weaken (K' := Kset n0 mv) fun i hi => Nat.lt_of_lt_of_le hi.1 hn
      unfold Oper.wp
      rcases hrun with hrun | ⟨hrun, rfl⟩
      · rw [hrun, Oper.upon_value]
        exact hnext _ M' ρ' κ' w' _ (hK _ _ hop) hS' hst' (Nat.le_trans hn hl)
      · rw [hrun, Oper.upon_skip]
        exact hnext _ M' ρ' κ' w' _ (hK _ _ hop) hS' hst' (Nat.le_trans hn hl)
    · exact hop.elim
  have doCall : ∀ (f : Nat) (args : Array Operand) (ts : Array TypeId), o.op = .call { callee := .value (.func f), args := args, argTypes := ts } → callable C.P f = true →
      callK C n0 mv f (vargs e (args.toList.map compX)) M (fun mvc v M' => K (fun e => (e.erases mvc).putO o.dst v) M') → Oper.wp C.P o a w next Q' := by
    intro f args ts hop hf hc
    obtain ⟨hk, mvc, hmv, hcall⟩ := hc
    unfold Oper.wp
    rw [exec_call hop hf, Oper.upon_enter, vargs_real hS.env args hk]
    exact call_sound hS hn (vargs_cl hS.cl _) hmv hcall hd fun ρ' κ' v M' w' a' hS' hst' hn' hr => hnext _ M' ρ' κ' w' a' hr hS' hst' hn'
  unfold compItem at hit
  split at hit
  · cases hit
  · split at hit
    · rename_i hg
      have hw : Region.wanted o (yielded ops a.tmps) = true := by simp [Region.wanted, hg]
      rw [if_pos hw]
      split at hit
      · rename_i f args ts hop
        split at hit
        · rename_i hf
          cases hit
          exact doCall f args ts hop hf h
        · cases hit
      · rename_i t args ts hop
        cases hit
        simp only [effK] at h
        split at h
        · rename_i f cap hfn
          obtain ⟨hf, hk, mvc, hmv, hcall⟩ := h
          have hkk : allKnown (vargs e (args.toList.map compX)) = true := by
            unfold allKnown at hk ⊢
            rw [List.all_append, Bool.and_eq_true] at hk
            exact hk.1
          have hfr : a.eval (.tmp t) = (V.fn f cap).real ρ κ := by
            have := ev_real hS.env (.tmp t) (by simp only [compX]; rw [hfn]; simp)
            simp only [compX] at this
            rw [hfn] at this
            exact this
          have hfc : V.clL M.length cap := by
            have := ev_cl hS.cl (.tmp t)
            simp only [compX] at this
            rw [hfn] at this
            exact this
          unfold Oper.wp
          rw [exec_callv hop hfr hf, Oper.upon_enter, vargs_real hS.env args hkk, List.append_toArray, ← reals_append]
          refine call_sound hS hn ?_ hmv hcall hd fun ρ' κ' v M' w' a' hS' hst' hn' hr => hnext _ M' ρ' κ' w' a' hr hS' hst' hn'
          rw [V.clL_iff] at hfc ⊢
          intro v hv
          rcases List.mem_append.1 hv with hv | hv
          · exact (V.clL_iff.1 (vargs_cl hS.cl args.toList)) v hv
          · exact hfc v hv
        · exact h.elim
      · rename_i x name args ts hop
        cases hit
        simp only [effK] at h
        split at h
        · rename_i t v hx
          split at h
          · rename_i f hm
            obtain ⟨hf, hkv, hk, mvc, hmv, hcall⟩ := h
            have hxr := ev_real hS.env x (by rw [hx]; simp)
            have hxc := ev_cl hS.cl x
            rw [hx] at hxr hxc
            have hkk : allKnown (vargs e (args.toList.map compX)) = true := by
              unfold allKnown at hk ⊢
              simp only [List.all_cons, Bool.and_eq_true] at hk
              exact hk.2
            unfold Oper.wp
            rw [exec_inv hop hxr hm hf, Oper.upon_enter, vargs_real hS.env args hkk]
            have e1 : (#[v.real ρ κ] ++ (V.reals ρ κ (vargs e (args.toList.map compX))).toArray) = (V.reals ρ κ (v :: vargs e (args.toList.map compX))).toArray := by simp [V.reals]
            rw [e1]
            refine call_sound hS hn ?_ hmv hcall hd fun ρ' κ' v M' w' a' hS' hst' hn' hr => hnext _ M' ρ' κ' w' a' hr hS' hst' hn'
            rw [V.clL_iff]
            intro u hu
            rcases List.mem_cons.1 hu with rfl | hu
            · intro b hb; exact hxc b (by simpa [V.refs] using hb)
            · exact (V.clL_iff.1 (vargs_cl hS.cl args.toList)) u hu
          · exact h.elim
        · exact h.elim
      · rename_i args ts hop
        split at hit
        · rename_i x y t t' hargs hts
          split at hit
          · rename_i el hs
            split at hit
            · rename_i k hk
              split at hit
              · rename_i htz
                cases hit
                simp only [Bool.and_eq_true, decide_eq_true_eq] at htz
                obtain ⟨rfl, hz⟩ := htz
                have ha : args = #[x, y] := by apply Array.ext'; simpa using hargs
                have ht : ts = #[t, t] := by apply Array.ext'; simpa using hts
                subst ha; subst ht
                simp only [effK] at h
                obtain ⟨ρ', κ', w', mvc, v, M', hrun, hS', hst, hn', hvc, hK⟩ := app_sound hS hn h o t hop hs hz
                unfold Oper.wp
                rw [hrun, Oper.upon_value]
                exact hnext _ M' ρ' κ' w' _ hK (hS'.put hd (fun _ => rfl) hvc) hst hn'
              · cases hit
            · cases hit
          · cases hit
        · cases hit
      · split at hit
        · rename_i vi hvi
          cases hit
          exact doOp vi hvi _ (by simpa only [effK, guardK] using h) (fun _ _ h => h)
        · cases hit
    · rename_i j want hg
      split at hit
      · rename_i dj hdj
        have guard : ∀ (run skip : Prop), guardK (some (dj, want)) e run skip → (skip → K (fun e => e.putO o.dst .undef) M) → (run → Oper.wp C.P o a w next Q') →
            if Region.wanted o (yielded ops a.tmps) = true then Oper.wp C.P o a w next Q' else next (a.put o.dst Go.undef) w := by
          intro run skip hgk hskip hrun
          simp only [guardK] at hgk
          split at hgk
          · rename_i b hb
            have hy := yielded_get hS.env hdj hb
            by_cases hbw : b = want
            · rw [if_pos hbw] at hgk
              have hw : Region.wanted o (yielded ops a.tmps) = true := by simp [Region.wanted, hg, hy, hbw]
              rw [if_pos hw]
              exact hrun hgk
            · rw [if_neg hbw] at hgk
              have hw : ¬ Region.wanted o (yielded ops a.tmps) = true := by simp [Region.wanted, hg, hy, hbw]
              rw [if_neg hw]
              exact hnext _ M ρ κ w _ (hskip hgk) (hS.put hd (fun hu => absurd rfl hu) V.cl_undef) (Step.refl ..) hn
          · exact hgk.elim
        split at hit
        · rename_i f args ts hop
          split at hit
          · rename_i hf
            cases hit
            exact guard _ _ h (fun hh => hh) (fun hh => doCall f args ts hop hf hh)
          · cases hit
        · split at hit
          · rename_i vi hvi
            cases hit
            exact guard _ _ h (fun hh => hh) (fun hh => doOp vi hvi _ hh (fun _ _ h => h))
          · cases hit
      · cases hit

theorem items_sound (ops : Array Oper) (Q' : Exit → Act → World → Prop) : ∀ (l : List Oper) (its : List Item), compItems C.P n ops l = some its →
    ∀ (e : Env) (M : Mem) (Q : Env → Mem → Prop), wpItems C n0 mv its e M Q → ∀ (ρ : Nat → Nat) (κ : Nat → Option Nat) (w : World) (a : Act), St C n ρ κ M w e a → n0 ≤ M.length →
    (∀ a' w', After C n0 mv n ρ κ M w Q a' w' → Q' .normal a' w') → wpList C.P ops Q' l a w
  | [], its, hc, e, M, Q, h, ρ, κ, w, a, hS, hn, hQ => by
    simp only [compItems, Option.some.injEq] at hc
    subst hc
    exact hQ a w ⟨ρ, κ, e, M, hS, Step.refl .., hn, h⟩
  | o :: l, its, hc, e, M, Q, h, ρ, κ, w, a, hS, hn, hQ => by
    simp only [compItems] at hc
    split at hc
    · rename_i it its' hit hits
      cases hc
      rw [wpItems_eff] at h
      have := item_sound ops hit h hS hn (wpList C.P ops Q' l) Q' fun f M' ρ' κ' w' a' hK hS' hst' hn' =>
        items_sound ops Q' l its' hits (f e) M' Q hK ρ' κ' w' a' hS' hn' fun a'' w'' hA => hQ a'' w'' (hA.trans hst')
      simp only [wpList]
      split at this
      · rename_i hw; rw [if_pos hw]; exact .inl this
      · rename_i hw; rw [if_neg hw]; exact this
    · cases hc

end
end Go.VM
end

section
namespace Go.VM
open Go

/-! What an operation yields rests on what it reads alone. -/
section
variable {C : Ctx} {M : Mem} {e e' : Env} {n0 : Nat} {mv : List Nat}

theorem ev_congr {x : X} (h : ∀ t ∈ x.rd, e.get t = e'.get t) : x.ev e = x.ev e' := by
  cases x with
  | t n => exact h n (by simp [X.rd])
  | c v => rfl

theorem evO_congr {x : Option X} (h : ∀ t ∈ optRd x, e.get t = e'.get t) : x.map (X.ev e) = x.map (X.ev e') := by
  cases x with
  | none => rfl
  | some x => simp only [Option.map_some]; rw [ev_congr h]

theorem evL_congr {xs : List X} (h : ∀ t ∈ xs.flatMap X.rd, e.get t = e'.get t) : xs.map (X.ev e) = xs.map (X.ev e') := by
  refine List.map_congr_left fun x hx => ev_congr fun t ht => h t ?_
  exact List.mem_flatMap.2 ⟨x, hx, ht⟩

theorem evP_congr {ps : List (Nat × Nat × X)} (h : ∀ t ∈ ps.flatMap (fun p => p.2.2.rd), e.get t = e'.get t) :
    (ps.map fun (o, n, x) => (o, n, x.ev e)) = (ps.map fun (o, n, x) => (o, n, x.ev e')) := by
  refine List.map_congr_left fun x hx => ?_
  obtain ⟨o, n, x⟩ := x
  simp only
  rw [ev_congr fun t ht => h t (List.mem_flatMap.2 ⟨_, hx, ht⟩)]

theorem vop_congr {vi : VI} (h : ∀ t ∈ vi.rd, e.get t = e'.get t) : vop C e M vi = vop C e' M vi := by
  cases vi with
  | pick c a b => simp only [vop, VI.rd] at h ⊢; rw [ev_congr (x := c) fun t ht => h t (by simp [ht]), ev_congr (x := a) fun t ht => h t (by simp [ht]), ev_congr (x := b) fun t ht => h t (by simp [ht])]
  | bin op x y => simp only [vop, VI.rd] at h ⊢; rw [ev_congr (x := x) fun t ht => h t (by simp [ht]), ev_congr (x := y) fun t ht => h t (by simp [ht])]
  | idxA n sz x y => simp only [vop, VI.rd] at h ⊢; rw [ev_congr (x := x) fun t ht => h t (by simp [ht]), ev_congr (x := y) fun t ht => h t (by simp [ht])]
  | idxS sz x y => simp only [vop, VI.rd] at h ⊢; rw [ev_congr (x := x) fun t ht => h t (by simp [ht]), ev_congr (x := y) fun t ht => h t (by simp [ht])]
  | st n x y => simp only [vop, VI.rd] at h ⊢; rw [ev_congr (x := x) fun t ht => h t (by simp [ht]), ev_congr (x := y) fun t ht => h t (by simp [ht])]
  | idxV g n sz x y => simp only [vop, VI.rd] at h ⊢; rw [ev_congr (x := x) fun t ht => h t (by simp [ht]), ev_congr (x := y) fun t ht => h t (by simp [ht])]
  | mm b x y => simp only [vop, VI.rd] at h ⊢; rw [ev_congr (x := x) fun t ht => h t (by simp [ht]), ev_congr (x := y) fun t ht => h t (by simp [ht])]
  | idxStr x y => simp only [vop, VI.rd] at h ⊢; rw [ev_congr (x := x) fun t ht => h t (by simp [ht]), ev_congr (x := y) fun t ht => h t (by simp [ht])]
  | slc n sz x lo hi mx =>
    simp only [vop, VI.rd] at h ⊢
    rw [ev_congr (x := x) fun t ht => h t (by simp [ht]), evO_congr (x := lo) fun t ht => h t (by simp [ht]), evO_congr (x := hi) fun t ht => h t (by simp [ht]), evO_congr (x := mx) fun t ht => h t (by simp [ht])]
  | slcS sz x lo hi mx =>
    simp only [vop, VI.rd] at h ⊢
    rw [ev_congr (x := x) fun t ht => h t (by simp [ht]), evO_congr (x := lo) fun t ht => h t (by simp [ht]), evO_congr (x := hi) fun t ht => h t (by simp [ht]), evO_congr (x := mx) fun t ht => h t (by simp [ht])]
  | mkfn f cap => simp only [vop, VI.rd] at h ⊢; rw [evL_congr h]
  | build z ps => simp only [vop, VI.rd] at h ⊢; rw [evP_congr h]
  | bsl T len z ps => simp only [vop, VI.rd] at h ⊢; rw [evP_congr h]
  | alloc b => rfl
  | _ => simp only [vop, VI.rd] at h ⊢; rw [ev_congr h]

theorem vargs_congr {args : List X} (h : ∀ t ∈ args.flatMap X.rd, e.get t = e'.get t) : vargs e args = vargs e' args := evL_congr h

theorem effK_congr {it : Item} {K : (Env → Env) → Mem → Prop} (h : ∀ t ∈ it.rd, e.get t = e'.get t) : effK C n0 mv it e M K = effK C n0 mv it e' M K := by
  cases it with
  | op g d vi =>
    cases g with
    | none => simp only [effK, opK, guardK]; rw [vop_congr h]
    | some g =>
      obtain ⟨j, want⟩ := g
      simp only [effK, opK, guardK]
      rw [vop_congr fun t ht => h t (by simp [Item.rd, ht]), h j (by simp [Item.rd])]
  | call d f args => simp only [effK]; rw [vargs_congr h]
  | callv d fn args =>
    simp only [effK]
    rw [vargs_congr (args := args) fun t ht => h t (List.mem_append_right _ ht), ev_congr (x := fn) fun t ht => h t (List.mem_append_left _ ht)]
  | callg j want d f args =>
    simp only [effK, guardK]
    rw [vargs_congr (args := args) fun t ht => h t (List.mem_cons_of_mem _ ht), h j (List.mem_cons_self ..)]
  | inv d x name args =>
    simp only [effK]
    rw [vargs_congr (args := args) fun t ht => h t (List.mem_append_right _ ht), ev_congr (x := x) fun t ht => h t (List.mem_append_left _ ht)]
  | app d k T x y =>
    simp only [effK]
    rw [ev_congr (x := x) fun t ht => h t (List.mem_append_left _ ht), ev_congr (x := y) fun t ht => h t (List.mem_append_right _ ht)]

/-- How an effect changes a frame: each slot by itself, the slot of its result apart. -/
structure PW (d : Option Nat) (f : Env → Env) : Prop where
  point : ∀ e₁ e₂ t, e₁.get t = e₂.get t → (f e₁).get t = (f e₂).get t
  other : ∀ e t, d ≠ some t → (f e).get t = .undef ∨ (f e).get t = e.get t

theorem get_putO (e : Env) (d : Option Nat) (v : V) (t : Nat) : (e.putO d v).get t = if d = some t then v else e.get t := by
  cases d with
  | none => simp [Env.putO]
  | some k => simp only [Env.putO, get_put, Option.some.injEq]

theorem get_erases_eq (e : Env) (mvc : List Nat) (j : Nat) : (e.erases mvc).get j = if (e.get j).refs.any (mvc.contains ·) then .undef else e.get j := by
  cases mvc with
  | nil =>
    simp only [Env.erases]
    rw [if_neg]
    simp
  | cons c cs =>
    simp only [Env.erases]
    induction e with
    | nil => simp [Env.get, V.refs]
    | cons x r ih =>
      obtain ⟨k, v⟩ := x
      simp only [List.map_cons, get_put]
      split
      · rfl
      · exact ih

theorem PW.put (d : Option Nat) (v : V) : PW d (fun e => e.putO d v) :=
  ⟨fun e₁ e₂ t h => by show (e₁.putO d v).get t = (e₂.putO d v).get t; rw [get_putO, get_putO, h], fun e t hd => .inr (by show (e.putO d v).get t = _; rw [get_putO, if_neg hd])⟩

theorem PW.call (mvc : List Nat) (d : Option Nat) (v : V) : PW d (fun e => (e.erases mvc).putO d v) :=
  ⟨fun e₁ e₂ t h => by show ((e₁.erases mvc).putO d v).get t = ((e₂.erases mvc).putO d v).get t; rw [get_putO, get_putO, get_erases_eq, get_erases_eq, h], fun e t hd => by
    show ((e.erases mvc).putO d v).get t = .undef ∨ ((e.erases mvc).putO d v).get t = _
    rw [get_putO, if_neg hd, get_erases_eq]
    split
    · exact .inl rfl
    · exact .inr rfl⟩

theorem opK_mono {vi : VI} {K K' : V → Mem → Prop} (h : ∀ v M', K v M' → K' v M') (hk : opK C e M vi K) : opK C e M vi K' := by
  unfold opK at hk ⊢
  split
  · rename_i v M' hv; rw [hv] at hk; exact h _ _ hk
  · rename_i hv; rw [hv] at hk; exact hk

theorem guardK_mono {g : Option (Nat × Bool)} {a b a' b' : Prop} (h1 : a → a') (h2 : b → b') (h : guardK g e a b) : guardK g e a' b' := by
  unfold guardK at h ⊢
  split at h
  · exact h1 h
  · split at h
    · rename_i b' hb
      split at h
      · rename_i hw; rw [if_pos hw]; exact h1 h
      · rename_i hw; rw [if_neg hw]; exact h2 h
    · exact h.elim

theorem VCalls.imp {f : Nat} {vs : List V} {mvc : List Nat} {R R' : V → Mem → Prop} (h : VCalls C f vs M mvc R) (hR : ∀ v M', R v M' → R' v M') : VCalls C f vs M mvc R' := by
  intro ρ κ w hr hv
  refine (h ρ κ w hr hv).mono fun en w' hh => ?_
  obtain ⟨ρ', κ', v, M', h1, h2, h3, h4, h5, h6⟩ := hh
  exact ⟨ρ', κ', v, M', h1, h2, h3, h4, h5, hR _ _ h6⟩

theorem callK_mono {f : Nat} {vs : List V} {K K' : List Nat → V → Mem → Prop} (h : ∀ m v M', K m v M' → K' m v M') (hk : callK C n0 mv f vs M K) : callK C n0 mv f vs M K' := by
  obtain ⟨h1, mvc, h2, h3⟩ := hk
  exact ⟨h1, mvc, h2, h3.imp fun v M' => h mvc v M'⟩

theorem appK_mono {k : IntKind} {T : Nat} {x y : V} {K K' : List Nat → V → Mem → Prop} (h : ∀ m v M', K m v M' → K' m v M') (hk : appK n0 mv k T M x y K) : appK n0 mv k T M x y K' := by
  unfold appK at hk ⊢
  split at hk
  · split at hk
    · rename_i k' xs T' hM
      obtain ⟨h1, h2, h3, h4, h5⟩ := hk
      refine ⟨h1, h2, h3, h4, ?_⟩
      split at h5
      · exact ⟨h5.1, h _ _ _ h5.2⟩
      · exact h5.elim
    · exact hk.elim
  · split at hk
    · exact ⟨hk.1, hk.2.1, hk.2.2.1, h _ _ _ hk.2.2.2⟩
    · exact hk.elim
  · exact hk.elim

theorem effK_pw {it : Item} {K K' : (Env → Env) → Mem → Prop} (hk : effK C n0 mv it e M K) (h : ∀ f M', PW it.dst f → K f M' → K' f M') : effK C n0 mv it e M K' := by
  cases it with
  | op g d vi => exact guardK_mono (opK_mono fun v M' hK => h _ _ (PW.put d v) hK) (fun hK => h _ _ (PW.put d _) hK) hk
  | call d f args => exact callK_mono (fun m v M' hK => h _ _ (PW.call m d v) hK) hk
  | callv d fn args =>
    simp only [effK] at hk ⊢
    split at hk
    · exact ⟨hk.1, callK_mono (fun m v M' hK => h _ _ (PW.call m d v) hK) hk.2⟩
    · exact hk.elim
  | callg j want d f args =>
    simp only [effK] at hk ⊢
    exact guardK_mono (callK_mono fun m v M' hK => h _ _ (PW.call m d v) hK) (fun hK => h _ _ (PW.put d _) hK) hk
  | inv d x name args =>
    simp only [effK] at hk ⊢
    split at hk
    · split at hk
      · exact ⟨hk.1, hk.2.1, callK_mono (fun m v M' hK => h _ _ (PW.call m d v) hK) hk.2.2⟩
      · exact hk.elim
    · exact hk.elim
  | app d k T x y =>
    simp only [effK] at hk ⊢
    exact appK_mono (fun m v M' hK => h _ _ (PW.call m d v) hK) hk
end
end Go.VM
end

section
namespace Go.VM
open Go

section
variable {C : Ctx} {M : Mem} {n0 : Nat} {mv : List Nat} {n : Nat}

/-- A floating item gives v. -/
def FV (C : Ctx) (it : Item) (e : Env) (M : Mem) (v : V) : Prop :=
  match it with
  | .op g _ vi => guardK g e (opK C e M vi fun u _ => u = v) (v = .undef)
  | _ => False

theorem FV_congr {it : Item} {e e' : Env} {v : V} (h : ∀ t ∈ it.rd, e.get t = e'.get t) (hv : FV C it e M v) : FV C it e' M v := by
  cases it with
  | op g d vi =>
    cases g with
    | none => simp only [FV, guardK, opK] at hv ⊢; rw [← vop_congr h]; exact hv
    | some g =>
      obtain ⟨j, want⟩ := g
      simp only [FV, guardK, opK] at hv ⊢
      rw [← h j (by simp [Item.rd]), ← vop_congr (e := e) fun t ht => h t (by simp [Item.rd, ht])]
      exact hv
  | _ => exact hv.elim

theorem quiet_split {g : Option (Nat × Bool)} {d : Nat} {vi : VI} {r : List Item} {e : Env} {Q : Env → Prop} (h : wpQuiet C (.op g (some d) vi :: r) e M Q) :
    ∃ v, FV C (.op g (some d) vi) e M v ∧ wpQuiet C r (e.putO (some d) v) M Q := by
  simp only [wpQuiet] at h
  have key : ∀ {a b : Prop} {a' b' : V → Prop}, guardK g e a b → (a → ∃ v, a' v ∧ wpQuiet C r (e.putO (some d) v) M Q) → (b → b' .undef ∧ wpQuiet C r (e.putO (some d) .undef) M Q) →
      ∃ v, guardK g e (a' v) (b' v) ∧ wpQuiet C r (e.putO (some d) v) M Q := by
    intro a b a' b' hg ha hb
    unfold guardK at hg ⊢
    split at hg
    · obtain ⟨v, h1, h2⟩ := ha hg; exact ⟨v, h1, h2⟩
    · split at hg
      · rename_i bb hbb
        split at hg
        · rename_i hw; obtain ⟨v, h1, h2⟩ := ha hg; exact ⟨v, by rw [if_pos hw]; exact h1, h2⟩
        · rename_i hw; obtain ⟨h1, h2⟩ := hb hg; exact ⟨.undef, by rw [if_neg hw]; exact h1, h2⟩
      · exact hg.elim
  refine key (a' := fun v => opK C e M vi fun u _ => u = v) (b' := fun v => v = .undef) h (fun ha => ?_) (fun hb => ⟨rfl, hb⟩)
  unfold opK at ha
  split at ha
  · rename_i v M' hv
    exact ⟨v, by unfold opK; rw [hv], ha⟩
  · exact ha.elim

theorem effK_of_FV {g : Option (Nat × Bool)} {d : Nat} {vi : VI} {e : Env} {v : V} (hq : vi.quiet = true) (h : FV C (.op g (some d) vi) e M v) :
    effK C n0 mv (.op g (some d) vi) e M fun f M' => M' = M ∧ f = fun e => e.putO (some d) v := by
  simp only [effK, FV] at h ⊢
  refine guardK_mono (fun ho => ?_) (fun hv => ⟨trivial, by rw [hv]⟩) h
  unfold opK at ho ⊢
  split at ho
  · rename_i u M' hu
    subst ho
    exact ⟨vop_quiet hq hu, rfl⟩
  · exact ho.elim

theorem compItems_get {P : Program} {ops : Array Oper} : ∀ (l : List Oper) (its : List Item), compItems P n ops l = some its → ∀ (i : Nat) (o : Oper), l[i]? = some o → ∃ it, its[i]? = some it ∧ compItem P n ops o = some it
  | [], its, _, i, o, h => by simp at h
  | o :: l, its, h, i, o', ho => by
    simp only [compItems] at h
    split at h
    · rename_i it its' hit hits
      cases h
      cases i with
      | zero => simp only [List.getElem?_cons_zero, Option.some.injEq] at ho; subst ho; exact ⟨it, rfl, hit⟩
      | succ i => simpa using compItems_get l its' hits i o' (by simpa using ho)
    · cases h

/-- all that are listed have what they wait for listed -/
def ClosedL (ops : Array Oper) (L : Nat → Prop) : Prop := ∀ i, L i → ∀ d ∈ depsOf ops i, L d

theorem ancTab_length (ops : Array Oper) : ∀ m, (ancTab ops m).length = m
  | 0 => rfl
  | m + 1 => by simp [ancTab, ancTab_length ops m]

theorem anc_closed (ops : Array Oper) {L : Nat → Prop} (hL : ClosedL ops L) : ∀ (m i : Nat), i < m → (∀ d ∈ depsOf ops i, L d) → ∀ j ∈ (ancTab ops m).getD i [], L j
  | 0, i, hi, _, _, _ => by omega
  | m + 1, i, hi, hd, j, hj => by
    have hlen := ancTab_length ops m
    simp only [ancTab] at hj
    rcases Nat.lt_or_ge i m with h | h
    · rw [List.getD_eq_getElem?_getD, List.getElem?_append_left (by omega), ← List.getD_eq_getElem?_getD] at hj
      exact anc_closed ops hL m i h hd j hj
    · have : i = m := by omega
      subst this
      rw [List.getD_eq_getElem?_getD, List.getElem?_append_right (by omega), hlen, Nat.sub_self] at hj
      simp only [List.getElem?_cons_zero, Option.getD_some, List.mem_eraseDups, List.mem_append, List.mem_flatMap] at hj
      rcases hj with hj | ⟨d, hdm, hj⟩
      · exact hd j hj
      · rcases Nat.lt_or_ge d i with hlt | hge
        · exact anc_closed ops hL i d hlt (hL d (hd d hdm)) j hj
        · rw [List.getD_eq_getElem?_getD, List.getElem?_eq_none (by omega)] at hj
          simp at hj

theorem levOf_le (cs l : List Nat) : ∀ m, levOf cs l m ≤ m
  | 0 => Nat.le_refl _
  | m + 1 => by
    have := levOf_le cs l m
    simp only [levOf]
    split
    · split <;> omega
    · omega

theorem levOf_spec (cs l : List Nat) : ∀ m k, levOf cs l m = k + 1 → ∃ c, cs[k]? = some c ∧ c ∈ l
  | 0, k, h => by simp [levOf] at h
  | m + 1, k, h => by
    simp only [levOf] at h
    split at h
    · rename_i c hc
      split at h
      · rename_i hl
        have : m = k := by omega
        subst this
        exact ⟨c, hc, by simpa using hl⟩
      · exact levOf_spec cs l m k h
    · exact levOf_spec cs l m k h

theorem chain_prev (tab : List (List Nat)) : ∀ (cs : List Nat), chainOK tab cs = true → ∀ (m c c' : Nat), cs[m]? = some c → cs[m + 1]? = some c' → c ∈ tab.getD c' []
  | [], _, m, c, c', h, _ => by simp at h
  | [x], _, m, c, c', h, h' => by simp at h'
  | x :: y :: r, hk, m, c, c', h, h' => by
    simp only [chainOK, Bool.and_eq_true] at hk
    cases m with
    | zero =>
      simp only [List.getElem?_cons_zero, Option.some.injEq, Nat.zero_add, List.getElem?_cons_succ] at h h'
      subst h; subst h'
      simpa using hk.1
    | succ m => exact chain_prev tab (y :: r) hk.2 m c c' (by simpa using h) (by simpa using h')
end
end Go.VM
end
