/-
  A part of a small machine over the model, or of a walk by it, proved right against the model. Proved outright, under no condition but what each theorem names.
-/
import Derived.Test.YtahmhofnilgfgaaVM
namespace Go.VM
open Go

/-! Functions. -/
inductive VRes where
  | tmp (t : Nat)
  | cell (t : Nat)            -- one cell
  | cells (t sz : Nat)        -- an aggregate
  deriving Inhabited

structure VFn where
  nt : Nat
  res : List VRes
  body : VC
  deriving Inhabited

def vres1 (e : Env) (M : Mem) : VRes → Option V
  | .tmp t => if (e.get t).known then some (e.get t) else none
  | .cell t => match e.get t with
    | .ptr b o => match M.cell b o with
      | some v => if v.known then some v else none
      | none => none
    | _ => none
  | .cells t sz => match e.get t with
    | .ptr b o => M.range b o sz
    | _ => none

def vresL (e : Env) (M : Mem) : List VRes → Option (List V)
  | [] => some []
  | r :: rs => match vres1 e M r, vresL e M rs with
    | some v, some vs => some (v :: vs)
    | _, _ => none

def vres (e : Env) (M : Mem) (rs : List VRes) : Option V :=
  match rs with
  | [r] => vres1 e M r
  | rs => match vresL e M rs with
    | some vs => some (.tup vs)
    | none => none

def compRes (P : Program) : List ResultVar → Option (List VRes)
  | [] => some []
  | .tmp t :: r => match compRes P r with
    | some l => some (.tmp t :: l)
    | none => none
  | .cell a t :: r => match aggT P t, sizeT P t, compRes P r with
    | some true, some n, some l => some (.cells a n :: l)
    | some false, _, some l => some (.cell a :: l)
    | _, _, _ => none

def compFn (P : Program) (hs : List (Nat × List Nat)) (f : Nat) : Option VFn :=
  match P.funcs[f]? with
  | none => none
  | some fn => match fn.body with
    | none => none
    | some c => match comp P fn.ntmps hs c, compRes P fn.results.toList with
      | some vc, some rs => some { nt := fn.ntmps, res := rs, body := vc }
      | _, _ => none

def Env.ofArgs : Nat → List V → Env
  | _, [] => []
  | k, v :: vs => (k, v) :: Env.ofArgs (k + 1) vs

/-- The final state, blocks renamed or left away. -/
inductive Fin (n0 : Nat) (v : V) (M : Mem) : V → Mem → Prop
  | refl : Fin n0 v M v M
  | ren (v' : V) (M' : Mem) (σ : Nat → Nat) (h0 : ∀ j, j < n0 → σ j = j) (hn : n0 ≤ M'.length) (hinj : ∀ i j, i < M'.length → j < M'.length → σ i = σ j → i = j)
      (hM : ∀ (j : Nat) (b : Blk), M'[j]? = some b → M[σ j]? = some (b.ren σ)) (hv : v = v'.ren σ) (hcv : v'.cl M'.length)
      (hcM : ∀ (j : Nat) (b : Blk), M'[j]? = some b → ∀ r ∈ b.refs, r < M'.length) : Fin n0 v M v' M'

def fnPost (n0 : Nat) (rs : List VRes) (R : V → Mem → Prop) : VX → Env → Mem → Prop
  | .exit _, _, _ => False
  | _, e, M => match vres e M rs with
    | some v => ∃ v' M', Fin n0 v M v' M' ∧ R v' M'
    | none => False

section
variable {C : Ctx} {n0 : Nat} {mv : List Nat} {n : Nat} {ρ : Nat → Nat} {κ : Nat → Option Nat} {M : Mem} {w : World} {e : Env} {a : Act}

def resOne (tmps : Array Value) : ResultVar → Sem Value
  | .tmp t => pure (tmps.getD t undef)
  | .cell a t => do loadVar t (← asAddr (tmps.getD a undef))

theorem tmps_get (hE : EnvRel ρ κ e n a) {t : Nat} (h : e.get t ≠ .undef) : a.tmps.getD t undef = (e.get t).real ρ κ := by
  rw [Array.getD_eq_getD_getElem?, hE.get t h]; rfl

theorem res1_sound (hS : St C n ρ κ M w e a) (r : ResultVar) (rs : List ResultVar) (x : VRes) (xs : List VRes) (hc : compRes C.P (r :: rs) = some (x :: xs)) (v : V) (h : vres1 e M x = some v) :
    (resOne a.tmps r).run C.P w = .ok (v.real ρ κ) w ∧ v.cl M.length ∧ compRes C.P rs = some xs := by
  cases r with
  | tmp t =>
    simp only [compRes] at hc
    split at hc
    · rename_i l hl
      cases hc
      simp only [vres1] at h
      split at h
      · rename_i hk
        cases h
        refine ⟨?_, hS.cl t, hl⟩
        simp only [resOne, tmps_get hS.env (known_ne hk), Sem.run_pure]
      · cases h
    · cases hc
  | cell ad t =>
    simp only [compRes] at hc
    split at hc
    · rename_i sz l hg hz hl
      cases hc
      simp only [vres1] at h
      split at h
      · rename_i b o hx
        obtain ⟨hcl, _, vs, hv, hlen, hcells⟩ := hS.rel.range h
        refine ⟨?_, hcl, hl⟩
        have hp : a.tmps.getD ad undef = .pointer (some ⟨ρ b, o, none⟩) := by
          rw [tmps_get hS.env (by rw [hx]; simp), hx]; rfl
        simp only [resOne, hp, asAddr, Sem.run_bind, Sem.run_pure, Result.andThen_ok, loadVar, aggT_run hg, if_true, sizeT_run hz]
        subst hlen
        rw [run_loadCells_list (P := C.P) w ⟨ρ b, o, none⟩ vs (fun j u hj => by rw [Addr.add_lit]; exact hcells j u hj)]
        simp [hv]
      · cases h
    · rename_i l hg hl
      cases hc
      simp only [vres1] at h
      split at h
      · rename_i b o hx
        split at h
        · rename_i u hu
          split at h
          · rename_i hk
            cases h
            obtain ⟨y, hy, hyv⟩ := hS.rel.cell hu
            refine ⟨?_, hS.rel.cell_cl hu, hl⟩
            have hp : a.tmps.getD ad undef = .pointer (some ⟨ρ b, o, none⟩) := by
              rw [tmps_get hS.env (by rw [hx]; simp), hx]; rfl
            simp only [resOne, hp, asAddr, Sem.run_bind, Sem.run_pure, Result.andThen_ok, loadVar, aggT_run hg]
            simp [hy, hyv (known_ne hk)]
          · cases h
        · cases h
      · cases h
    · cases hc

theorem resL_sound (hS : St C n ρ κ M w e a) : ∀ (rs : List ResultVar) (xs : List VRes) (vs : List V), compRes C.P rs = some xs → vresL e M xs = some vs →
    (rs.mapM (resOne a.tmps)).run C.P w = .ok (V.reals ρ κ vs) w ∧ V.clL M.length vs
  | [], xs, vs, hc, h => by
    simp only [compRes, Option.some.injEq] at hc
    subst hc
    simp only [vresL, Option.some.injEq] at h
    subst h
    exact ⟨rfl, by intro b hb; simp [V.refsL] at hb⟩
  | r :: rs, xs, vs, hc, h => by
    cases xs with
    | nil =>
      cases r with
      | tmp t => simp only [compRes] at hc; split at hc <;> cases hc
      | cell ad t => simp only [compRes] at hc; (repeat' split at hc) <;> cases hc
    | cons x xs =>
      simp only [vresL] at h
      split at h
      · rename_i v vs' hv hvs
        cases h
        obtain ⟨h1, h2, h3⟩ := res1_sound hS r rs x xs hc v hv
        obtain ⟨h4, h5⟩ := resL_sound hS rs xs vs' h3 hvs
        refine ⟨?_, ?_⟩
        · simp only [List.mapM_cons, Sem.run_bind, h1, Result.andThen_ok, h4, Sem.run_pure, V.reals]
        · rw [V.clL_iff] at h5 ⊢
          intro u hu
          rcases List.mem_cons.1 hu with rfl | hu
          · exact h2
          · exact h5 u hu
      · cases h

theorem results_eq (fn : Func) (tmps : Array Value) : Go.results fn tmps = (do
    let vs ← fn.results.mapM (resOne tmps)
    pure (if h : vs.size = 1 then vs[0] else .tuple vs)) := by
  unfold Go.results
  congr 1

theorem compRes_length {P : Program} : ∀ (rs : List ResultVar) (xs : List VRes), compRes P rs = some xs → xs.length = rs.length
  | [], xs, h => by simp only [compRes, Option.some.injEq] at h; subst h; rfl
  | .tmp t :: rs, xs, h => by
    simp only [compRes] at h
    split at h
    · rename_i l hl; cases h; simp [compRes_length rs l hl]
    · cases h
  | .cell a t :: rs, xs, h => by
    simp only [compRes] at h
    split at h
    · rename_i l _ _ hl; cases h; simp [compRes_length rs l hl]
    · rename_i l _ hl; cases h; simp [compRes_length rs l hl]
    · cases h

theorem res_sound (hS : St C n ρ κ M w e a) (fn : Func) (xs : List VRes) (v : V) (hc : compRes C.P fn.results.toList = some xs) (h : vres e M xs = some v) :
    (Go.results fn a.tmps).run C.P w = .ok (v.real ρ κ) w ∧ v.cl M.length := by
  have hr : fn.results = fn.results.toList.toArray := (Array.toArray_toList).symm
  rw [results_eq, hr, List.mapM_toArray]
  simp only [Sem.run_bind, Sem.run_map]
  unfold vres at h
  split at h
  · rename_i x
    generalize fn.results.toList = rs at hc
    match rs, hc with
    | [r], hc =>
      obtain ⟨h1, h2, _⟩ := res1_sound hS r [] x [] hc v h
      refine ⟨?_, h2⟩
      simp [h1]
    | [], hc => simp [compRes] at hc
    | r :: r' :: rs, hc =>
      have := compRes_length _ _ hc
      simp at this
  · rename_i hne
    split at h
    · rename_i vs hvs
      cases h
      obtain ⟨h1, h2⟩ := resL_sound hS _ _ vs hc hvs
      refine ⟨?_, h2⟩
      rw [h1]
      simp only [Result.andThen_ok, Sem.run_pure, V.real]
      have hl : ∀ (rs : List VRes) (us : List V), vresL e M rs = some us → us.length = rs.length := by
        intro rs
        induction rs with
        | nil => intro us h; simp [vresL] at h; subst h; rfl
        | cons r rs ih =>
          intro us h
          simp only [vresL] at h
          split at h
          · rename_i u us' _ hus; cases h; simp [ih us' hus]
          · cases h
      have hlen : vs.length ≠ 1 := by
        rw [hl _ _ hvs]
        intro h1
        match xs, h1 with
        | [x], _ => exact hne x rfl
      rw [dif_neg (by simpa [V.reals_map] using hlen)]
    · cases h

theorem get_ofArgs : ∀ (vs : List V) (k j : Nat), (Env.ofArgs k vs).get j = if k ≤ j then (vs[j - k]?).getD .undef else .undef
  | [], k, j => by simp [Env.ofArgs, Env.get]
  | v :: vs, k, j => by
    simp only [Env.ofArgs, get_put, get_ofArgs vs (k + 1) j]
    by_cases h1 : k = j
    · subst h1; simp
    · rw [if_neg h1]
      by_cases h2 : k ≤ j
      · rw [if_pos h2, if_pos (by omega)]
        have : j - k = (j - (k + 1)) + 1 := by omega
        rw [this, List.getElem?_cons_succ]
      · rw [if_neg h2, if_neg (by omega)]

/-- A function's call, by its body. -/
theorem VCalls.of_fn {f : Nat} {hs : List (Nat × List Nat)} {F : VFn} (hF : compFn C.P hs f = some F) {vs : List V} {R : V → Mem → Prop} (hl : vs.length ≤ F.nt)
    (h : VWp C M.length mv F.body (Env.ofArgs 0 vs) M (fnPost M.length F.res R)) : VCalls C f vs M mv R := by
  intro ρ κ w hR hcl
  unfold compFn at hF
  split at hF
  · cases hF
  · rename_i fn hfn
    split at hF
    · cases hF
    · rename_i c hbody
      split at hF
      · rename_i vc rs hvc hrs
        cases hF
        simp only at h hl
        refine calls_of_wp hfn hbody ?_
        have hS : St C fn.ntmps ρ κ M w (Env.ofArgs 0 vs) { tmps := (V.reals ρ κ vs).toArray ++ Array.replicate (fn.ntmps - (V.reals ρ κ vs).toArray.size) undef, defers := [] } := by
          refine ⟨hR, ⟨?_, ?_⟩, ?_, rfl⟩
          · simp [V.reals_map]; omega
          · intro j hj
            rw [get_ofArgs] at hj ⊢
            simp only [Nat.zero_le, if_true, Nat.sub_zero] at hj ⊢
            cases hq : vs[j]? with
            | none => rw [hq] at hj; exact absurd rfl hj
            | some u =>
              have hlt : j < vs.length := (List.getElem?_eq_some_iff.1 hq).1
              rw [Array.getElem?_append_left (by simp [V.reals_map]; exact hlt)]
              simp [reals_getElem?, hq]
          · intro j b hb
            rw [get_ofArgs] at hb
            simp only [Nat.zero_le, if_true, Nat.sub_zero] at hb
            cases hq : vs[j]? with
            | none => rw [hq] at hb; simp [V.refs] at hb
            | some u =>
              rw [hq] at hb
              exact hcl b (V.mem_refsL.2 ⟨u, List.mem_of_getElem? hq, hb⟩)
        refine wp_mono (code_sound hs c vc hvc _ M _ h ρ κ _ w hS (Nat.le_refl _)) fun ex a' w' hp => ?_
        obtain ⟨q, ρ', κ', e', M', rfl, hS', hst, hn', hq⟩ := hp
        have fin : (match vres e' M' rs with
            | some v => ∃ v' M'', Fin M.length v M' v' M'' ∧ R v' M''
            | none => False) → a'.defers = [] ∧ ∃ v, (Go.results fn a'.tmps).run C.P w' = .ok v w' ∧ (fun en w' => ∃ ρ' κ' v M', en = Ending.returned (v.real ρ' κ') ∧ v.cl M'.length ∧
              Rel C ρ' κ' M' w' ∧ M.length ≤ M'.length ∧ Step (fun i => i < M.length ∧ i ∉ mv) ρ κ M w ρ' κ' M' w' ∧ R v M') (.returned v) w' := by
          intro hq
          split at hq
          · rename_i v hv
            obtain ⟨v', M'', hfin, hr⟩ := hq
            obtain ⟨h1, h2⟩ := res_sound hS' fn rs v hrs hv
            refine ⟨hS'.defers, _, h1, ?_⟩
            cases hfin with
            | refl => exact ⟨ρ', κ', v, M', rfl, h2, hS'.rel, hn', hst, hr⟩
            | ren _ _ σ h0 hn2 hinj hM hv2 hcv hcM =>
              obtain ⟨hR₂, hst₂⟩ := ren_sound (n0 := M.length) (mv := mv) hS'.rel σ h0 hinj hM hcM
              exact ⟨_, _, v', M'', by rw [hv2, V.real_ren], hcv, hR₂, hn2, hst.trans hst₂, hr⟩
          · exact hq.elim
        cases q with
        | normal => exact fin hq
        | ret => exact fin hq
        | exit id => exact hq.elim
      · cases hF
end
end Go.VM
