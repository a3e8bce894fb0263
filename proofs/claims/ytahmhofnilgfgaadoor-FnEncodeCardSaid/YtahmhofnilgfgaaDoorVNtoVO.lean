/-
  A function whose compiled code ends as asked does so in the model; an evaluator for closed calls, proved right. No condition but what each theorem names.
-/
import Derived.Test.YtahmhofnilgfgaaDoorVM2toVM
set_option linter.unusedVariables false
set_option linter.unusedSimpArgs false
section
namespace Go.VM
open Go

/-! Functions. -/
inductive VRes where
  | tmp (t : Nat)
  | cell (t : Nat)            -- one cell
  | cells (t sz : Nat)        -- an aggregate
  deriving Inhabited

structure VFn where
  nt : Nat
  res : List VRes
  body : VC
  deriving Inhabited

def vres1 (e : Env) (M : Mem) : VRes → Option V
  | .tmp t => if (e.get t).known then some (e.get t) else none
  | .cell t => match e.get t with
    | .ptr b o => match M.cell b o with
      | some v => if v.known then some v else none
      | none => none
    | _ => none
  | .cells t sz => match e.get t with
    | .ptr b o => M.range b o sz
    | _ => none

def vresL (e : Env) (M : Mem) : List VRes → Option (List V)
  | [] => some []
  | r :: rs => match vres1 e M r, vresL e M rs with
    | some v, some vs => some (v :: vs)
    | _, _ => none

def vres (e : Env) (M : Mem) (rs : List VRes) : Option V :=
  match rs with
  | [r] => vres1 e M r
  | rs => match vresL e M rs with
    | some vs => some (.tup vs)
    | none => none

def compRes (P : Program) : List ResultVar → Option (List VRes)
  | [] => some []
  | .tmp t :: r => match compRes P r with
    | some l => some (.tmp t :: l)
    | none => none
  | .cell a t :: r => match aggT P t, sizeT P t, compRes P r with
    | some true, some n, some l => some (.cells a n :: l)
    | some false, _, some l => some (.cell a :: l)
    | _, _, _ => none

def compFn (P : Program) (hs : List (Nat × List Nat)) (f : Nat) : Option VFn :=
  match P.funcs[f]? with
  | none => none
  | some fn => match fn.body with
    | none => none
    | some c => match comp P fn.ntmps hs c, compRes P fn.results.toList with
      | some vc, some rs => some { nt := fn.ntmps, res := rs, body := vc }
      | _, _ => none

def Env.ofArgs : Nat → List V → Env
  | _, [] => []
  | k, v :: vs => (k, v) :: Env.ofArgs (k + 1) vs

/-- The final state, blocks renamed or left away. -/
inductive Fin (n0 : Nat) (v : V) (M : Mem) : V → Mem → Prop
  | refl : Fin n0 v M v M
  | ren (v' : V) (M' : Mem) (σ : Nat → Nat) (h0 : ∀ j, j < n0 → σ j = j) (hn : n0 ≤ M'.length) (hinj : ∀ i j, i < M'.length → j < M'.length → σ i = σ j → i = j)
      (hM : ∀ (j : Nat) (b : Blk), M'[j]? = some b → M[σ j]? = some (b.ren σ)) (hv : v = v'.ren σ) (hcv : v'.cl M'.length)
      (hcM : ∀ (j : Nat) (b : Blk), M'[j]? = some b → ∀ r ∈ b.refs, r < M'.length) : Fin n0 v M v' M'

def fnPost (n0 : Nat) (rs : List VRes) (R : V → Mem → Prop) : VX → Env → Mem → Prop
  | .exit _, _, _ => False
  | _, e, M => match vres e M rs with
    | some v => ∃ v' M', Fin n0 v M v' M' ∧ R v' M'
    | none => False

section
variable {C : Ctx} {n0 : Nat} {mv : List Nat} {n : Nat} {ρ : Nat → Nat} {κ : Nat → Option Nat} {M : Mem} {w : World} {e : Env} {a : Act}

def resOne (tmps : Array Value) : ResultVar → Sem Value
  | .tmp t => pure (tmps.getD t undef)
  | .cell a t => do loadVar t (← asAddr (tmps.getD a undef))

theorem tmps_get (hE : EnvRel ρ κ e n a) {t : Nat} (h : e.get t ≠ .undef) : a.tmps.getD t undef = (e.get t).real ρ κ := by
  rw [Array.getD_eq_getD_getElem?, hE.get t h]; rfl

theorem res1_sound (hS : St C n ρ κ M w e a) (r : ResultVar) (rs : List ResultVar) (x : VRes) (xs : List VRes) (hc : compRes C.P (r :: rs) = some (x :: xs)) (v : V) (h : vres1 e M x = some v) :
    (resOne a.tmps r).run C.P w = .ok (v.real ρ κ) w ∧ v.cl M.length ∧ compRes C.P rs = some xs := by
  cases r with
  | tmp t =>
    simp only [compRes] at hc
    split at hc
    · rename_i l hl
      cases hc
      simp only [vres1] at h
      split at h
      · rename_i hk
        cases h
        refine ⟨?_, hS.cl t, hl⟩
        simp only [resOne, tmps_get hS.env (known_ne hk), Sem.run_pure]
      · cases h
    · cases hc
  | cell ad t =>
    simp only [compRes] at hc
    split at hc
    · rename_i sz l hg hz hl
      cases hc
      simp only [vres1] at h
      split at h
      · rename_i b o hx
        obtain ⟨hcl, _, vs, hv, hlen, hcells⟩ := hS.rel.range h
        refine ⟨?_, hcl, hl⟩
        have hp : a.tmps.getD ad undef = .pointer (some ⟨ρ b, o, none⟩) := by
          rw [tmps_get hS.env (by rw [hx]; simp), hx]; rfl
        simp only [resOne, hp, asAddr, Sem.run_bind, Sem.run_pure, Result.andThen_ok, loadVar, aggT_run hg, if_true, sizeT_run hz]
        subst hlen
        rw [run_loadCells_list (P := C.P) w ⟨ρ b, o, none⟩ vs (fun j u hj => by rw [Addr.add_lit]; exact hcells j u hj)]
        simp [hv]
      · cases h
    · rename_i l hg hl
      cases hc
      simp only [vres1] at h
      split at h
      · rename_i b o hx
        split at h
        · rename_i u hu
          split at h
          · rename_i hk
            cases h
            obtain ⟨y, hy, hyv⟩ := hS.rel.cell hu
            refine ⟨?_, hS.rel.cell_cl hu, hl⟩
            have hp : a.tmps.getD ad undef = .pointer (some ⟨ρ b, o, none⟩) := by
              rw [tmps_get hS.env (by rw [hx]; simp), hx]; rfl
            simp only [resOne, hp, asAddr, Sem.run_bind, Sem.run_pure, Result.andThen_ok, loadVar, aggT_run hg]
            simp [hy, hyv (known_ne hk)]
          · cases h
        · cases h
      · cases h
    · cases hc

theorem resL_sound (hS : St C n ρ κ M w e a) : ∀ (rs : List ResultVar) (xs : List VRes) (vs : List V), compRes C.P rs = some xs → vresL e M xs = some vs →
    (rs.mapM (resOne a.tmps)).run C.P w = .ok (V.reals ρ κ vs) w ∧ V.clL M.length vs
  | [], xs, vs, hc, h => by
    simp only [compRes, Option.some.injEq] at hc
    subst hc
    simp only [vresL, Option.some.injEq] at h
    subst h
    exact ⟨rfl, by intro b hb; simp [V.refsL] at hb⟩
  | r :: rs, xs, vs, hc, h => by
    cases xs with
    | nil =>
      cases r with
      | tmp t => simp only [compRes] at hc; split at hc <;> cases hc
      | cell ad t => simp only [compRes] at hc; (repeat' split at hc) <;> cases hc
    | cons x xs =>
      simp only [vresL] at h
      split at h
      · rename_i v vs' hv hvs
        cases h
        obtain ⟨h1, h2, h3⟩ := res1_sound hS r rs x xs hc v hv
        obtain ⟨h4, h5⟩ := resL_sound hS rs xs vs' h3 hvs
        refine ⟨?_, ?_⟩
        · simp only [List.mapM_cons, Sem.run_bind, h1, Result.andThen_ok, h4, Sem.run_pure, V.reals]
        · rw [V.clL_iff] at h5 ⊢
          intro u hu
          rcases List.mem_cons.1 hu with rfl | hu
          · exact h2
          · exact h5 u hu
      · cases h

theorem results_eq (fn : Func) (tmps : Array Value) : Go.results fn tmps = (do
    let vs ← fn.results.mapM (resOne tmps)
    pure (if h : vs.size = 1 then vs[0] else .tuple vs)) := by
  unfold Go.results
  congr 1

theorem compRes_length {P : Program} : ∀ (rs : List ResultVar) (xs : List VRes), compRes P rs = some xs → xs.length = rs.length
  | [], xs, h => by simp only [compRes, Option.some.injEq] at h; subst h; rfl
  | .tmp t :: rs, xs, h => by
    simp only [compRes] at h
    split at h
    · rename_i l hl; cases h; simp [compRes_length rs l hl]
    · cases h
  | .cell a t :: rs, xs, h => by
    simp only [compRes] at h
    split at h
    · rename_i l _ _ hl; cases h; simp [compRes_length rs l hl]
    · rename_i l _ hl; cases h; simp [compRes_length rs l hl]
    · cases h

theorem res_sound (hS : St C n ρ κ M w e a) (fn : Func) (xs : List VRes) (v : V) (hc : compRes C.P fn.results.toList = some xs) (h : vres e M xs = some v) :
    (Go.results fn a.tmps).run C.P w = .ok (v.real ρ κ) w ∧ v.cl M.length := by
  have hr : fn.results = fn.results.toList.toArray := (Array.toArray_toList).symm
  rw [results_eq, hr, List.mapM_toArray]
  simp only [Sem.run_bind, Sem.run_map]
  unfold vres at h
  split at h
  · rename_i x
    generalize fn.results.toList = rs at hc
    match rs, hc with
    | [r], hc =>
      obtain ⟨h1, h2, _⟩ := res1_sound hS r [] x [] hc v h
      refine ⟨?_, h2⟩
      simp [h1]
    | [], hc => simp [compRes] at hc
    | r :: r' :: rs, hc =>
      have := compRes_length _ _ hc
      simp at this
  · rename_i hne
    split at h
    · rename_i vs hvs
      cases h
      obtain ⟨h1, h2⟩ := resL_sound hS _ _ vs hc hvs
      refine ⟨?_, h2⟩
      rw [h1]
      simp only [Result.andThen_ok, Sem.run_pure, V.real]
      have hl : ∀ (rs : List VRes) (us : List V), vresL e M rs = some us → us.length = rs.length := by
        intro rs
        induction rs with
        | nil => intro us h; simp [vresL] at h; subst h; rfl
        | cons r rs ih =>
          intro us h
          simp only [vresL] at h
          split at h
          · rename_i u us' _ hus; cases h; simp [ih us' hus]
          · cases h
      have hlen : vs.length ≠ 1 := by
        rw [hl _ _ hvs]
        intro h1
        match xs, h1 with
        | [x], _ => exact hne x rfl
      rw [dif_neg (by simpa [V.reals_map] using hlen)]
    · cases h

theorem get_ofArgs : ∀ (vs : List V) (k j : Nat), (Env.ofArgs k vs).get j = if k ≤ j then (vs[j - k]?).getD .undef else .undef
  | [], k, j => by simp [Env.ofArgs, Env.get]
  | v :: vs, k, j => by
    simp only [Env.ofArgs, get_put, get_ofArgs vs (k + 1) j]
    by_cases h1 : k = j
    · subst h1; simp
    · rw [if_neg h1]
      by_cases h2 : k ≤ j
      · rw [if_pos h2, if_pos (by omega)]
        have : j - k = (j - (k + 1)) + 1 := by omega
        rw [this, List.getElem?_cons_succ]
      · rw [if_neg h2, if_neg (by omega)]

/-- A function's call, by its body. -/
theorem VCalls.of_fn {f : Nat} {hs : List (Nat × List Nat)} {F : VFn} (hF : compFn C.P hs f = some F) {vs : List V} {R : V → Mem → Prop} (hl : vs.length ≤ F.nt)
    (h : VWp C M.length mv F.body (Env.ofArgs 0 vs) M (fnPost M.length F.res R)) : VCalls C f vs M mv R := by
  intro ρ κ w hR hcl
  unfold compFn at hF
  split at hF
  · cases hF
  · rename_i fn hfn
    split at hF
    · cases hF
    · rename_i c hbody
      split at hF
      · rename_i vc rs hvc hrs
        cases hF
        simp only at h hl
        refine calls_of_wp hfn hbody ?_
        have hS : St C fn.ntmps ρ κ M w (Env.ofArgs 0 vs) { tmps := (V.reals ρ κ vs).toArray ++ Array.replicate (fn.ntmps - (V.reals ρ κ vs).toArray.size) undef, defers := [] } := by
          refine ⟨hR, ⟨?_, ?_⟩, ?_, rfl⟩
          · simp [V.reals_map]; omega
          · intro j hj
            rw [get_ofArgs] at hj ⊢
            simp only [Nat.zero_le, if_true, Nat.sub_zero] at hj ⊢
            cases hq : vs[j]? with
            | none => rw [hq] at hj; exact absurd rfl hj
            | some u =>
              have hlt : j < vs.length := (List.getElem?_eq_some_iff.1 hq).1
              rw [Array.getElem?_append_left (by simp [V.reals_map]; exact hlt)]
              simp [reals_getElem?, hq]
          · intro j b hb
            rw [get_ofArgs] at hb
            simp only [Nat.zero_le, if_true, Nat.sub_zero] at hb
            cases hq : vs[j]? with
            | none => rw [hq] at hb; simp [V.refs] at hb
            | some u =>
              rw [hq] at hb
              exact hcl b (V.mem_refsL.2 ⟨u, List.mem_of_getElem? hq, hb⟩)
        refine wp_mono (code_sound hs c vc hvc _ M _ h ρ κ _ w hS (Nat.le_refl _)) fun ex a' w' hp => ?_
        obtain ⟨q, ρ', κ', e', M', rfl, hS', hst, hn', hq⟩ := hp
        have fin : (match vres e' M' rs with
            | some v => ∃ v' M'', Fin M.length v M' v' M'' ∧ R v' M''
            | none => False) → a'.defers = [] ∧ ∃ v, (Go.results fn a'.tmps).run C.P w' = .ok v w' ∧ (fun en w' => ∃ ρ' κ' v M', en = Ending.returned (v.real ρ' κ') ∧ v.cl M'.length ∧
              Rel C ρ' κ' M' w' ∧ M.length ≤ M'.length ∧ Step (fun i => i < M.length ∧ i ∉ mv) ρ κ M w ρ' κ' M' w' ∧ R v M') (.returned v) w' := by
          intro hq
          split at hq
          · rename_i v hv
            obtain ⟨v', M'', hfin, hr⟩ := hq
            obtain ⟨h1, h2⟩ := res_sound hS' fn rs v hrs hv
            refine ⟨hS'.defers, _, h1, ?_⟩
            cases hfin with
            | refl => exact ⟨ρ', κ', v, M', rfl, h2, hS'.rel, hn', hst, hr⟩
            | ren _ _ σ h0 hn2 hinj hM hv2 hcv hcM =>
              obtain ⟨hR₂, hst₂⟩ := ren_sound (n0 := M.length) (mv := mv) hS'.rel σ h0 hinj hM hcM
              exact ⟨_, _, v', M'', by rw [hv2, V.real_ren], hcv, hR₂, hn2, hst.trans hst₂, hr⟩
          · exact hq.elim
        cases q with
        | normal => exact fin hq
        | ret => exact fin hq
        | exit id => exact hq.elim
      · cases hF
end
end Go.VM
end

section
namespace Go.VM
open Go

/-! Running closed code. -/
def Env.gets (e : Env) (g : Option (Nat × Bool)) : Option Bool :=
  match g with
  | none => some true
  | some (j, want) => match e.get j with
    | .bool b => some (b == want)
    | _ => none

def runApp (n0 : Nat) (k : IntKind) (T : Nat) (M : Mem) (x y : V) : Option (List Nat × V × Mem) :=
  match x with
  | .vec b n => match M[b]? with
    | some (.vec k' xs T') => match elems M k y with
      | some ys => if k' = k ∧ T' = T ∧ xs.length = n ∧ n0 ≤ b ∧ xs.length + ys.length ≤ 16777216 then some ([b], .vec b (n + ys.length), (M.erase b).set b (.vec k (xs ++ ys) T)) else none
      | none => none
    | _ => none
  | .nils => match elems M k y with
    | some ys => if ys.length ≤ 16777216 ∧ 0 < ys.length ∧ n0 ≤ M.length then some ([], .vec M.length ys.length, M ++ [.vec k ys T]) else none
    | none => none
  | _ => none

def runItems (C : Ctx) (n0 : Nat) (call : Nat → List V → Mem → Option (V × Mem)) : List Item → Env → Mem → Option (Env × Mem)
  | [], e, M => some (e, M)
  | .op g d vi :: r, e, M => match e.gets g with
    | some true => match vop C e M vi with
      | some (v, M') => runItems C n0 call r (e.putO d v) M'
      | none => none
    | some false => runItems C n0 call r (e.putO d .undef) M
    | none => none
  | .call d f args :: r, e, M => if allKnown (vargs e args) then match call f (vargs e args) M with
      | some (v, M') => runItems C n0 call r (e.putO d v) M'
      | none => none
    else none
  | .callv d fn args :: r, e, M => match fn.ev e with
    | .fn f cap => if callable C.P f && allKnown (vargs e args ++ cap) then match call f (vargs e args ++ cap) M with
        | some (v, M') => runItems C n0 call r (e.putO d v) M'
        | none => none
      else none
    | _ => none
  | .app d k T x y :: r, e, M => match runApp n0 k T M (x.ev e) (y.ev e) with
    | some (mvc, v, M') => runItems C n0 call r ((e.erases mvc).putO d v) M'
    | none => none
  | _ :: _, _, _ => none

/-- surely the same -/
def V.same : V → V → Bool
  | .ptr b o, .ptr b' o' => b == b' && o == o'
  | .int k n, .int k' n' => decide (k = k' ∧ n = n')
  | .bool a, .bool a' => a == a'
  | .vec b n, .vec b' n' => b == b' && n == n'
  | .slice b o n c, .slice b' o' n' c' => b == b' && o == o' && n == n' && c == c'
  | .undef, .undef => true
  | _, _ => false

theorem V.same_eq {v v' : V} (h : v.same v' = true) : v = v' := by
  unfold V.same at h
  split at h <;> first | rfl | (cases h; done) | (simp at h; simp [h])

def runCheck (C : Ctx) : List Item → Env → Mem → Bool
  | [], _, _ => true
  | .op g (some d) vi :: r, e, M => (match e.gets g with
    | some true => match vop C e M vi with
      | some (v, _) => v.same (e.get d)
      | none => false
    | some false => (e.get d).same .undef
    | none => false) && runCheck C r e M
  | _ :: _, _, _ => false

def runQuiet (C : Ctx) : List Item → Env → Mem → Option Env
  | [], e, _ => some e
  | .op g d vi :: r, e, M => match e.gets g with
    | some true => match vop C e M vi with
      | some (v, _) => runQuiet C r (e.putO d v) M
      | none => none
    | some false => runQuiet C r (e.putO d .undef) M
    | none => none
  | _ :: _, _, _ => none

def runStages (C : Ctx) (n0 : Nat) (call : Nat → List V → Mem → Option (V × Mem)) : List (Item × List Item × List Item) → Env → Mem → Option (Env × Mem)
  | [], e, M => some (e, M)
  | (E, rc, fs) :: st, e, M => match runItems C n0 call [E] e M with
    | some (e', M') => if runCheck C rc e' M' then match runQuiet C fs e' M' with
        | some e'' => runStages C n0 call st e'' M'
        | none => none
      else none
    | none => none

/-! Values worked out before they go on. -/
def frcNat {β : Type} (m : Nat) (k : Nat → β) : β := match m with
  | 0 => k 0
  | n + 1 => k (n + 1)
def frcInt {β : Type} (n : Int) (k : Int → β) : β := match n with
  | .ofNat m => frcNat m fun m => k (.ofNat m)
  | .negSucc m => frcNat m fun m => k (.negSucc m)
def frcV {β : Type} (v : V) (k : V → β) : β := match v with
  | .int t n => frcInt n fun n => k (.int t n)
  | .ptr b o => frcNat b fun b => frcNat o fun o => k (.ptr b o)
  | .vec b n => frcNat b fun b => frcNat n fun n => k (.vec b n)
  | v => k v
def frcE {β : Type} : Env → (Env → β) → β
  | [], k => k []
  | (i, v) :: t, k => frcNat i fun i => frcV v fun v => frcE t fun t => k ((i, v) :: t)
theorem frcNat_eq {β : Type} (m : Nat) (k : Nat → β) : frcNat m k = k m := by cases m <;> rfl
theorem frcInt_eq {β : Type} (n : Int) (k : Int → β) : frcInt n k = k n := by cases n <;> simp only [frcInt, frcNat_eq]
theorem frcV_eq {β : Type} (v : V) (k : V → β) : frcV v k = k v := by cases v <;> simp only [frcV, frcNat_eq, frcInt_eq]
theorem frcE_eq {β : Type} : ∀ (e : Env) (k : Env → β), frcE e k = k e
  | [], _ => rfl
  | (i, v) :: t, k => by simp only [frcE, frcNat_eq, frcV_eq, frcE_eq t]

def runLoop (F : Env → Mem → Option (VX × Env × Mem)) : Nat → Env → Mem → Option (VX × Env × Mem)
  | 0, _, _ => none
  | k + 1, e, M => match F e M with
    | some (.normal, e', M') => frcE e' fun e' => runLoop F k e' M'
    | r => r

def runCode (C : Ctx) (n0 : Nat) (call : Nat → List V → Mem → Option (V × Mem)) (k : Nat) : VC → Env → Mem → Option (VX × Env × Mem)
  | .skip, e, M => some (.normal, e, M)
  | .reg its ks, e, M => match runItems C n0 call its e M with
    | some (e', M') => some (.normal, e'.keep ks, M')
    | none => none
  | .drq its ks, e, M => match runQuiet C its e M with
    | some e' => some (.normal, e'.keep ks, M)
    | none => none
  | .drt hd tl ks, e, M => match runQuiet C hd e M with
    | some e' => match runItems C n0 call tl e' M with
      | some (e'', M') => some (.normal, e''.keep ks, M')
      | none => none
    | none => none
  | .drw fs st ks, e, M => match runQuiet C fs e M with
    | some e' => match runStages C n0 call st e' M with
      | some (e'', M') => some (.normal, e''.keep ks, M')
      | none => none
    | none => none
  | .seq a b, e, M => match runCode C n0 call k a e M with
    | some (.normal, e', M') => runCode C n0 call k b e' M'
    | r => r
  | .cond c a b, e, M => match c.ev e with
    | .bool t => if t then runCode C n0 call k a e M else runCode C n0 call k b e M
    | _ => none
  | .block id a, e, M => match runCode C n0 call k a e M with
    | some (.exit j, e', M') => if j = id then some (.normal, e', M') else some (.exit j, e', M')
    | r => r
  | .loop a, e, M => runLoop (runCode C n0 call k a) k e M
  | .exit id, e, M => some (.exit id, e, M)
  | .ret, e, M => some (.ret, e, M)

def clB (n : Nat) (l : List Nat) : Bool := l.all fun b => decide (b < n)
def memCl (n : Nat) (M : Mem) : Bool := M.all fun b => clB n b.refs

/-- Blocks that nothing names are left away. -/
def trim (n0 : Nat) (v : V) (M : Mem) : V × Mem :=
  if clB n0 v.refs && memCl n0 (M.take n0) then (v, M.take n0) else (v, M)

def callX (C : Ctx) (tbl : Nat → Option VFn) (k : Nat) : Nat → Nat → List V → Mem → Option (V × Mem)
  | 0, _, _, _ => none
  | d + 1, f, vs, M => match tbl f with
    | none => none
    | some F => if vs.length ≤ F.nt then
        match runCode C M.length (callX C tbl k d) k F.body (Env.ofArgs 0 vs) M with
        | some (.exit _, _, _) => none
        | some (_, e, M') => match vres e M' F.res with
          | some v => some (trim M.length v M')
          | none => none
        | none => none
      else none

section
variable {C : Ctx} {n0 : Nat} {mv : List Nat}

theorem wpItems_mono {Q Q' : Env → Mem → Prop} (hq : ∀ e M, Q e M → Q' e M) : ∀ (its : List Item) (e : Env) (M : Mem), wpItems C n0 mv its e M Q → wpItems C n0 mv its e M Q'
  | [], e, M, h => hq e M h
  | it :: r, e, M, h => by
    rw [wpItems_eff] at h ⊢
    exact effK_pw h fun f M' _ hk => wpItems_mono hq r _ _ hk

theorem wpQuiet_mono {Q Q' : Env → Prop} (hq : ∀ e, Q e → Q' e) : ∀ (its : List Item) (e : Env) (M : Mem), wpQuiet C its e M Q → wpQuiet C its e M Q'
  | [], e, M, h => hq e h
  | .op g d vi :: r, e, M, h => by
    simp only [wpQuiet, guardK, opK] at h ⊢
    split
    · simp only at h
      split
      · rename_i v M' hv; rw [hv] at h; exact wpQuiet_mono hq r _ _ h
      · rename_i hv; rw [hv] at h; exact h
    · rename_i j want
      simp only at h
      split
      · rename_i b hb
        rw [hb] at h
        simp only at h
        split
        · rename_i hbw
          rw [if_pos hbw] at h
          split
          · rename_i v M' hv; rw [hv] at h; exact wpQuiet_mono hq r _ _ h
          · rename_i hv; rw [hv] at h; exact h
        · rename_i hbw
          rw [if_neg hbw] at h
          exact wpQuiet_mono hq r _ _ h
      · rename_i hne
        split at h
        · rename_i b hb; exact absurd hb (hne b)
        · exact h
  | .call d f args :: r, e, M, h => by
    simp only [wpQuiet] at h ⊢
    obtain ⟨h1, v, h2, h3⟩ := h
    exact ⟨h1, v, h2, wpQuiet_mono hq r _ _ h3⟩
  | .callv .. :: _, _, _, h => h
  | .callg .. :: _, _, _, h => h
  | .inv .. :: _, _, _, h => h
  | .app .. :: _, _, _, h => h

theorem wpStages_mono {Q Q' : Env → Mem → Prop} (hq : ∀ e M, Q e M → Q' e M) : ∀ (st : List (Item × List Item × List Item)) (e : Env) (M : Mem), wpStages C n0 mv st e M Q → wpStages C n0 mv st e M Q'
  | [], e, M, h => hq e M h
  | (E, rc, fs) :: st, e, M, h => wpItems_mono (fun e M ⟨h1, h2⟩ => ⟨h1, wpQuiet_mono (fun e h => wpStages_mono hq st e M h) fs e M h2⟩) [E] e M h

theorem VRounds_mono {F : Env → Mem → (VX → Env → Mem → Prop) → Prop} (hF : ∀ e M Q Q', (∀ x e M, Q x e M → Q' x e M) → F e M Q → F e M Q') {Q Q' : VX → Env → Mem → Prop} (hq : ∀ x e M, Q x e M → Q' x e M) :
    ∀ (k : Nat) (e : Env) (M : Mem), VRounds n0 F k e M Q → VRounds n0 F k e M Q'
  | 0, _, _, h => h
  | k + 1, e, M, h => by
    obtain ⟨e', M', ha, hf⟩ := h
    refine ⟨e', M', ha, hF e' M' _ _ (fun x e M hx => ?_) hf⟩
    cases x with
    | normal => exact VRounds_mono hF hq k e M hx
    | exit id => exact hq _ _ _ hx
    | ret => exact hq _ _ _ hx

theorem VWp_mono : ∀ (vc : VC) (e : Env) (M : Mem) (Q Q' : VX → Env → Mem → Prop), (∀ x e M, Q x e M → Q' x e M) → VWp C n0 mv vc e M Q → VWp C n0 mv vc e M Q'
  | .skip, e, M, Q, Q', hq, h => hq _ _ _ h
  | .exit id, e, M, Q, Q', hq, h => hq _ _ _ h
  | .ret, e, M, Q, Q', hq, h => hq _ _ _ h
  | .reg its ks, e, M, Q, Q', hq, h => wpItems_mono (fun e M h => hq _ _ _ h) its e M h
  | .drq its ks, e, M, Q, Q', hq, h => wpQuiet_mono (fun e h => hq _ _ _ h) its e M h
  | .drt hd tl ks, e, M, Q, Q', hq, h => wpQuiet_mono (fun e h => wpItems_mono (fun e M h => hq _ _ _ h) tl e M h) hd e M h
  | .drw fs st ks, e, M, Q, Q', hq, h => wpQuiet_mono (fun e h => wpStages_mono (fun e M h => hq _ _ _ h) st e M h) fs e M h
  | .seq a b, e, M, Q, Q', hq, h => VWp_mono a e M _ _ (fun x e M hx => by
      cases x with
      | normal => exact VWp_mono b e M Q Q' hq hx
      | exit id => exact hq _ _ _ hx
      | ret => exact hq _ _ _ hx) h
  | .cond c a b, e, M, Q, Q', hq, h => by
    simp only [VWp] at h ⊢
    split
    · rename_i t ht
      rw [ht] at h
      exact ⟨fun h1 => VWp_mono a e M Q Q' hq (h.1 h1), fun h1 => VWp_mono b e M Q Q' hq (h.2 h1)⟩
    · rename_i hne
      split at h
      · rename_i t ht; exact absurd ht (hne t)
      · exact h
  | .block id a, e, M, Q, Q', hq, h => VWp_mono a e M _ _ (fun x e M hx => by
      cases x with
      | normal => exact hq _ _ _ hx
      | ret => exact hq _ _ _ hx
      | exit j =>
        simp only [blockK] at hx ⊢
        split
        · rename_i hj; rw [if_pos hj] at hx; exact hq _ _ _ hx
        · rename_i hj; rw [if_neg hj] at hx; exact hq _ _ _ hx) h
  | .loop a, e, M, Q, Q', hq, h => by
    obtain ⟨k, hk⟩ := h
    exact ⟨k, VRounds_mono (fun e M Q Q' hq h => VWp_mono a e M Q Q' hq h) hq k e M hk⟩

theorem VCalls.mono {f : Nat} {vs : List V} {M : Mem} {mv : List Nat} {R R' : V → Mem → Prop} (h : VCalls C f vs M mv R) (hr : ∀ v M', R v M' → R' v M') : VCalls C f vs M mv R' :=
  fun ρ κ w hR hcl => (h ρ κ w hR hcl).mono fun _ _ ⟨ρ', κ', v, M', a1, a2, a3, a4, a5, a6⟩ => ⟨ρ', κ', v, M', a1, a2, a3, a4, a5, hr _ _ a6⟩

/-- what a run shows of a call -/
def CallOk (C : Ctx) (call : Nat → List V → Mem → Option (V × Mem)) : Prop :=
  ∀ f vs M v M', call f vs M = some (v, M') → VCalls C f vs M [] fun v' M'' => v' = v ∧ M'' = M'

theorem runApp_sound {k : IntKind} {T : Nat} {M : Mem} {x y : V} {mvc : List Nat} {v : V} {M' : Mem} (h : runApp n0 k T M x y = some (mvc, v, M')) {K : List Nat → V → Mem → Prop} (hK : K mvc v M') : appK n0 mv k T M x y K := by
  unfold runApp at h
  unfold appK
  split at h
  · split at h
    · rename_i k' xs T' hM
      split at h
      · rename_i ys hy
        split at h
        · rename_i hc
          cases h
          obtain ⟨h1, h2, h3, h4, h5⟩ := hc
          simp only [hM, hy]
          exact ⟨h1, h2, h3, .inl h4, h5, hK⟩
        · cases h
      · cases h
    · cases h
  · split at h
    · rename_i ys hy
      split at h
      · rename_i hc
        cases h
        simp only [hy]
        exact ⟨hc.1, hc.2.1, hc.2.2, hK⟩
      · cases h
    · cases h
  · cases h

theorem runItems_sound {call : Nat → List V → Mem → Option (V × Mem)} (hc : CallOk C call) : ∀ (its : List Item) (e : Env) (M : Mem) (e' : Env) (M' : Mem), runItems C n0 call its e M = some (e', M') →
    wpItems C n0 mv its e M fun e'' M'' => e'' = e' ∧ M'' = M'
  | [], e, M, e', M', h => by
    simp only [runItems, Option.some.injEq, Prod.mk.injEq] at h
    exact h
  | .op g d vi :: r, e, M, e', M', h => by
    simp only [runItems] at h
    simp only [wpItems, guardK, opK]
    cases g with
    | none =>
      simp only [Env.gets] at h ⊢
      split at h
      · rename_i v M₂ hv
        rw [hv]
        exact runItems_sound hc r _ _ _ _ h
      · cases h
    | some jw =>
      obtain ⟨j, want⟩ := jw
      simp only [Env.gets] at h ⊢
      split at h
      · rename_i hg
        split at hg
        · rename_i b hb
          rw [hb]
          simp only [Option.some.injEq, beq_iff_eq] at hg
          simp only
          rw [if_pos hg]
          split at h
          · rename_i v M₂ hv
            rw [hv]
            exact runItems_sound hc r _ _ _ _ h
          · cases h
        · cases hg
      · rename_i hg
        split at hg
        · rename_i b hb
          rw [hb]
          simp only [Option.some.injEq, beq_eq_false_iff_ne] at hg
          simp only
          rw [if_neg hg]
          exact runItems_sound hc r _ _ _ _ h
        · cases hg
      · cases h
  | .call d f args :: r, e, M, e', M', h => by
    simp only [runItems] at h
    split at h
    · rename_i hk
      split at h
      · rename_i v M₂ hcall
        refine ⟨hk, [], by simp, (hc f _ M v M₂ hcall).mono fun v' M'' ⟨h1, h2⟩ => ?_⟩
        subst h1; subst h2
        exact runItems_sound hc r _ _ _ _ h
      · cases h
    · cases h
  | .callv d fn args :: r, e, M, e', M', h => by
    simp only [runItems] at h
    simp only [wpItems]
    split at h
    · rename_i f cap hf
      rw [hf]
      split at h
      · rename_i hk
        rw [Bool.and_eq_true] at hk
        split at h
        · rename_i v M₂ hcall
          refine ⟨hk.1, hk.2, [], by simp, (hc f _ M v M₂ hcall).mono fun v' M'' ⟨h1, h2⟩ => ?_⟩
          subst h1; subst h2
          exact runItems_sound hc r _ _ _ _ h
        · cases h
      · cases h
    · cases h
  | .app d k T x y :: r, e, M, e', M', h => by
    simp only [runItems] at h
    split at h
    · rename_i mvc v M₂ ha
      exact runApp_sound ha (runItems_sound hc r _ _ _ _ h)
    · cases h
  | .callg .. :: _, e, M, e', M', h => by simp [runItems] at h
  | .inv .. :: _, e, M, e', M', h => by simp [runItems] at h

theorem gets_guard {g : Option (Nat × Bool)} {e : Env} {b : Bool} (h : e.gets g = some b) {p q : Prop} (hp : b = true → p) (hq : b = false → q) : guardK g e p q := by
  unfold Env.gets at h
  unfold guardK
  split at h
  · cases h; exact hp rfl
  · split at h
    · rename_i bb hb
      simp only [hb]
      cases h
      split
      · rename_i hw; exact hp (by simp [hw])
      · rename_i hw; exact hq (by simp [hw])
    · cases h

theorem runCheck_sound : ∀ (l : List Item) (e : Env) (M : Mem), runCheck C l e M = true → wpCheck C l e M
  | [], _, _, _ => trivial
  | .op g (some d) vi :: r, e, M, h => by
    simp only [runCheck, Bool.and_eq_true] at h
    refine ⟨?_, runCheck_sound r e M h.2⟩
    have h1 := h.1
    split at h1
    · rename_i hg
      refine gets_guard hg (fun _ => ?_) (fun hf => by cases hf)
      split at h1
      · rename_i v M' hv; unfold opK; rw [hv]; exact V.same_eq h1
      · cases h1
    · rename_i hg
      exact gets_guard hg (fun hf => by cases hf) (fun _ => V.same_eq h1)
    · cases h1
  | .op _ none _ :: _, _, _, h => by simp [runCheck] at h
  | .call .. :: _, _, _, h => by simp [runCheck] at h
  | .callv .. :: _, _, _, h => by simp [runCheck] at h
  | .callg .. :: _, _, _, h => by simp [runCheck] at h
  | .inv .. :: _, _, _, h => by simp [runCheck] at h
  | .app .. :: _, _, _, h => by simp [runCheck] at h

theorem runQuiet_sound : ∀ (its : List Item) (e : Env) (M : Mem) (e' : Env), runQuiet C its e M = some e' → wpQuiet C its e M fun e'' => e'' = e'
  | [], e, M, e', h => by
    simp only [runQuiet, Option.some.injEq] at h
    exact h
  | .op g d vi :: r, e, M, e', h => by
    simp only [runQuiet] at h
    simp only [wpQuiet, guardK, opK]
    cases g with
    | none =>
      simp only [Env.gets] at h ⊢
      split at h
      · rename_i v M₂ hv
        rw [hv]
        exact runQuiet_sound r _ _ _ h
      · cases h
    | some jw =>
      obtain ⟨j, want⟩ := jw
      simp only [Env.gets] at h ⊢
      split at h
      · rename_i hg
        split at hg
        · rename_i b hb
          rw [hb]
          simp only [Option.some.injEq, beq_iff_eq] at hg
          simp only
          rw [if_pos hg]
          split at h
          · rename_i v M₂ hv
            rw [hv]
            exact runQuiet_sound r _ _ _ h
          · cases h
        · cases hg
      · rename_i hg
        split at hg
        · rename_i b hb
          rw [hb]
          simp only [Option.some.injEq, beq_eq_false_iff_ne] at hg
          simp only
          rw [if_neg hg]
          exact runQuiet_sound r _ _ _ h
        · cases hg
      · cases h
  | .call .. :: _, e, M, e', h => by simp [runQuiet] at h
  | .callv .. :: _, e, M, e', h => by simp [runQuiet] at h
  | .callg .. :: _, e, M, e', h => by simp [runQuiet] at h
  | .inv .. :: _, e, M, e', h => by simp [runQuiet] at h
  | .app .. :: _, e, M, e', h => by simp [runQuiet] at h

theorem runStages_sound {call : Nat → List V → Mem → Option (V × Mem)} (hc : CallOk C call) : ∀ (st : List (Item × List Item × List Item)) (e : Env) (M : Mem) (e' : Env) (M' : Mem), runStages C n0 call st e M = some (e', M') →
    wpStages C n0 mv st e M fun e'' M'' => e'' = e' ∧ M'' = M'
  | [], e, M, e', M', h => by
    simp only [runStages, Option.some.injEq, Prod.mk.injEq] at h
    exact h
  | (E, rc, fs) :: st, e, M, e', M', h => by
    simp only [runStages] at h
    split at h
    · rename_i e₁ M₁ h1
      split at h
      · rename_i hck
        split at h
        · rename_i e₂ h2
          refine wpItems_mono (fun e M hx => ?_) [E] e M (runItems_sound hc [E] e M _ _ h1)
          obtain ⟨rfl, rfl⟩ := hx
          refine ⟨runCheck_sound rc _ _ hck, wpQuiet_mono (fun e hx => ?_) fs _ M (runQuiet_sound fs _ M _ h2)⟩
          subst hx
          exact runStages_sound hc st _ _ _ _ h
        · cases h
      · cases h
    · cases h

theorem runLoop_sound {F : Env → Mem → Option (VX × Env × Mem)} {W : Env → Mem → (VX → Env → Mem → Prop) → Prop}
    (hmono : ∀ e M Q Q', (∀ x e M, Q x e M → Q' x e M) → W e M Q → W e M Q')
    (hF : ∀ e M x e' M', F e M = some (x, e', M') → W e M fun x' e'' M'' => x' = x ∧ e'' = e' ∧ M'' = M') :
    ∀ (k : Nat) (e : Env) (M : Mem) (x : VX) (e' : Env) (M' : Mem), runLoop F k e M = some (x, e', M') → VRounds n0 W k e M fun x' e'' M'' => x' = x ∧ e'' = e' ∧ M'' = M'
  | 0, _, _, _, _, _, h => by simp [runLoop] at h
  | k + 1, e, M, x, e', M', h => by
    simp only [runLoop] at h
    refine ⟨e, M, .refl e M, ?_⟩
    split at h
    · rename_i e₂ M₂ hf
      rw [frcE_eq] at h
      refine hmono _ _ _ _ (fun x₃ e₃ M₃ hx => ?_) (hF e M _ _ _ hf)
      obtain ⟨rfl, rfl, rfl⟩ := hx
      exact runLoop_sound hmono hF k _ _ _ _ _ h
    · rename_i hne
      refine hmono _ _ _ _ (fun x₃ e₃ M₃ hx => ?_) (hF e M _ _ _ h)
      obtain ⟨rfl, rfl, rfl⟩ := hx
      cases x₃ with
      | normal => exact absurd h (hne _ _)
      | exit id => exact ⟨rfl, rfl, rfl⟩
      | ret => exact ⟨rfl, rfl, rfl⟩

theorem runCode_sound {call : Nat → List V → Mem → Option (V × Mem)} (hc : CallOk C call) (k : Nat) : ∀ (vc : VC) (e : Env) (M : Mem) (x : VX) (e' : Env) (M' : Mem), runCode C n0 call k vc e M = some (x, e', M') →
    VWp C n0 mv vc e M fun x' e'' M'' => x' = x ∧ e'' = e' ∧ M'' = M'
  | .skip, e, M, x, e', M', h => by simp only [runCode, Option.some.injEq, Prod.mk.injEq] at h; exact h
  | .exit id, e, M, x, e', M', h => by simp only [runCode, Option.some.injEq, Prod.mk.injEq] at h; exact h
  | .ret, e, M, x, e', M', h => by simp only [runCode, Option.some.injEq, Prod.mk.injEq] at h; exact h
  | .reg its ks, e, M, x, e', M', h => by
    simp only [runCode] at h
    split at h
    · rename_i e₂ M₂ hi
      cases h
      refine wpItems_mono (fun e M hx => ?_) its e M (runItems_sound hc its e M _ _ hi)
      obtain ⟨rfl, rfl⟩ := hx
      exact ⟨rfl, rfl, rfl⟩
    · cases h
  | .drq its ks, e, M, x, e', M', h => by
    simp only [runCode] at h
    split at h
    · rename_i e₂ hi
      cases h
      refine wpQuiet_mono (fun e hx => ?_) its e M (runQuiet_sound its e M _ hi)
      subst hx
      exact ⟨rfl, rfl, rfl⟩
    · cases h
  | .drt hd tl ks, e, M, x, e', M', h => by
    simp only [runCode] at h
    split at h
    · rename_i e₂ hi
      split at h
      · rename_i e₃ M₃ hi'
        cases h
        refine wpQuiet_mono (fun e hx => ?_) hd e M (runQuiet_sound hd e M _ hi)
        subst hx
        refine wpItems_mono (fun e M hx => ?_) tl _ M (runItems_sound hc tl _ M _ _ hi')
        obtain ⟨rfl, rfl⟩ := hx
        exact ⟨rfl, rfl, rfl⟩
      · cases h
    · cases h
  | .drw fs st ks, e, M, x, e', M', h => by
    simp only [runCode] at h
    split at h
    · rename_i e₂ hi
      split at h
      · rename_i e₃ M₃ hi'
        cases h
        refine wpQuiet_mono (fun e hx => ?_) fs e M (runQuiet_sound fs e M _ hi)
        subst hx
        refine wpStages_mono (fun e M hx => ?_) st _ M (runStages_sound hc st _ M _ _ hi')
        obtain ⟨rfl, rfl⟩ := hx
        exact ⟨rfl, rfl, rfl⟩
      · cases h
    · cases h
  | .seq a b, e, M, x, e', M', h => by
    simp only [runCode] at h
    simp only [VWp]
    split at h
    · rename_i e₂ M₂ ha
      refine VWp_mono a _ _ _ _ (fun x₃ e₃ M₃ hx => ?_) (runCode_sound hc k a e M _ _ _ ha)
      obtain ⟨rfl, rfl, rfl⟩ := hx
      exact runCode_sound hc k b _ _ _ _ _ h
    · rename_i hne
      refine VWp_mono a _ _ _ _ (fun x₃ e₃ M₃ hx => ?_) (runCode_sound hc k a e M _ _ _ h)
      obtain ⟨rfl, rfl, rfl⟩ := hx
      cases x₃ with
      | normal => exact absurd h (hne _ _)
      | exit id => exact ⟨rfl, rfl, rfl⟩
      | ret => exact ⟨rfl, rfl, rfl⟩
  | .cond c a b, e, M, x, e', M', h => by
    simp only [runCode] at h
    simp only [VWp]
    split at h
    · rename_i t ht
      rw [ht]
      cases t with
      | true => exact ⟨fun _ => runCode_sound hc k a _ _ _ _ _ (by simpa using h), fun hf => (by cases hf)⟩
      | false => exact ⟨fun hf => (by cases hf), fun _ => runCode_sound hc k b _ _ _ _ _ (by simpa using h)⟩
    · cases h
  | .block id a, e, M, x, e', M', h => by
    simp only [runCode] at h
    simp only [VWp]
    split at h
    · rename_i j e₂ M₂ ha
      refine VWp_mono a _ _ _ _ (fun x₃ e₃ M₃ hx => ?_) (runCode_sound hc k a e M _ _ _ ha)
      obtain ⟨rfl, rfl, rfl⟩ := hx
      simp only [blockK]
      split at h
      · rename_i hj; cases h; rw [if_pos hj]; exact ⟨rfl, rfl, rfl⟩
      · rename_i hj; cases h; rw [if_neg hj]; exact ⟨rfl, rfl, rfl⟩
    · rename_i hne
      refine VWp_mono a _ _ _ _ (fun x₃ e₃ M₃ hx => ?_) (runCode_sound hc k a e M _ _ _ h)
      obtain ⟨rfl, rfl, rfl⟩ := hx
      cases x₃ with
      | normal => exact ⟨rfl, rfl, rfl⟩
      | exit id => exact absurd h (hne _ _ _)
      | ret => exact ⟨rfl, rfl, rfl⟩
  | .loop a, e, M, x, e', M', h => by
    simp only [runCode] at h
    exact ⟨k, runLoop_sound (fun e M Q Q' hq h => VWp_mono a e M Q Q' hq h) (fun e M x e' M' h => runCode_sound hc k a e M x e' M' h) k e M x e' M' h⟩

theorem clB_iff {n : Nat} {l : List Nat} (h : clB n l = true) : ∀ b ∈ l, b < n := by
  intro b hb
  have := List.all_eq_true.1 h b hb
  simpa using this

theorem V.ren_id (v : V) : v.ren id = v := by
  have := (V.ren_congr (σ := id) (σ' := fun x => x) v (fun _ _ => rfl))
  have key : ∀ v : V, v.ren (fun x => x) = v := by
    intro v
    exact V.rec (motive_1 := fun v => v.ren (fun x => x) = v) (motive_2 := fun vs => V.renL (fun x => x) vs = vs)
      rfl (fun _ => rfl) (fun _ _ => rfl) (fun _ => rfl) rfl (fun _ _ => rfl) rfl (fun _ _ _ _ => rfl) (fun _ _ => rfl)
      (fun f cap h => by simp only [V.ren]; rw [h]) rfl (fun t v h => by simp only [V.ren]; rw [h]) rfl (fun cs h => by simp only [V.ren]; rw [h]) (fun _ _ => rfl) (fun vs h => by simp only [V.ren]; rw [h]) (fun _ => rfl)
      rfl (fun v vs h1 h2 => by simp only [V.renL]; rw [h1, h2]) v
  rw [this, key]

theorem Blk.ren_id (b : Blk) : b.ren id = b := by
  cases b with
  | own cs T =>
    simp only [Blk.ren, V.renL_map]
    congr 1
    conv => rhs; rw [← List.map_id cs]
    exact List.map_congr_left fun v _ => V.ren_id v
  | _ => rfl

/-- leaving the last blocks away -/
theorem Fin.take {n0 : Nat} {v : V} {M : Mem} (k : Nat) (hk : n0 ≤ k) (hkM : k ≤ M.length) (hv : clB k v.refs = true) (hM : memCl k (M.take k) = true) : Fin n0 v M v (M.take k) := by
  have hl : (M.take k).length = k := by simp; omega
  refine .ren v _ id (fun _ _ => rfl) (by omega) (fun _ _ _ _ h => h) (fun j b hb => ?_) (V.ren_id v).symm ?_ ?_
  · rw [Blk.ren_id]
    rw [List.getElem?_take] at hb
    split at hb
    · exact hb
    · cases hb
  · rw [hl]; exact clB_iff hv
  · intro j b hb r hr
    rw [hl]
    have h1 := List.all_eq_true.1 hM b (List.mem_of_getElem? hb)
    exact clB_iff h1 r hr

theorem callX_sound (tbl : Nat → Option VFn) (htbl : ∀ f F, tbl f = some F → ∃ hs, compFn C.P hs f = some F) (k : Nat) : ∀ d, CallOk C (callX C tbl k d)
  | 0 => fun f vs M v M' h => by simp [callX] at h
  | d + 1 => fun f vs M v M' h => by
    simp only [callX] at h
    split at h
    · cases h
    · rename_i F hF
      obtain ⟨hs, hcomp⟩ := htbl f F hF
      split at h
      · rename_i hl
        split at h
        · cases h
        · rename_i x e M₂ hne hrun
          split at h
          · rename_i u hu
            refine VCalls.of_fn hcomp hl (VWp_mono _ _ _ _ _ (fun x₃ e₃ M₃ hx => ?_) (runCode_sound (callX_sound tbl htbl k d) k F.body _ M _ _ _ hrun))
            obtain ⟨rfl, rfl, rfl⟩ := hx
            have main : match vres e₃ M₃ F.res with
                | some v => ∃ v' M', Fin M.length v M₃ v' M' ∧ v' = v ∧ M' = M'
                | none => False := by
              rw [hu]; exact ⟨_, _, .refl, rfl, rfl⟩
            have fin : match vres e₃ M₃ F.res with
                | some v₁ => ∃ v' M'', Fin M.length v₁ M₃ v' M'' ∧ (v' = v ∧ M'' = M')
                | none => False := by
              rw [hu]
              simp only [Option.some.injEq] at h
              unfold trim at h
              split at h
              · rename_i hcl
                rw [Bool.and_eq_true] at hcl
                cases h
                by_cases hle : M.length ≤ M₃.length
                · exact ⟨_, _, Fin.take M.length (Nat.le_refl _) hle hcl.1 hcl.2, rfl, rfl⟩
                · rw [List.take_of_length_le (by omega)]
                  exact ⟨_, _, .refl, rfl, rfl⟩
              · cases h
                exact ⟨_, _, .refl, rfl, rfl⟩
            cases x₃ with
            | normal => exact fin
            | ret => exact fin
            | exit id => exact (hne id rfl).elim
          · cases h
        · cases h
      · cases h
end

/-- The lists of kept slots, read off the code. -/
def VC.ks : VC → List (List Nat) → List (List Nat)
  | .reg _ k, l => k :: l
  | .drq _ k, l => k :: l
  | .drt _ _ k, l => k :: l
  | .drw _ _ k, l => k :: l
  | .seq a b, l => a.ks (b.ks l)
  | .cond _ a b, l => a.ks (b.ks l)
  | .block _ a, l => a.ks l
  | .loop a, l => a.ks l
  | _, l => l
def kzL : Nat → List (List Nat) → List (Nat × List Nat)
  | _, [] => []
  | i, k :: l => (i, k) :: kzL (i + 1) l
def kz (c : VC) : List (Nat × List Nat) := kzL 0 (c.ks [])
end Go.VM
end
