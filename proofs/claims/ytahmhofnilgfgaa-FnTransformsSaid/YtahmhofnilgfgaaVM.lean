/-
  A part of a small machine over the model, or of a walk by it, proved right against the model. Proved outright, under no condition but what each theorem names.
-/
import Derived.Test.YtahmhofnilgfgaaVL
namespace Go.VM
open Go

section
variable {C : Ctx} {n0 : Nat} {mv : List Nat} {n : Nat}

/-- quiet items, in the world after a draw -/
theorem quietItems_sound (ops : Array Oper) {M : Mem} {w : World} {ρ : Nat → Nat} {κ : Nat → Option Nat} : ∀ (l : List Oper) (its : List Item), compItems C.P n ops l = some its → its.all Item.quiet = true →
    ∀ (e : Env) (Q : Env → Prop), wpQuiet C its e M Q → ∀ (a : Act) (Q' : Act → Prop), St C n ρ κ M w e a →
    (∀ a' e', St C n ρ κ M w e' a' → Q e' → Q' a') → wpStill C.P ops w Q' l a
  | [], its, hc, _, e, Q, h, a, Q', hS, hQ => by
    simp only [compItems, Option.some.injEq] at hc
    subst hc
    exact hQ a e hS h
  | o :: l, its, hc, hq, e, Q, h, a, Q', hS, hQ => by
    simp only [compItems] at hc
    split at hc
    · rename_i it its' hit hits
      cases hc
      simp only [List.all_cons, Bool.and_eq_true] at hq
      have hd := compItem_dst hit
      have cont : ∀ (e' : Env) (a' : Act), wpQuiet C its' e' M Q → St C n ρ κ M w e' a' → wpStill C.P ops w Q' l a' := by
        intro e' a' h' hS'
        exact quietItems_sound ops l its' hits hq.2 e' Q h' a' Q' hS' hQ
      have runOp : ∀ (vi : VI), compOp C.P o.op = some vi → vi.quiet = true → (opK C e M vi fun v _ => wpQuiet C its' (e.putO o.dst v) M Q) → o.still C.P a w (wpStill C.P ops w Q' l) := by
        intro vi hvi hvq hop
        simp only [opK] at hop
        split at hop
        · rename_i v M' hv
          obtain ⟨x, hrun, hx, hvc⟩ := quiet_sound (w := w) hS.rel hS.env hS.cl o vi hvi hvq v M' hv
          unfold Oper.still
          rw [hrun, Oper.stillUpon_value]
          exact cont _ _ hop (hS.put hd hx hvc)
        · exact hop.elim
      unfold compItem at hit
      split at hit
      · cases hit
      · split at hit
        · rename_i hg
          have hw : Region.wanted o (yielded ops a.tmps) = true := by simp [Region.wanted, hg]
          simp only [wpStill, hw, if_true]
          split at hit
          · rename_i f args ts hop
            split at hit
            · rename_i hf
              cases hit
              simp only [wpQuiet] at h
              obtain ⟨hk, v, hp, hr⟩ := h
              unfold Oper.still
              rw [exec_call hop hf, vargs_real hS.env args hk]
              simp only [Oper.stillUpon, true_and]
              exact ⟨v.real ρ κ, hp.2 ρ κ w hS.rel (vargs_cl hS.cl _), cont _ _ hr (hS.put hd (fun _ => rfl) hp.1)⟩
            · cases hit
          · cases hit
            simp [Item.quiet] at hq
          · split at hit
            · rename_i vi hvi
              cases hit
              exact runOp vi hvi hq.1 (by simpa [wpQuiet, guardK] using h)
            · cases hit
        · rename_i j want hg
          split at hit
          · rename_i dj vi hdj hvi
            cases hit
            simp only [wpQuiet, guardK] at h
            split at h
            · rename_i b hb
              have hy := yielded_get hS.env hdj hb
              by_cases hbw : b = want
              · rw [if_pos hbw] at h
                have hw : Region.wanted o (yielded ops a.tmps) = true := by simp [Region.wanted, hg, hy, hbw]
                simp only [wpStill, hw, if_true]
                exact runOp vi hvi hq.1 h
              · rw [if_neg hbw] at h
                have hw : Region.wanted o (yielded ops a.tmps) = false := by simp [Region.wanted, hg, hy, hbw]
                simp only [wpStill, hw, Bool.false_eq_true, if_false]
                exact cont _ _ h (hS.put hd (fun hu => absurd rfl hu) V.cl_undef)
            · exact h.elim
          · cases hit
    · cases hc

theorem St.drew {ρ κ M w e a} (h : St C n ρ κ M w e a) : St C n ρ κ M w.drew e a :=
  ⟨⟨fun i b hb => holds_congr (h.rel.blk i b hb) rfl rfl (fun _ => rfl) (fun _ _ => ⟨rfl, rfl⟩), h.rel.inj, fun a v hv => h.rel.ext a v hv, h.rel.cl⟩, h.env, h.cl, h.defers⟩

theorem Step.drew (K ρ κ M) (w : World) : Step K ρ κ M w ρ κ M w.drew :=
  ⟨rfl, rfl, rfl, Nat.le_refl _, fun _ _ _ => rfl, fun i h => .inl ⟨i, h, rfl⟩, fun _ _ => ⟨rfl, rfl⟩⟩

/-- The goal behind a piece of code. -/
def PostOf (C : Ctx) (n0 : Nat) (mv : List Nat) (n : Nat) (ρ : Nat → Nat) (κ : Nat → Option Nat) (M : Mem) (w : World) (Q : VX → Env → Mem → Prop) (ex : Exit) (a' : Act) (w' : World) : Prop :=
  ∃ x ρ' κ' e' M', ex = VX.real x ∧ St C n ρ' κ' M' w' e' a' ∧ Step (Kset n0 mv) ρ κ M w ρ' κ' M' w' ∧ n0 ≤ M'.length ∧ Q x e' M'

theorem PostOf.trans {ρ κ M w ρ' κ' M' w' Q ex a'' w''} (h : Step (Kset n0 mv) ρ κ M w ρ' κ' M' w') (h' : PostOf C n0 mv n ρ' κ' M' w' Q ex a'' w'') :
    PostOf C n0 mv n ρ κ M w Q ex a'' w'' := by
  obtain ⟨x, ρ'', κ'', e'', M'', hx, hS, hst, hn, hq⟩ := h'
  exact ⟨x, ρ'', κ'', e'', M'', hx, hS, h.trans hst, hn, hq⟩

theorem ren_sound {ρ κ M w M'} (hR : Rel C ρ κ M w) (σ : Nat → Nat) (h0 : ∀ j, j < n0 → σ j = j) (hinj : ∀ i j, i < M'.length → j < M'.length → σ i = σ j → i = j)
    (hM : ∀ (j : Nat) (b : Blk), M'[j]? = some b → M[σ j]? = some (b.ren σ)) (hcM : ∀ (j : Nat) (b : Blk), M'[j]? = some b → ∀ r ∈ b.refs, r < M'.length) :
    Rel C (fun i => ρ (σ i)) (fun i => κ (σ i)) M' w ∧ Step (Kset n0 mv) ρ κ M w (fun i => ρ (σ i)) (fun i => κ (σ i)) M' w := by
  have hlive : ∀ (b : Blk) c, (b.ren σ).live c ↔ b.live c := fun b c => by cases b <;> exact Iff.rfl
  have hal : ∀ i, alive (fun i => κ (σ i)) M' i → alive κ M (σ i) := by
    intro i hi
    have hl := alive_lt hi
    have hb : M'[i]? = some M'[i] := by simp [hl]
    rw [alive_of hb] at hi
    rw [alive_of (hM i _ hb), hlive]
    exact hi
  refine ⟨⟨?_, ?_, ?_, hcM⟩, ⟨rfl, rfl, rfl, Nat.le_refl _, fun _ _ _ => rfl, fun i hi => .inl ⟨σ i, hal i hi, rfl⟩, ?_⟩⟩
  · intro i b hb
    have h1 := hR.blk (σ i) _ (hM i b hb)
    cases b with
    | own cs T =>
      obtain ⟨cells, hc, hs, hg⟩ := h1
      refine ⟨cells, hc, by simpa [V.renL_map] using hs, fun j v hj hu => ?_⟩
      have := hg j (v.ren σ) (by simp [V.renL_map, hj]) (by cases v <;> simp_all [V.ren])
      rw [V.real_ren] at this
      exact this
    | ints k xs T => exact h1
    | vec k xs T => exact h1
  · intro i j hi hj hij
    exact hinj i j (alive_lt hi) (alive_lt hj) (hR.inj _ _ (hal i hi) (hal j hj) hij)
  · intro ad v hv
    obtain ⟨h1, h2⟩ := hR.ext ad v hv
    exact ⟨h1, fun i hi => h2 (σ i) (hal i hi)⟩
  · intro i hi
    simp only [h0 i hi.1, and_self]

theorem adj_sound {ρ κ M w e a e' M'} (hS : St C n ρ κ M w e a) (hn : n0 ≤ M.length) (h : Adj n0 e M e' M') :
    ∃ ρ' κ', St C n ρ' κ' M' w e' a ∧ Step (Kset n0 mv) ρ κ M w ρ' κ' M' w ∧ n0 ≤ M'.length := by
  cases h with
  | refl => exact ⟨ρ, κ, hS, Step.refl .., hn⟩
  | weak _ hw => exact ⟨ρ, κ, hS.weak hw, Step.refl .., hn⟩
  | ren _ _ σ h0 hn' hinj hM he hce hcM =>
    obtain ⟨hR, hst⟩ := ren_sound (mv := mv) hS.rel σ h0 hinj hM hcM
    refine ⟨_, _, ⟨hR, ⟨hS.env.size, ?_⟩, hce, hS.defers⟩, hst, hn'⟩
    intro j hj
    rcases he j with h1 | h1
    · exact absurd h1 hj
    · have hne : e.get j ≠ .undef := by rw [h1]; cases hq : e'.get j <;> simp_all [V.ren]
      rw [hS.env.get j hne, h1, V.real_ren]

theorem lift_after {ρ κ M w Q ks} {a' : Act} {w' : World} (h : After C n0 mv n ρ κ M w (fun e M => Q VX.normal (Env.keep e ks) M) a' w') : PostOf C n0 mv n ρ κ M w Q .normal a' w' := by
  obtain ⟨ρ', κ', e', M', hS, hst, hn, hq⟩ := h
  exact ⟨.normal, ρ', κ', _, M', rfl, hS.weak (get_keep e' ks), hst, hn, hq⟩

theorem compItems_length {P : Program} {ops : Array Oper} : ∀ (l : List Oper) (its : List Item), compItems P n ops l = some its → its.length = l.length
  | [], its, h => by simp only [compItems, Option.some.injEq] at h; subst h; rfl
  | o :: l, its, h => by
    simp only [compItems] at h
    split at h
    · rename_i it its' _ hits; cases h; simp [compItems_length l its' hits]
    · cases h

theorem compItems_take {P : Program} {ops : Array Oper} : ∀ (l : List Oper) (its : List Item) (k : Nat), compItems P n ops l = some its → compItems P n ops (l.take k) = some (its.take k)
  | [], its, k, h => by simp only [compItems, Option.some.injEq] at h; subst h; simp [compItems]
  | o :: l, its, 0, h => by simp [compItems]
  | o :: l, its, k + 1, h => by
    simp only [compItems] at h
    split at h
    · rename_i it its' hit hits
      cases h
      simp only [List.take_succ_cons, compItems, hit, compItems_take l its' k hits]
    · cases h

theorem compItems_drop {P : Program} {ops : Array Oper} : ∀ (l : List Oper) (its : List Item) (k : Nat), compItems P n ops l = some its → compItems P n ops (l.drop k) = some (its.drop k)
  | l, its, 0, h => by simpa using h
  | [], its, k + 1, h => by simp only [compItems, Option.some.injEq] at h; subst h; simp [compItems]
  | o :: l, its, k + 1, h => by
    simp only [compItems] at h
    split at h
    · rename_i it its' _ hits
      cases h
      simpa using compItems_drop l its' k hits
    · cases h

theorem quietHead_all : ∀ (its : List Item), (its.take (quietHead its)).all Item.quiet = true
  | [] => rfl
  | i :: r => by
    simp only [quietHead]
    split
    · rename_i h; simp only [List.take_succ_cons, List.all_cons, h, quietHead_all r, Bool.and_self]
    · rfl

theorem code_sound (hs : List (Nat × List Nat)) : ∀ (code : Code) (vc : VC), comp C.P n hs code = some vc → ∀ (e : Env) (M : Mem) (Q : VX → Env → Mem → Prop), VWp C n0 mv vc e M Q →
    ∀ ρ κ a w, St C n ρ κ M w e a → n0 ≤ M.length → code.wp C.P (PostOf C n0 mv n ρ κ M w Q) a w
  | .skip, vc, hc, e, M, Q, h, ρ, κ, a, w, hS, hn => by
    cases hc
    exact wp_skip ⟨.normal, ρ, κ, e, M, rfl, hS, Step.refl .., hn, h⟩
  | .exit id, vc, hc, e, M, Q, h, ρ, κ, a, w, hS, hn => by
    cases hc
    exact wp_exit ⟨.exit id, ρ, κ, e, M, rfl, hS, Step.refl .., hn, h⟩
  | .ret, vc, hc, e, M, Q, h, ρ, κ, a, w, hS, hn => by
    cases hc
    exact wp_ret ⟨.ret, ρ, κ, e, M, rfl, hS, Step.refl .., hn, h⟩
  | .region id ops draw, vc, hc, e, M, Q, h, ρ, κ, a, w, hS, hn => by
    simp only [comp] at hc
    split at hc
    · cases hc
    · rename_i its hits
      split at hc
      · rename_i hdraw
        subst hdraw
        split at hc
        · rename_i hm
          have hdS := hS.drew
          have hops : ops = ops.toList.toArray := (Array.toArray_toList).symm
          split at hc
          · rename_i hh
            split at hc
            · rename_i hlex
              cases hc
              simp only [VWp] at h
              refine wp_region_still hm hlex ?_
              refine quietItems_sound (w := w.drew) ops ops.toList its hits ?_ e _ h a _ hdS fun a' e' hS' hq => ?_
              · have := quietHead_all its
                rwa [hh, List.take_length] at this
              · exact ⟨.normal, ρ, κ, _, M, rfl, hS'.weak (get_keep e' _), Step.drew .., hn, hq⟩
            · cases hc
          · split at hc
            · rename_i hlex
              cases hc
              simp only [VWp] at h
              rw [hops]
              rw [hops] at hlex
              refine wp_region_still_tail (quietHead its) hm hlex ?_
              rw [hops] at hits
              simp only at hits
              refine quietItems_sound (w := w.drew) ops.toList.toArray (ops.toList.take (quietHead its)) (its.take (quietHead its)) (compItems_take _ _ _ hits) (quietHead_all its) e _ h a _ hdS fun a' e' hS' hq => ?_
              refine items_sound ops.toList.toArray _ (ops.toList.drop (quietHead its)) (its.drop (quietHead its)) (compItems_drop _ _ _ hits) e' M _ hq ρ κ w.drew a' hS' hn fun a'' w'' hA => ?_
              exact (lift_after hA).trans (Step.drew ..)
            · cases hc
        · cases hc
      · rename_i hdraw
        cases hc
        have hdf : draw = false := by simpa using hdraw
        subst hdf
        simp only [VWp] at h
        exact wp_region_list (items_sound ops _ ops.toList its hits e M _ h ρ κ w a hS hn fun a' w' hA => lift_after hA)
  | .seq x y, vc, hc, e, M, Q, h, ρ, κ, a, w, hS, hn => by
    simp only [comp] at hc
    split at hc
    · rename_i vx vy hx hy
      cases hc
      simp only [VWp] at h
      refine wp_seq (wp_mono (code_sound hs x vx hx e M _ h ρ κ a w hS hn) fun ex a' w' hp => ?_)
      obtain ⟨q, ρ', κ', e', M', rfl, hS', hst, hn', hq⟩ := hp
      cases q with
      | normal =>
        simp only [VX.real, Exit.then]
        exact wp_mono (code_sound hs y vy hy e' M' Q hq ρ' κ' a' w' hS' hn') fun ex a'' w'' hp => hp.trans hst
      | exit id => exact ⟨.exit id, ρ', κ', e', M', rfl, hS', hst, hn', hq⟩
      | ret => exact ⟨.ret, ρ', κ', e', M', rfl, hS', hst, hn', hq⟩
    · cases hc
  | .cond c x y, vc, hc, e, M, Q, h, ρ, κ, a, w, hS, hn => by
    simp only [comp] at hc
    split at hc
    · rename_i vx vy hx hy
      cases hc
      simp only [VWp] at h
      split at h
      · rename_i t ht
        have hcv := ev_real hS.env c (by rw [ht]; simp)
        rw [ht] at hcv
        refine wp_cond hcv ?_
        cases t with
        | true => exact code_sound hs x vx hx e M Q (h.1 rfl) ρ κ a w hS hn
        | false => exact code_sound hs y vy hy e M Q (h.2 rfl) ρ κ a w hS hn
      · exact h.elim
    · cases hc
  | .block id x, vc, hc, e, M, Q, h, ρ, κ, a, w, hS, hn => by
    simp only [comp] at hc
    split at hc
    · rename_i vx hx
      cases hc
      simp only [VWp] at h
      refine wp_block (wp_mono (code_sound hs x vx hx e M _ h ρ κ a w hS hn) fun ex a' w' hp => ?_)
      obtain ⟨q, ρ', κ', e', M', rfl, hS', hst, hn', hq⟩ := hp
      cases q with
      | normal => exact ⟨.normal, ρ', κ', e', M', rfl, hS', hst, hn', hq⟩
      | ret => exact ⟨.ret, ρ', κ', e', M', rfl, hS', hst, hn', hq⟩
      | exit j =>
        simp only [VX.real, Exit.inBlock]
        simp only [blockK] at hq
        split
        · rename_i hj; rw [if_pos hj] at hq; exact ⟨.normal, ρ', κ', e', M', rfl, hS', hst, hn', hq⟩
        · rename_i hj; rw [if_neg hj] at hq; exact ⟨.exit j, ρ', κ', e', M', rfl, hS', hst, hn', hq⟩
    · cases hc
  | .loop x, vc, hc, e, M, Q, h, ρ, κ, a, w, hS, hn => by
    simp only [comp] at hc
    split at hc
    · rename_i vx hx
      cases hc
      simp only [VWp] at h
      obtain ⟨k, hk⟩ := h
      refine wp_loop_rounds k ?_
      have key : ∀ (k : Nat) (e : Env) (M : Mem) (ρ' : Nat → Nat) (κ' : Nat → Option Nat) (a : Act) (w' : World), VRounds n0 (VWp C n0 mv vx) k e M Q → St C n ρ' κ' M w' e a → n0 ≤ M.length →
          (Step (Kset n0 mv) ρ κ M w ρ' κ' M w' ∨ True) → Code.rounds C.P x (PostOf C n0 mv n ρ' κ' M w' Q) k a w' := by
        intro k
        induction k with
        | zero => intro e M ρ' κ' a w' hr; exact hr.elim
        | succ k ih =>
          intro e M ρ' κ' a w' hr hS' hn' _
          simp only [VRounds] at hr
          obtain ⟨e', M', hadj, hbody⟩ := hr
          obtain ⟨ρ₂, κ₂, hS₂, hst₂, hn₂⟩ := adj_sound (mv := mv) hS' hn' hadj
          rw [rounds_succ]
          refine wp_mono (code_sound hs x vx hx e' M' _ hbody ρ₂ κ₂ a w' hS₂ hn₂) fun ex a' w'' hp => ?_
          obtain ⟨q, ρ₃, κ₃, e₃, M₃, rfl, hS₃, hst₃, hn₃, hq⟩ := hp
          have hst := hst₂.trans hst₃
          cases q with
          | normal =>
            simp only [VX.real, Exit.then]
            simp only at hq
            have h4 := ih e₃ M₃ ρ₃ κ₃ a' w'' hq hS₃ hn₃ (.inr trivial)
            have mono : ∀ (k : Nat) (a : Act) (w : World), Code.rounds C.P x (PostOf C n0 mv n ρ₃ κ₃ M₃ w'' Q) k a w → Code.rounds C.P x (PostOf C n0 mv n ρ' κ' M w' Q) k a w := by
              intro k
              induction k with
              | zero => intro a w h; exact h
              | succ k ih2 =>
                intro a w h
                rw [rounds_succ] at h ⊢
                refine wp_mono h fun ex a₄ w₄ hp => ?_
                cases ex with
                | normal => exact ih2 a₄ w₄ hp
                | _ => exact hp.trans hst
            exact mono k a' w'' h4
          | exit id => exact ⟨.exit id, ρ₃, κ₃, e₃, M₃, rfl, hS₃, hst, hn₃, hq⟩
          | ret => exact ⟨.ret, ρ₃, κ₃, e₃, M₃, rfl, hS₃, hst, hn₃, hq⟩
      exact key k e M ρ κ a w hk hS hn (.inr trivial)
    · cases hc
  | .rangeFunc .., vc, hc, _, _, _, _, _, _, _, _, _, _ => by cases hc
  | .scope .., vc, hc, _, _, _, _, _, _, _, _, _, _ => by cases hc
  | .label .., vc, hc, _, _, _, _, _, _, _, _, _, _ => by cases hc
  | .goto .., vc, hc, _, _, _, _, _, _, _, _, _, _ => by cases hc
  | .refuse .., vc, hc, _, _, _, _, _, _, _, _, _, _ => by cases hc

end
end Go.VM
