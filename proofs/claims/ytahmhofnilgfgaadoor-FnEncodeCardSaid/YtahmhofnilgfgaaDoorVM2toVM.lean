/-
  Regions that draw their order are sound; loops and code as a whole are sound. No condition but what each theorem names.
-/
import Derived.Test.YtahmhofnilgfgaaDoorVLtoVM1
set_option linter.unusedVariables false
set_option linter.unusedSimpArgs false
section
namespace Go.VM
open Go

section
variable {C : Ctx} {n0 : Nat} {mv : List Nat} {n : Nat} {ops : Array Oper} {its : List Item}

/-- the facts that the check gives -/
structure DrawF (ops : Array Oper) (its : List Item) (F cs : List Nat) (tab : List (List Nat)) (lev : Nat → Nat) : Prop where
  len : its.length = ops.size
  topo : ∀ i, i < ops.size → ∀ d ∈ depsOf ops i, d < i
  tabe : tab = ancTab ops ops.size
  tlt : ∀ i, i < ops.size → ∀ d ∈ tab.getD i [], d < i
  prev : ∀ (m c c' : Nat), cs[m]? = some c → cs[m + 1]? = some c' → c ∈ tab.getD c' []
  cslt : ∀ c ∈ cs, c < ops.size
  csF : ∀ c ∈ cs, c ∉ F
  split : ∀ i, i < ops.size → i ∈ F ∨ i ∈ cs
  levLe : ∀ q, lev q ≤ cs.length
  levAt : ∀ q k, lev q = k + 1 → ∃ c, cs[k]? = some c ∧ c ∈ tab.getD q []
  levMono : ∀ q ∈ F, ∀ q' ∈ F, ∀ it it' d, its[q]? = some it → its[q']? = some it' → it'.dst = some d → d ∈ it.rd → lev q' ≤ lev q
  flt : ∀ q ∈ F, q < ops.size ∧ ∃ g d vi, its[q]? = some (.op g (some d) vi) ∧ vi.quiet = true ∧ d ∉ Item.rd (.op g (some d) vi) ∧
    ∀ k it, k ≠ q → its[k]? = some it → it.dst ≠ some d ∧ (d ∈ it.rd → q ∈ tab.getD k [])

theorem drawF_of (h : drawOK ops its = true) : DrawF ops its (drawPlan ops its).F (drawPlan ops its).cs (drawPlan ops its).tab (drawLev (drawPlan ops its)) := by
  simp only [drawOK, Bool.and_eq_true, beq_iff_eq, List.all_eq_true, List.mem_range, decide_eq_true_eq] at h
  obtain ⟨⟨⟨hlen, hdep⟩, hch⟩, hmono⟩ := h
  have hFmem : ∀ q, q ∈ (drawPlan ops its).F ↔ q < its.length ∧ okFloat its (ancTab ops ops.size) q = true := by
    intro q; simp [drawPlan]
  have hcmem : ∀ q, q ∈ (drawPlan ops its).cs ↔ q < its.length ∧ okFloat its (ancTab ops ops.size) q = false := by
    intro q; simp [drawPlan]
  refine ⟨hlen, fun i hi d hd => (hdep i hi).1 d hd, rfl, fun i hi d hd => (hdep i hi).2 d hd, chain_prev _ _ hch, fun c hc => by rw [← hlen]; exact ((hcmem c).1 hc).1, fun c hc hF => ?_, fun i hi => ?_,
    fun q => levOf_le _ _ _, fun q k hk => ?_, fun q hq q' hq' it it' d h1 h2 h3 h4 => ?_, fun q hq => ?_⟩
  · have h1 := ((hcmem c).1 hc).2
    rw [((hFmem c).1 hF).2] at h1
    cases h1
  · rw [← hlen] at hi
    cases hok : okFloat its (ancTab ops ops.size) i with
    | true => exact .inl ((hFmem i).2 ⟨hi, hok⟩)
    | false => exact .inr ((hcmem i).2 ⟨hi, hok⟩)
  · exact levOf_spec _ _ _ _ hk
  · have h5 := hmono q hq
    rw [h1] at h5
    simp only [List.all_eq_true] at h5
    have h6 := h5 q' hq'
    rw [h2] at h6
    simp only [h3] at h6
    have : it.rd.contains d = true := by simpa using h4
    rw [this] at h6
    simpa using h6
  · obtain ⟨hlt, hok⟩ := (hFmem q).1 hq
    refine ⟨by rw [← hlen]; exact hlt, ?_⟩
    unfold okFloat at hok
    split at hok
    · rename_i g d vi hit
      simp only [Bool.and_eq_true, List.all_eq_true, List.mem_range] at hok
      refine ⟨g, d, vi, hit, hok.1, ?_, fun k it hk hkit => ?_⟩
      · have := hok.2 q hlt
        simpa using this
      · have hkl : k < its.length := (List.getElem?_eq_some_iff.1 hkit).1
        have := hok.2 k hkl
        rw [if_neg hk, hkit] at this
        simp only [Bool.and_eq_true, bne_iff_ne, ne_eq, Bool.or_eq_true, Bool.not_eq_true', List.contains_eq_mem, decide_eq_false_iff_not, decide_eq_true_eq] at this
        exact ⟨this.1, fun hd => by
          rcases this.2 with h | h
          · exact absurd hd h
          · exact h⟩
    · cases hok

variable {F cs : List Nat} {tab : List (List Nat)} {lev : Nat → Nat} {M : Mem}

/-- a float's slot holds what it yields -/
def FVat (C : Ctx) (its : List Item) (q : Nat) (e : Env) (M : Mem) : Prop :=
  ∃ g d vi, its[q]? = some (.op g (some d) vi) ∧ FV C (.op g (some d) vi) e M (e.get d)

def dstAt (its : List Item) (q : Nat) : Option Nat := (its[q]?).bind Item.dst

theorem run_floats (D : DrawF ops its F cs tab lev) : ∀ (l : List Nat), l.Pairwise (· < ·) → (∀ q ∈ l, q ∈ F) → ∀ (e : Env) (Q : Env → Prop), wpQuiet C (itemsAt its l) e M Q →
    ∃ e', Q e' ∧ (∀ t, (∀ q ∈ l, dstAt its q ≠ some t) → e'.get t = e.get t) ∧ ∀ q ∈ l, FVat C its q e' M
  | [], _, _, e, Q, h => ⟨e, h, fun _ _ => rfl, fun q hq => by cases hq⟩
  | q :: l, hp, hF, e, Q, h => by
    obtain ⟨hql, g, d, vi, hit, hvq, hself, hoth⟩ := D.flt q (hF q (by simp))
    rw [List.pairwise_cons] at hp
    have e1 : itemsAt its (q :: l) = .op g (some d) vi :: itemsAt its l := by simp [itemsAt, List.filterMap_cons, hit]
    rw [e1] at h
    obtain ⟨v, hv, hr⟩ := quiet_split h
    obtain ⟨e', hQ, hkeep, hat⟩ := run_floats D l hp.2 (fun q' hq' => hF q' (by simp [hq'])) _ Q hr
    have hd : dstAt its q = some d := by simp [dstAt, hit, Item.dst]
    have hnd : ∀ q' ∈ l, dstAt its q' ≠ some d := by
      intro q' hq' hd'
      have hne : q' ≠ q := by have := hp.1 q' hq'; omega
      cases hit' : its[q']? with
      | none => simp [dstAt, hit'] at hd'
      | some it' => exact (hoth q' it' hne hit').1 (by simpa [dstAt, hit'] using hd')
    have hget : e'.get d = v := by rw [hkeep d hnd, get_putO, if_pos rfl]
    refine ⟨e', hQ, fun t ht => ?_, fun q' hq' => ?_⟩
    · rw [hkeep t (fun q' hq' => ht q' (by simp [hq'])), get_putO, if_neg]
      intro hdt
      exact ht q (by simp) (by rw [hd]; exact hdt)
    · rcases List.mem_cons.1 hq' with rfl | hq'
      · refine ⟨g, d, vi, hit, ?_⟩
        rw [hget]
        refine FV_congr (fun t ht => ?_) hv
        have h1 : ∀ q' ∈ l, dstAt its q' ≠ some t := by
          intro q2 hq2 hd2
          obtain ⟨hq2l, g2, d2, vi2, hit2, _, _, hoth2⟩ := D.flt q2 (hF q2 (by simp [hq2]))
          have hdt : d2 = t := by simpa [dstAt, hit2, Item.dst] using hd2
          subst hdt
          have hlt := hp.1 q2 hq2
          have := (hoth2 q' _ (by omega) hit).2 ht
          have := D.tlt q' hql _ this
          omega
        rw [hkeep t h1, get_putO, if_neg]
        intro hdt
        cases hdt
        exact hself ht
      · exact hat q' hq'

theorem itemsAt_mem {l : List Nat} {q : Nat} {it : Item} (hq : q ∈ l) (h : its[q]? = some it) : it ∈ itemsAt its l := List.mem_filterMap.2 ⟨q, hq, h⟩

theorem check_get {l : List Item} {e : Env} (h : wpCheck C l e M) : ∀ g d vi, Item.op g (some d) vi ∈ l → FV C (.op g (some d) vi) e M (e.get d) := by
  induction l with
  | nil => intro g d vi hm; cases hm
  | cons it r ih =>
    intro g d vi hm
    cases it with
    | op g' d' vi' =>
      cases d' with
      | none => exact h.elim
      | some d' =>
        rcases List.mem_cons.1 hm with heq | hm
        · cases heq
          have h1 := h.1
          simp only [FV]
          refine guardK_mono (fun ho => opK_mono (fun v M' hv => hv) ho) (fun hv => hv) h1
        · exact ih h.2 g d vi hm
    | _ => exact h.elim

/-- listed -/
def Lst (listed : Array Bool) (i : Nat) : Prop := listed[i]? = some true

structure DInv (C : Ctx) (n0 : Nat) (mv : List Nat) (ops : Array Oper) (its : List Item) (F cs : List Nat) (tab : List (List Nat)) (lev : Nat → Nat) (Q : Env → Mem → Prop) (p : Nat) (listed : Array Bool) (e e₁ : Env) (M : Mem) : Prop where
  size : listed.size = ops.size
  closed : ClosedL ops (Lst listed)
  chain : ∀ m c, cs[m]? = some c → (Lst listed c ↔ m < p)
  le : p ≤ cs.length
  agree : ∀ t, e.get t = e₁.get t ∨ ∃ q ∈ F, lev q ≤ p ∧ ¬ Lst listed q ∧ dstAt its q = some t
  now : ∀ q ∈ F, lev q ≤ p → ¬ Lst listed q → FVat C its q e₁ M
  rest : wpStages C n0 mv (stagesFrom its tab F lev p (cs.drop p)) e₁ M Q

theorem ready_iff {listed : Array Bool} (hs : listed.size = ops.size) (i : Nat) : i ∈ Region.ready .any ops listed ↔ i < ops.size ∧ ¬ Lst listed i ∧ ∀ d ∈ depsOf ops i, Lst listed d := by
  simp only [Region.ready, List.mem_filter, List.mem_range, Bool.and_eq_true, Bool.not_eq_true']
  constructor
  · rintro ⟨hi, h1, h2⟩
    refine ⟨hi, ?_, ?_⟩
    · intro hl
      unfold Lst at hl
      rw [Array.getD_eq_getD_getElem?, hl] at h1
      cases h1
    · intro d hd
      have ho : ops[i]? = some ops[i] := by simp [hi]
      unfold depsOf at hd
      rw [ho] at hd h2
      simp only [Option.map_some, Option.getD_some, Array.all_eq_true_iff_forall_mem] at h2
      simp only [List.mem_map, List.mem_filter] at hd
      obtain ⟨x, ⟨hx, hb⟩, rfl⟩ := hd
      have := h2 x (by simpa using hx)
      simp only [hb, Bool.not_true, Bool.false_or] at this
      rw [Array.getD_eq_getD_getElem?] at this
      unfold Lst
      cases hq : listed[x.on]? with
      | none => rw [hq] at this; cases this
      | some b => rw [hq] at this; simp at this; rw [this]
  · rintro ⟨hi, h1, h2⟩
    refine ⟨hi, ?_, ?_⟩
    · have hl : listed[i]? = some listed[i] := by simp [hs, hi]
      rw [Array.getD_eq_getD_getElem?, hl]
      unfold Lst at h1
      rw [hl] at h1
      simp only [Option.getD_some]
      cases hb : listed[i] with
      | true => rw [hb] at h1; exact absurd rfl h1
      | false => rfl
    · have ho : ops[i]? = some ops[i] := by simp [hi]
      rw [ho]
      simp only [Option.map_some, Option.getD_some, Array.all_eq_true_iff_forall_mem]
      intro x hx
      cases hb : Region.binds .any x with
      | false => simp
      | true =>
        simp only [Bool.not_true, Bool.false_or]
        have := h2 x.on (by
          unfold depsOf
          rw [ho]
          simp only [List.mem_map, List.mem_filter]
          exact ⟨x, ⟨by simpa using hx, hb⟩, rfl⟩)
        unfold Lst at this
        rw [Array.getD_eq_getD_getElem?, this]
        rfl

theorem lst_set {listed : Array Bool} {i : Nat} (hi : i < listed.size) (j : Nat) : Lst (listed.setIfInBounds i true) j ↔ j = i ∨ Lst listed j := by
  unfold Lst
  rw [Array.getElem?_setIfInBounds]
  by_cases h : i = j
  · subst h; simp [hi]
  · rw [if_neg h]
    constructor
    · exact .inr
    · rintro (rfl | h')
      · exact absurd rfl h
      · exact h'
end
end Go.VM
end

section
namespace Go.VM
open Go

section
variable {C : Ctx} {n0 : Nat} {mv : List Nat} {n : Nat} {ops : Array Oper} {its : List Item}
variable {F cs : List Nat} {tab : List (List Nat)} {lev : Nat → Nat}

def unl (listed : Array Bool) : Nat := listed.toList.countP (fun b => !b)

theorem unl_set {listed : Array Bool} {i : Nat} (hi : i < listed.size) (hn : ¬ Lst listed i) : unl (listed.setIfInBounds i true) + 1 = unl listed := by
  have hf : listed[i] = false := by
    cases hb : listed[i] with
    | false => rfl
    | true => exact absurd (by unfold Lst; simp [hi, hb]) hn
  unfold unl
  rw [Array.toList_setIfInBounds, List.countP_set (by simpa using hi)]
  have h1 : listed.toList[i]'(by simpa using hi) = false := by simpa using hf
  rw [h1]
  have hpos : 0 < listed.toList.countP (fun b => !b) := List.countP_pos_iff.2 ⟨false, by rw [← h1]; exact List.getElem_mem _, rfl⟩
  simp only [Bool.not_false, Bool.not_true, if_true, Bool.false_eq_true, if_false]
  omega

theorem unl_zero {listed : Array Bool} (h : unl listed = 0) (i : Nat) (hi : i < listed.size) : Lst listed i := by
  unfold unl at h
  rw [List.countP_eq_zero] at h
  have := h listed[i] (by simp)
  unfold Lst
  simp at this
  simp [hi, this]

theorem pairwise_sub (l : List Nat) (p : Nat → Bool) (h : l.Pairwise (· < ·)) : (l.filter p).Pairwise (· < ·) := h.sublist List.filter_sublist

theorem drw_any (hits : compItems C.P n ops ops.toList = some its) (D : DrawF ops its F cs tab lev) (hF : F.Pairwise (· < ·)) {Q : Env → Mem → Prop} {Q' : Exit → Act → World → Prop} : ∀ (fuel : Nat) (listed : Array Bool) (a : Act) (w : World) (ρ : Nat → Nat) (κ : Nat → Option Nat) (p : Nat) (e e₁ : Env) (M : Mem),
    DInv C n0 mv ops its F cs tab lev Q p listed e e₁ M → St C n ρ κ M w e a → n0 ≤ M.length → unl listed ≤ fuel → (∀ a' w', After C n0 mv n ρ κ M w Q a' w' → Q' .normal a' w') →
    wpAny C.P .any ops Q' fuel listed a w := by
  -- the end
  have fin : ∀ (listed : Array Bool) (a : Act) (w : World) (ρ : Nat → Nat) (κ : Nat → Option Nat) (p : Nat) (e e₁ : Env) (M : Mem), DInv C n0 mv ops its F cs tab lev Q p listed e e₁ M → St C n ρ κ M w e a → n0 ≤ M.length →
      (∀ a' w', After C n0 mv n ρ κ M w Q a' w' → Q' .normal a' w') → (∀ i, i < ops.size → Lst listed i) → Q' .normal a w := by
    intro listed a w ρ κ p e e₁ M I hS hn hQ hall
    have hp : p = cs.length := by
      rcases Nat.lt_or_ge p cs.length with h | h
      · have hc : cs[p]? = some cs[p] := by simp [h]
        have := (I.chain p cs[p] hc).1 (hall _ (D.cslt _ (List.getElem_mem h)))
        omega
      · have := I.le; omega
    have hr := I.rest
    rw [hp, List.drop_length] at hr
    simp only [stagesFrom, wpStages] at hr
    have hag : ∀ t, e₁.get t = .undef ∨ e₁.get t = e.get t := by
      intro t
      rcases I.agree t with h | ⟨q, hq, _, hl, _⟩
      · exact .inr h.symm
      · exact absurd (hall q (D.flt q hq).1) hl
    exact hQ a w ⟨ρ, κ, e₁, M, hS.weak hag, Step.refl .., hn, hr⟩
  -- nothing is ready: all is done
  have done : ∀ (listed : Array Bool), listed.size = ops.size → Region.ready .any ops listed = [] → ∀ i, i < ops.size → Lst listed i := by
    intro listed hs hr i
    induction i using Nat.strongRecOn with
    | _ i ih =>
      intro hi
      refine Classical.byContradiction fun hn => ?_
      have : i ∈ Region.ready .any ops listed := (ready_iff hs i).2 ⟨hi, hn, fun d hd => ih d (D.topo i hi d hd) (by have := D.topo i hi d hd; omega)⟩
      rw [hr] at this
      cases this
  intro fuel
  induction fuel with
  | zero =>
    intro listed a w ρ κ p e e₁ M I hS hn hu hQ
    have hall : ∀ i, i < ops.size → Lst listed i := fun i hi => unl_zero (by omega) i (by rw [I.size]; exact hi)
    refine ⟨?_, fin listed a w ρ κ p e e₁ M I hS hn hQ hall⟩
    rw [List.eq_nil_iff_forall_not_mem]
    intro i hi
    have := (ready_iff I.size i).1 hi
    exact this.2.1 (hall i this.1)
  | succ fuel ih =>
    intro listed a w ρ κ p e e₁ M I hS hn hu hQ
    refine ⟨fun hr => fin listed a w ρ κ p e e₁ M I hS hn hQ (done listed I.size hr), fun i hi => ?_⟩
    obtain ⟨hiN, hnl, hdeps⟩ := (ready_iff I.size i).1 hi
    have his : i < listed.size := by rw [I.size]; exact hiN
    have hu' : unl (listed.setIfInBounds i true) ≤ fuel := by have := unl_set his hnl; omega
    have hanc : ∀ j ∈ tab.getD i [], Lst listed j := by rw [D.tabe]; exact anc_closed ops I.closed _ i hiN hdeps
    have hclosed' : ClosedL ops (Lst (listed.setIfInBounds i true)) := by
      intro j hj d hd
      rw [lst_set his] at hj ⊢
      rcases hj with rfl | hj
      · exact .inr (hdeps d hd)
      · exact .inr (I.closed j hj d hd)
    have hop : ops[i]? = some ops[i] := by simp [hiN]
    obtain ⟨it, hit, hci⟩ := compItems_get ops.toList its hits i ops[i] (by simp [hiN])
    -- what it reads stands in both frames alike
    have hread : ∀ t ∈ it.rd, (∀ q ∈ F, dstAt its q = some t → q ≠ i) → e.get t = e₁.get t := by
      intro t ht hself
      rcases I.agree t with h | ⟨q, hq, _, hl, hd⟩
      · exact h
      · obtain ⟨_, g, d, vi, hqi, _, _, hoth⟩ := D.flt q hq
        have hdt : d = t := by simpa [dstAt, hqi, Item.dst] using hd
        subst hdt
        exact absurd (hanc q ((hoth i it (fun h => hself q hq hd h.symm) hit).2 ht)) hl
    have wp : ∀ (K : (Env → Env) → Mem → Prop), effK C n0 mv it e M K →
        (∀ (f : Env → Env) (M' : Mem) (ρ' : Nat → Nat) (κ' : Nat → Option Nat) (w' : World) (a' : Act), K f M' → St C n ρ' κ' M' w' (f e) a' → Step (Kset n0 mv) ρ κ M w ρ' κ' M' w' → n0 ≤ M'.length → wpAny C.P .any ops Q' fuel (listed.setIfInBounds i true) a' w') →
        wpOp C.P ops Q' i (wpAny C.P .any ops Q' fuel (listed.setIfInBounds i true)) a w := by
      intro K hK hnext
      have := item_sound ops hci hK hS hn (wpAny C.P .any ops Q' fuel (listed.setIfInBounds i true)) Q' hnext
      unfold wpOp
      rw [hop]
      simp only
      split at this
      · rename_i hw; rw [if_pos hw]; exact .inl this
      · rename_i hw; rw [if_neg hw]; exact this
    rcases D.split i hiN with hiF | hic
    · -- it floats
      obtain ⟨_, g, d, vi, hiti, hvq, hself, hoth⟩ := D.flt i hiF
      rw [hit] at hiti
      cases hiti
      have hdi : dstAt its i = some d := by simp [dstAt, hit, Item.dst]
      have hlev : lev i ≤ p := by
        rcases Nat.lt_or_ge p (lev i) with h | h
        · obtain ⟨c, hc, hct⟩ := D.levAt i (lev i - 1) (by omega)
          have := (I.chain _ c hc).1 (hanc c hct)
          omega
        · exact h
      obtain ⟨g', d', vi', hit', hfv⟩ := I.now i hiF hlev hnl
      rw [hit] at hit'
      cases hit'
      have hrd : ∀ t ∈ Item.rd (.op g (some d) vi), e.get t = e₁.get t := fun t ht => hread t ht (fun q _ hq hqi => by
        subst hqi
        rw [hdi] at hq
        cases hq
        exact hself ht)
      have hfv' := FV_congr (fun t ht => (hrd t ht).symm) hfv
      refine wp _ (effK_of_FV hvq hfv') fun f M' ρ' κ' w' a' hK hS' hst hn' => ?_
      obtain ⟨rfl, rfl⟩ := hK
      refine ih _ a' w' ρ' κ' p _ e₁ M' ⟨by simp [I.size], hclosed', fun m c hc => ?_, I.le, fun t => ?_, fun q hq hl hnq => ?_, I.rest⟩ hS' hn' hu' (fun a'' w'' hA => hQ a'' w'' (hA.trans hst))
      · rw [lst_set his, ← I.chain m c hc]
        constructor
        · rintro (rfl | h)
          · exact absurd hiF (D.csF _ (List.mem_of_getElem? hc))
          · exact h
        · exact .inr
      · simp only [get_putO]
        by_cases hdt : some d = some t
        · rw [if_pos hdt]; cases hdt; exact .inl rfl
        · rw [if_neg hdt]
          rcases I.agree t with h | ⟨q, hq, hl, hnq, hd⟩
          · exact .inl h
          · refine .inr ⟨q, hq, hl, ?_, hd⟩
            rw [lst_set his]
            rintro (rfl | h)
            · rw [hdi] at hd; exact hdt hd
            · exact hnq h
      · rw [lst_set his] at hnq
        exact I.now q hq hl (fun h => hnq (.inr h))
    · -- the next of the chain
      obtain ⟨m, hm⟩ := List.mem_iff_getElem?.1 hic
      have hmp : m = p := by
        have h1 : ¬ m < p := fun h => hnl ((I.chain m i hm).2 h)
        rcases Nat.eq_or_lt_of_le (Nat.le_of_not_lt h1) with h | h
        · exact h.symm
        · exfalso
          obtain ⟨m', rfl⟩ : ∃ m', m = m' + 1 := ⟨m - 1, by omega⟩
          have hml : m' < cs.length := by have := (List.getElem?_eq_some_iff.1 hm).1; omega
          have hc : cs[m']? = some cs[m'] := by simp [hml]
          have := (I.chain m' _ hc).1 (hanc _ (D.prev m' _ i hc hm))
          omega
      subst hmp
      have hml : m < cs.length := (List.getElem?_eq_some_iff.1 hm).1
      have hiF : i ∉ F := D.csF i hic
      have hdrop : cs.drop m = i :: cs.drop (m + 1) := by
        rw [List.drop_eq_getElem_cons hml]
        congr 1
        have := (List.getElem?_eq_some_iff.1 hm).2
        exact this
      have hr := I.rest
      rw [hdrop] at hr
      simp only [stagesFrom, hit, wpStages] at hr
      rw [wpItems_eff] at hr
      have hrd : ∀ t ∈ it.rd, e.get t = e₁.get t := fun t ht => hread t ht (fun q hq _ hqi => hiF (hqi ▸ hq))
      rw [← effK_congr hrd] at hr
      refine wp _ (effK_pw (K' := fun f M' => PW it.dst f ∧ (wpCheck C (itemsAt its (F.filter fun q => decide (lev q ≤ m) && !(tab.getD i []).contains q)) (f e₁) M' ∧
          wpQuiet C (itemsAt its (F.filter fun q => lev q == m + 1)) (f e₁) M' fun e => wpStages C n0 mv (stagesFrom its tab F lev (m + 1) (cs.drop (m + 1))) e M' Q)) hr (fun f M' hpw h => ⟨hpw, h⟩)) fun f M' ρ' κ' w' a' hK hS' hst hn' => ?_
      obtain ⟨hpw, hchk, hq⟩ := hK
      obtain ⟨e₂, hrest, hkeep, hat⟩ := run_floats D _ (pairwise_sub F _ hF) (fun q hq => (List.mem_filter.1 hq).1) _ _ hq
      have hnotst : ∀ t, (∀ q ∈ F, lev q = m + 1 → dstAt its q ≠ some t) → e₂.get t = (f e₁).get t := fun t ht => hkeep t (fun q hq => by
        have := List.mem_filter.1 hq
        exact ht q this.1 (by simpa using this.2))
      refine ih _ a' w' ρ' κ' (m + 1) (f e) e₂ M' ⟨by simp [I.size], hclosed', fun m' c hc => ?_, by omega, fun t => ?_, fun q hq hl hnq => ?_, hrest⟩ hS' hn' hu' (fun a'' w'' hA => hQ a'' w'' (hA.trans hst))
      · rw [lst_set his]
        constructor
        · rintro (rfl | h)
          · rcases Nat.lt_or_ge m' (m + 1) with h | h
            · exact h
            · exfalso
              obtain ⟨k', rfl⟩ : ∃ k', m' = k' + 1 := ⟨m' - 1, by omega⟩
              have hkl : k' < cs.length := by have := (List.getElem?_eq_some_iff.1 hc).1; omega
              have hck : cs[k']? = some cs[k'] := by simp [hkl]
              have := (I.chain k' _ hck).1 (hanc _ (D.prev k' _ _ hck hc))
              omega
          · have := (I.chain m' c hc).1 h; omega
        · intro h
          rcases Nat.lt_or_ge m' m with h' | h'
          · exact .inr ((I.chain m' c hc).2 h')
          · have : m' = m := by omega
            subst this
            rw [hm] at hc
            cases hc
            exact .inl rfl
      · by_cases hex : ∃ q ∈ F, lev q = m + 1 ∧ dstAt its q = some t
        · obtain ⟨q, hq, hl, hd⟩ := hex
          refine .inr ⟨q, hq, by omega, ?_, hd⟩
          rw [lst_set his]
          rintro (rfl | h)
          · exact hiF hq
          · obtain ⟨c, hc, hct⟩ := D.levAt q m hl
            have hqn := (D.flt q hq).1
            have hl2 : Lst listed c := by
              have := anc_closed ops I.closed ops.size q hqn (fun d hd => I.closed q h d hd) c (by rw [← D.tabe]; exact hct)
              exact this
            have := (I.chain m c hc).1 hl2
            omega
        · have h1 : e₂.get t = (f e₁).get t := hnotst t (fun q hq hl hd => hex ⟨q, hq, hl, hd⟩)
          rcases I.agree t with h | ⟨q, hq, hl, hnq, hd⟩
          · exact .inl ((hpw.point _ _ t h).trans h1.symm)
          · refine .inr ⟨q, hq, by omega, ?_, hd⟩
            rw [lst_set his]
            rintro (rfl | h)
            · exact hiF hq
            · exact hnq h
      · rw [lst_set his] at hnq
        have hnq' : ¬ Lst listed q := fun h => hnq (.inr h)
        by_cases hl1 : lev q = m + 1
        · exact hat q (List.mem_filter.2 ⟨hq, by simp [hl1]⟩)
        · have hlm : lev q ≤ m := by omega
          obtain ⟨_, g, d, vi, hqi, hvq, hself, hoth⟩ := D.flt q hq
          have hqt : q ∉ tab.getD i [] := fun h => hnq' (hanc q h)
          have hmem : Item.op g (some d) vi ∈ itemsAt its (F.filter fun q => decide (lev q ≤ m) && !(tab.getD i []).contains q) :=
            itemsAt_mem (List.mem_filter.2 ⟨hq, by simp only [hlm, decide_true, Bool.true_and, Bool.not_eq_true']; simpa using hqt⟩) hqi
          have hfv := check_get hchk g d vi hmem
          refine ⟨g, d, vi, hqi, ?_⟩
          have hgd : e₂.get d = (f e₁).get d := hnotst d (fun q' hq' hl' hd' => by
            by_cases hqq : q' = q
            · subst hqq; omega
            · obtain ⟨_, g', d', vi', hqi', _, _, hoth'⟩ := D.flt q' hq'
              have hdd : d' = d := by simpa [dstAt, hqi', Item.dst] using hd'
              subst hdd
              exact (hoth' q _ (fun h => hqq h.symm) hqi).1 rfl)
          rw [hgd]
          refine FV_congr (fun t ht => (hnotst t (fun q' hq' hl' hd' => ?_)).symm) hfv
          obtain ⟨_, g', d', vi', hqi', _, _, hoth'⟩ := D.flt q' hq'
          have hdd : d' = t := by simpa [dstAt, hqi', Item.dst] using hd'
          subst hdd
          have := D.levMono q hq q' hq' _ _ d' hqi hqi' rfl ht
          omega

theorem drw_sound {id : Nat} (hits : compItems C.P n ops ops.toList = some its) (hok : drawOK ops its = true) (hm : C.P.follows .mixedOrders = true) {e : Env} {M : Mem} {Q : Env → Mem → Prop}
    (h : wpQuiet C (itemsAt its ((drawPlan ops its).F.filter fun q => drawLev (drawPlan ops its) q == 0)) e M fun e =>
      wpStages C n0 mv (stagesFrom its (drawPlan ops its).tab (drawPlan ops its).F (drawLev (drawPlan ops its)) 0 (drawPlan ops its).cs) e M Q)
    {Q' : Exit → Act → World → Prop} {ρ κ a w} (hn : n0 ≤ M.length) (hQ : ∀ a' w', After C n0 mv n ρ κ M w.drew Q a' w' → Q' .normal a' w')
    (hSd : St C n ρ κ M w.drew e a) : (Code.region id ops true).wp C.P Q' a w := by
  have D := drawF_of hok
  have hF : (drawPlan ops its).F.Pairwise (· < ·) := pairwise_sub _ _ List.pairwise_lt_range
  obtain ⟨e₁, hrest, hkeep, hat⟩ := run_floats D _ (pairwise_sub _ _ hF) (fun q hq => (List.mem_filter.1 hq).1) _ _ h
  have hnone : ∀ i, ¬ Lst (Array.replicate ops.size false) i := by
    intro i hl
    unfold Lst at hl
    rw [Array.getElem?_replicate] at hl
    split at hl <;> cases hl
  refine wp_region_any hm ?_
  refine drw_any hits D hF ops.size _ a w.drew ρ κ 0 e e₁ M ⟨by simp, fun i hi => absurd hi (hnone i), fun m c _ => ⟨fun hl => absurd hl (hnone c), fun h => by omega⟩, Nat.zero_le _, fun t => ?_, fun q hq hl _ => ?_, by simpa using hrest⟩ hSd hn ?_ hQ
  · by_cases hex : ∃ q ∈ (drawPlan ops its).F, drawLev (drawPlan ops its) q = 0 ∧ dstAt its q = some t
    · obtain ⟨q, hq, hl, hd⟩ := hex
      exact .inr ⟨q, hq, by omega, hnone q, hd⟩
    · refine .inl (hkeep t (fun q hq hd => hex ⟨q, (List.mem_filter.1 hq).1, by simpa using (List.mem_filter.1 hq).2, hd⟩)).symm
  · exact hat q (List.mem_filter.2 ⟨hq, by simpa using Nat.le_zero.1 hl⟩)
  · unfold unl
    exact Nat.le_trans List.countP_le_length (by simp)
end
end Go.VM
end

section
namespace Go.VM
open Go

section
variable {C : Ctx} {n0 : Nat} {mv : List Nat} {n : Nat}

/-- quiet items, in the world after a draw -/
theorem quietItems_sound (ops : Array Oper) {M : Mem} {w : World} {ρ : Nat → Nat} {κ : Nat → Option Nat} : ∀ (l : List Oper) (its : List Item), compItems C.P n ops l = some its → its.all Item.quiet = true →
    ∀ (e : Env) (Q : Env → Prop), wpQuiet C its e M Q → ∀ (a : Act) (Q' : Act → Prop), St C n ρ κ M w e a →
    (∀ a' e', St C n ρ κ M w e' a' → Q e' → Q' a') → wpStill C.P ops w Q' l a
  | [], its, hc, _, e, Q, h, a, Q', hS, hQ => by
    simp only [compItems, Option.some.injEq] at hc
    subst hc
    exact hQ a e hS h
  | o :: l, its, hc, hq, e, Q, h, a, Q', hS, hQ => by
    simp only [compItems] at hc
    split at hc
    · rename_i it its' hit hits
      cases hc
      simp only [List.all_cons, Bool.and_eq_true] at hq
      have hd := compItem_dst hit
      have cont : ∀ (e' : Env) (a' : Act), wpQuiet C its' e' M Q → St C n ρ κ M w e' a' → wpStill C.P ops w Q' l a' := by
        intro e' a' h' hS'
        exact quietItems_sound ops l its' hits hq.2 e' Q h' a' Q' hS' hQ
      have runOp : ∀ (vi : VI), compOp C.P o.op = some vi → vi.quiet = true → (opK C e M vi fun v _ => wpQuiet C its' (e.putO o.dst v) M Q) → o.still C.P a w (wpStill C.P ops w Q' l) := by
        intro vi hvi hvq hop
        simp only [opK] at hop
        split at hop
        · rename_i v M' hv
          obtain ⟨x, hrun, hx, hvc⟩ := quiet_sound (w := w) hS.rel hS.env hS.cl o vi hvi hvq v M' hv
          unfold Oper.still
          rw [hrun, Oper.stillUpon_value]
          exact cont _ _ hop (hS.put hd hx hvc)
        · exact hop.elim
      unfold compItem at hit
      split at hit
      · cases hit
      · split at hit
        · rename_i hg
          have hw : Region.wanted o (yielded ops a.tmps) = true := by simp [Region.wanted, hg]
          simp only [wpStill, hw, if_true]
          split at hit
          · rename_i f args ts hop
            split at hit
            · rename_i hf
              cases hit
              simp only [wpQuiet] at h
              obtain ⟨hk, v, hp, hr⟩ := h
              unfold Oper.still
              rw [exec_call hop hf, vargs_real hS.env args hk]
              simp only [Oper.stillUpon, true_and]
              exact ⟨v.real ρ κ, hp.2 ρ κ w hS.rel (vargs_cl hS.cl _), cont _ _ hr (hS.put hd (fun _ => rfl) hp.1)⟩
            · cases hit
          · cases hit
            simp [Item.quiet] at hq
          · cases hit
            simp [Item.quiet] at hq
          · exfalso
            repeat' split at hit
            all_goals first | (cases hit; simp [Item.quiet] at hq; done) | cases hit
          · split at hit
            · rename_i vi hvi
              cases hit
              exact runOp vi hvi hq.1 (by simpa [wpQuiet, guardK] using h)
            · cases hit
        · rename_i j want hg
          split at hit
          case h_2 => cases hit
          rename_i dj hdj
          split at hit
          · split at hit
            · cases hit
              simp [Item.quiet] at hq
            · cases hit
          split at hit
          · rename_i vi hvi
            cases hit
            simp only [wpQuiet, guardK] at h
            split at h
            · rename_i b hb
              have hy := yielded_get hS.env hdj hb
              by_cases hbw : b = want
              · rw [if_pos hbw] at h
                have hw : Region.wanted o (yielded ops a.tmps) = true := by simp [Region.wanted, hg, hy, hbw]
                simp only [wpStill, hw, if_true]
                exact runOp vi hvi hq.1 h
              · rw [if_neg hbw] at h
                have hw : Region.wanted o (yielded ops a.tmps) = false := by simp [Region.wanted, hg, hy, hbw]
                simp only [wpStill, hw, Bool.false_eq_true, if_false]
                exact cont _ _ h (hS.put hd (fun hu => absurd rfl hu) V.cl_undef)
            · exact h.elim
          · cases hit
    · cases hc

theorem St.drew {ρ κ M w e a} (h : St C n ρ κ M w e a) : St C n ρ κ M w.drew e a :=
  ⟨⟨fun i b hb => holds_congr (h.rel.blk i b hb) rfl rfl (fun _ => rfl) (fun _ _ => ⟨rfl, rfl⟩), h.rel.inj, fun a v hv => h.rel.ext a v hv, h.rel.cl⟩, h.env, h.cl, h.defers⟩

theorem Step.drew (K ρ κ M) (w : World) : Step K ρ κ M w ρ κ M w.drew :=
  ⟨rfl, rfl, rfl, Nat.le_refl _, fun _ _ _ => rfl, fun i h => .inl ⟨i, h, rfl⟩, fun _ _ => ⟨rfl, rfl⟩⟩

/-- The goal behind a piece of code. -/
def PostOf (C : Ctx) (n0 : Nat) (mv : List Nat) (n : Nat) (ρ : Nat → Nat) (κ : Nat → Option Nat) (M : Mem) (w : World) (Q : VX → Env → Mem → Prop) (ex : Exit) (a' : Act) (w' : World) : Prop :=
  ∃ x ρ' κ' e' M', ex = VX.real x ∧ St C n ρ' κ' M' w' e' a' ∧ Step (Kset n0 mv) ρ κ M w ρ' κ' M' w' ∧ n0 ≤ M'.length ∧ Q x e' M'

theorem PostOf.trans {ρ κ M w ρ' κ' M' w' Q ex a'' w''} (h : Step (Kset n0 mv) ρ κ M w ρ' κ' M' w') (h' : PostOf C n0 mv n ρ' κ' M' w' Q ex a'' w'') :
    PostOf C n0 mv n ρ κ M w Q ex a'' w'' := by
  obtain ⟨x, ρ'', κ'', e'', M'', hx, hS, hst, hn, hq⟩ := h'
  exact ⟨x, ρ'', κ'', e'', M'', hx, hS, h.trans hst, hn, hq⟩

theorem ren_sound {ρ κ M w M'} (hR : Rel C ρ κ M w) (σ : Nat → Nat) (h0 : ∀ j, j < n0 → σ j = j) (hinj : ∀ i j, i < M'.length → j < M'.length → σ i = σ j → i = j)
    (hM : ∀ (j : Nat) (b : Blk), M'[j]? = some b → M[σ j]? = some (b.ren σ)) (hcM : ∀ (j : Nat) (b : Blk), M'[j]? = some b → ∀ r ∈ b.refs, r < M'.length) :
    Rel C (fun i => ρ (σ i)) (fun i => κ (σ i)) M' w ∧ Step (Kset n0 mv) ρ κ M w (fun i => ρ (σ i)) (fun i => κ (σ i)) M' w := by
  have hlive : ∀ (b : Blk) c, (b.ren σ).live c ↔ b.live c := fun b c => by cases b <;> exact Iff.rfl
  have hal : ∀ i, alive (fun i => κ (σ i)) M' i → alive κ M (σ i) := by
    intro i hi
    have hl := alive_lt hi
    have hb : M'[i]? = some M'[i] := by simp [hl]
    rw [alive_of hb] at hi
    rw [alive_of (hM i _ hb), hlive]
    exact hi
  refine ⟨⟨?_, ?_, ?_, hcM⟩, ⟨rfl, rfl, rfl, Nat.le_refl _, fun _ _ _ => rfl, fun i hi => .inl ⟨σ i, hal i hi, rfl⟩, ?_⟩⟩
  · intro i b hb
    have h1 := hR.blk (σ i) _ (hM i b hb)
    cases b with
    | own cs T =>
      obtain ⟨cells, hc, hs, hg⟩ := h1
      refine ⟨cells, hc, by simpa [V.renL_map] using hs, fun j v hj hu => ?_⟩
      have := hg j (v.ren σ) (by simp [V.renL_map, hj]) (by cases v <;> simp_all [V.ren])
      rw [V.real_ren] at this
      exact this
    | ints k xs T => exact h1
    | vec k xs T => exact h1
  · intro i j hi hj hij
    exact hinj i j (alive_lt hi) (alive_lt hj) (hR.inj _ _ (hal i hi) (hal j hj) hij)
  · intro ad v hv
    obtain ⟨h1, h2⟩ := hR.ext ad v hv
    exact ⟨h1, fun i hi => h2 (σ i) (hal i hi)⟩
  · intro i hi
    simp only [h0 i hi.1, and_self]

/-- A nil slice is named as an empty row. -/
theorem ghost_sound {ρ κ M w e} {a : Act} (hS : St C n ρ κ M w e a) {b o : Nat} {cs : List V} {T : Nat} (T' : Nat) (k : IntKind) (hM : M[b]? = some (.own cs T)) (hc : cs[o]? = some .nils) :
    St C n ρ (updN κ M.length none) (M.set b (.own (cs.set o (.vec M.length 0)) T) ++ [.vec k [] T']) w e a ∧
    Step (fun i => i < M.length) ρ κ M w ρ (updN κ M.length none) (M.set b (.own (cs.set o (.vec M.length 0)) T) ++ [.vec k [] T']) w := by
  obtain ⟨hR, hst⟩ := hS.rel.ghost k T'
  have hb : b < M.length := (List.getElem?_eq_some_iff.1 hM).1
  have ho : o < cs.length := (List.getElem?_eq_some_iff.1 hc).1
  have hget : ∀ i B, (M.set b (.own (cs.set o (.vec M.length 0)) T) ++ [Blk.vec k [] T'])[i]? = some B → (i = b ∧ B = .own (cs.set o (.vec M.length 0)) T) ∨ (i ≠ b ∧ (M ++ [Blk.vec k [] T'])[i]? = some B) := by
    intro i B h
    by_cases hi : i = b
    · subst hi
      rw [List.getElem?_append_left (by simpa using hb), getElem?_set_cases, if_pos rfl, if_pos hb] at h
      exact .inl ⟨rfl, by cases h; rfl⟩
    · refine .inr ⟨hi, ?_⟩
      by_cases hl : i < M.length
      · rw [List.getElem?_append_left (by simpa using hl), getElem?_set_cases, if_neg (fun h => hi h.symm)] at h
        rw [List.getElem?_append_left hl]; exact h
      · rw [List.getElem?_append_right (by simpa using hl)] at h
        rw [List.getElem?_append_right (by omega)]
        simpa using h
  have hMb : (M ++ [Blk.vec k [] T'])[b]? = some (.own cs T) := by rw [List.getElem?_append_left hb]; exact hM
  have hal : ∀ i, alive (updN κ M.length none) (M.set b (.own (cs.set o (.vec M.length 0)) T) ++ [.vec k [] T']) i → alive (updN κ M.length none) (M ++ [.vec k [] T']) i := by
    intro i hi
    have hl := alive_lt hi
    cases hq : (M.set b (.own (cs.set o (.vec M.length 0)) T) ++ [Blk.vec k [] T'])[i]? with
    | none => simp at hq; simp at hl; omega
    | some B =>
      rw [alive_of hq] at hi
      rcases hget i B hq with ⟨rfl, rfl⟩ | ⟨_, h⟩
      · exact (alive_of hMb).2 trivial
      · exact (alive_of h).2 hi
  have hR' : Rel C ρ (updN κ M.length none) (M.set b (.own (cs.set o (.vec M.length 0)) T) ++ [.vec k [] T']) w := by
    refine ⟨?_, fun i j hi hj => hR.inj i j (hal i hi) (hal j hj), fun ad v hv => ⟨(hR.ext ad v hv).1, fun i hi => (hR.ext ad v hv).2 i (hal i hi)⟩, ?_⟩
    · intro i B h
      rcases hget i B h with ⟨rfl, rfl⟩ | ⟨_, h⟩
      · obtain ⟨cells, h1, h2, h3⟩ := hR.blk _ _ hMb
        refine ⟨cells, h1, by simpa using h2, fun j v hj hu => ?_⟩
        rw [List.getElem?_set] at hj
        split at hj
        · rename_i hoj
          subst hoj
          cases hj
          rw [h3 _ _ hc (by simp)]
          simp [V.real, updN_same]
        · exact h3 j v hj hu
      · exact hR.blk i B h
    · intro i B h r hr
      have hlen : (M.set b (.own (cs.set o (.vec M.length 0)) T) ++ [Blk.vec k [] T']).length = (M ++ [Blk.vec k [] T']).length := by simp
      rw [hlen]
      rcases hget i B h with ⟨rfl, rfl⟩ | ⟨_, h⟩
      · simp only [Blk.refs] at hr
        obtain ⟨v, hv, hr⟩ := V.mem_refsL.1 hr
        rcases List.mem_or_eq_of_mem_set hv with hv | rfl
        · exact hR.cl _ _ hMb r (by simp only [Blk.refs]; exact V.mem_refsL.2 ⟨v, hv, hr⟩)
        · simp only [V.refs, List.mem_singleton] at hr; subst hr; simp
      · exact hR.cl i B h r hr
  refine ⟨⟨hR', hS.env.move hS.cl (fun i hi => hst.agree i hi), hS.cl.mono (by simp), hS.defers⟩, ⟨rfl, rfl, rfl, Nat.le_refl _, fun _ _ _ => rfl, fun i hi => hst.own i (hal i hi), hst.agree⟩⟩

theorem adj_sound {e M e' M'} (h : Adj n0 e M e' M') : ∀ {ρ κ w} {a : Act}, St C n ρ κ M w e a → n0 ≤ M.length →
    ∃ ρ' κ', St C n ρ' κ' M' w e' a ∧ Step (Kset n0 mv) ρ κ M w ρ' κ' M' w ∧ n0 ≤ M'.length := by
  induction h with
  | refl => intro ρ κ w a hS hn; exact ⟨ρ, κ, hS, Step.refl .., hn⟩
  | weak _ _ _ hw => intro ρ κ w a hS hn; exact ⟨ρ, κ, hS.weak hw, Step.refl .., hn⟩
  | ghost e M b o cs T T' k hM hc =>
    intro ρ κ w a hS hn
    obtain ⟨hS', hst⟩ := ghost_sound hS T' k hM hc
    exact ⟨ρ, _, hS', hst.weaken fun i hi => Nat.lt_of_lt_of_le hi.1 hn, by simp; omega⟩
  | trans _ _ ih1 ih2 =>
    intro ρ κ w a hS hn
    obtain ⟨ρ', κ', hS', hst', hn'⟩ := ih1 hS hn
    obtain ⟨ρ'', κ'', hS'', hst'', hn''⟩ := ih2 hS' hn'
    exact ⟨ρ'', κ'', hS'', hst'.trans hst'', hn''⟩
  | ren e M e' M' σ h0 hn' hinj hM he hce hcM =>
    intro ρ κ w a hS hn
    obtain ⟨hR, hst⟩ := ren_sound (mv := mv) hS.rel σ h0 hinj hM hcM
    refine ⟨_, _, ⟨hR, ⟨hS.env.size, ?_⟩, hce, hS.defers⟩, hst, hn'⟩
    intro j hj
    rcases he j with h1 | h1
    · exact absurd h1 hj
    · have hne : e.get j ≠ .undef := by rw [h1]; cases hq : e'.get j <;> simp_all [V.ren]
      rw [hS.env.get j hne, h1, V.real_ren]

theorem lift_after {ρ κ M w Q ks} {a' : Act} {w' : World} (h : After C n0 mv n ρ κ M w (fun e M => Q VX.normal (Env.keep e ks) M) a' w') : PostOf C n0 mv n ρ κ M w Q .normal a' w' := by
  obtain ⟨ρ', κ', e', M', hS, hst, hn, hq⟩ := h
  exact ⟨.normal, ρ', κ', _, M', rfl, hS.weak (get_keep e' ks), hst, hn, hq⟩

theorem compItems_take {P : Program} {ops : Array Oper} : ∀ (l : List Oper) (its : List Item) (k : Nat), compItems P n ops l = some its → compItems P n ops (l.take k) = some (its.take k)
  | [], its, k, h => by simp only [compItems, Option.some.injEq] at h; subst h; simp [compItems]
  | o :: l, its, 0, h => by simp [compItems]
  | o :: l, its, k + 1, h => by
    simp only [compItems] at h
    split at h
    · rename_i it its' hit hits
      cases h
      simp only [List.take_succ_cons, compItems, hit, compItems_take l its' k hits]
    · cases h

theorem compItems_drop {P : Program} {ops : Array Oper} : ∀ (l : List Oper) (its : List Item) (k : Nat), compItems P n ops l = some its → compItems P n ops (l.drop k) = some (its.drop k)
  | l, its, 0, h => by simpa using h
  | [], its, k + 1, h => by simp only [compItems, Option.some.injEq] at h; subst h; simp [compItems]
  | o :: l, its, k + 1, h => by
    simp only [compItems] at h
    split at h
    · rename_i it its' _ hits
      cases h
      simpa using compItems_drop l its' k hits
    · cases h

theorem quietHead_all : ∀ (its : List Item), (its.take (quietHead its)).all Item.quiet = true
  | [] => rfl
  | i :: r => by
    simp only [quietHead]
    split
    · rename_i h; simp only [List.take_succ_cons, List.all_cons, h, quietHead_all r, Bool.and_self]
    · rfl

theorem code_sound (hs : List (Nat × List Nat)) : ∀ (code : Code) (vc : VC), comp C.P n hs code = some vc → ∀ (e : Env) (M : Mem) (Q : VX → Env → Mem → Prop), VWp C n0 mv vc e M Q →
    ∀ ρ κ a w, St C n ρ κ M w e a → n0 ≤ M.length → code.wp C.P (PostOf C n0 mv n ρ κ M w Q) a w
  | .skip, vc, hc, e, M, Q, h, ρ, κ, a, w, hS, hn => by
    cases hc
    exact wp_skip ⟨.normal, ρ, κ, e, M, rfl, hS, Step.refl .., hn, h⟩
  | .exit id, vc, hc, e, M, Q, h, ρ, κ, a, w, hS, hn => by
    cases hc
    exact wp_exit ⟨.exit id, ρ, κ, e, M, rfl, hS, Step.refl .., hn, h⟩
  | .ret, vc, hc, e, M, Q, h, ρ, κ, a, w, hS, hn => by
    cases hc
    exact wp_ret ⟨.ret, ρ, κ, e, M, rfl, hS, Step.refl .., hn, h⟩
  | .region id ops draw, vc, hc, e, M, Q, h, ρ, κ, a, w, hS, hn => by
    simp only [comp] at hc
    split at hc
    · cases hc
    · rename_i its hits
      split at hc
      · rename_i hdraw
        subst hdraw
        split at hc
        · rename_i hm
          have hdS := hS.drew
          have hops : ops = ops.toList.toArray := (Array.toArray_toList).symm
          split at hc
          · rename_i hh
            split at hc
            · rename_i hlex
              cases hc
              simp only [VWp] at h
              refine wp_region_still hm hlex ?_
              refine quietItems_sound (w := w.drew) ops ops.toList its hits ?_ e _ h a _ hdS fun a' e' hS' hq => ?_
              · have := quietHead_all its
                rwa [hh, List.take_length] at this
              · exact ⟨.normal, ρ, κ, _, M, rfl, hS'.weak (get_keep e' _), Step.drew .., hn, hq⟩
            · cases hc
          · split at hc
            · rename_i hlex
              cases hc
              simp only [VWp] at h
              rw [hops]
              rw [hops] at hlex
              refine wp_region_still_tail (quietHead its) hm hlex ?_
              rw [hops] at hits
              simp only at hits
              refine quietItems_sound (w := w.drew) ops.toList.toArray (ops.toList.take (quietHead its)) (its.take (quietHead its)) (compItems_take _ _ _ hits) (quietHead_all its) e _ h a _ hdS fun a' e' hS' hq => ?_
              refine items_sound ops.toList.toArray _ (ops.toList.drop (quietHead its)) (its.drop (quietHead its)) (compItems_drop _ _ _ hits) e' M _ hq ρ κ w.drew a' hS' hn fun a'' w'' hA => ?_
              exact (lift_after hA).trans (Step.drew ..)
            · unfold compDraw at hc
              split at hc
              · rename_i hok
                cases hc
                simp only [VWp] at h
                exact drw_sound hits hok hm h hn (fun a' w' hA => (lift_after hA).trans (Step.drew ..)) hdS
              · cases hc
        · cases hc
      · rename_i hdraw
        cases hc
        have hdf : draw = false := by simpa using hdraw
        subst hdf
        simp only [VWp] at h
        exact wp_region_list (items_sound ops _ ops.toList its hits e M _ h ρ κ w a hS hn fun a' w' hA => lift_after hA)
  | .seq x y, vc, hc, e, M, Q, h, ρ, κ, a, w, hS, hn => by
    simp only [comp] at hc
    split at hc
    · rename_i vx vy hx hy
      cases hc
      simp only [VWp] at h
      refine wp_seq (wp_mono (code_sound hs x vx hx e M _ h ρ κ a w hS hn) fun ex a' w' hp => ?_)
      obtain ⟨q, ρ', κ', e', M', rfl, hS', hst, hn', hq⟩ := hp
      cases q with
      | normal =>
        simp only [VX.real, Exit.then]
        exact wp_mono (code_sound hs y vy hy e' M' Q hq ρ' κ' a' w' hS' hn') fun ex a'' w'' hp => hp.trans hst
      | exit id => exact ⟨.exit id, ρ', κ', e', M', rfl, hS', hst, hn', hq⟩
      | ret => exact ⟨.ret, ρ', κ', e', M', rfl, hS', hst, hn', hq⟩
    · cases hc
  | .cond c x y, vc, hc, e, M, Q, h, ρ, κ, a, w, hS, hn => by
    simp only [comp] at hc
    split at hc
    · rename_i vx vy hx hy
      cases hc
      simp only [VWp] at h
      split at h
      · rename_i t ht
        have hcv := ev_real hS.env c (by rw [ht]; simp)
        rw [ht] at hcv
        refine wp_cond hcv ?_
        cases t with
        | true => exact code_sound hs x vx hx e M Q (h.1 rfl) ρ κ a w hS hn
        | false => exact code_sound hs y vy hy e M Q (h.2 rfl) ρ κ a w hS hn
      · exact h.elim
    · cases hc
  | .block id x, vc, hc, e, M, Q, h, ρ, κ, a, w, hS, hn => by
    simp only [comp] at hc
    split at hc
    · rename_i vx hx
      cases hc
      simp only [VWp] at h
      refine wp_block (wp_mono (code_sound hs x vx hx e M _ h ρ κ a w hS hn) fun ex a' w' hp => ?_)
      obtain ⟨q, ρ', κ', e', M', rfl, hS', hst, hn', hq⟩ := hp
      cases q with
      | normal => exact ⟨.normal, ρ', κ', e', M', rfl, hS', hst, hn', hq⟩
      | ret => exact ⟨.ret, ρ', κ', e', M', rfl, hS', hst, hn', hq⟩
      | exit j =>
        simp only [VX.real, Exit.inBlock]
        simp only [blockK] at hq
        split
        · rename_i hj; rw [if_pos hj] at hq; exact ⟨.normal, ρ', κ', e', M', rfl, hS', hst, hn', hq⟩
        · rename_i hj; rw [if_neg hj] at hq; exact ⟨.exit j, ρ', κ', e', M', rfl, hS', hst, hn', hq⟩
    · cases hc
  | .loop x, vc, hc, e, M, Q, h, ρ, κ, a, w, hS, hn => by
    simp only [comp] at hc
    split at hc
    · rename_i vx hx
      cases hc
      simp only [VWp] at h
      obtain ⟨k, hk⟩ := h
      refine wp_loop_rounds k ?_
      have key : ∀ (k : Nat) (e : Env) (M : Mem) (ρ' : Nat → Nat) (κ' : Nat → Option Nat) (a : Act) (w' : World), VRounds n0 (VWp C n0 mv vx) k e M Q → St C n ρ' κ' M w' e a → n0 ≤ M.length →
          (Step (Kset n0 mv) ρ κ M w ρ' κ' M w' ∨ True) → Code.rounds C.P x (PostOf C n0 mv n ρ' κ' M w' Q) k a w' := by
        intro k
        induction k with
        | zero => intro e M ρ' κ' a w' hr; exact hr.elim
        | succ k ih =>
          intro e M ρ' κ' a w' hr hS' hn' _
          simp only [VRounds] at hr
          obtain ⟨e', M', hadj, hbody⟩ := hr
          obtain ⟨ρ₂, κ₂, hS₂, hst₂, hn₂⟩ := adj_sound (mv := mv) hadj hS' hn'
          rw [rounds_succ]
          refine wp_mono (code_sound hs x vx hx e' M' _ hbody ρ₂ κ₂ a w' hS₂ hn₂) fun ex a' w'' hp => ?_
          obtain ⟨q, ρ₃, κ₃, e₃, M₃, rfl, hS₃, hst₃, hn₃, hq⟩ := hp
          have hst := hst₂.trans hst₃
          cases q with
          | normal =>
            simp only [VX.real, Exit.then]
            simp only at hq
            have h4 := ih e₃ M₃ ρ₃ κ₃ a' w'' hq hS₃ hn₃ (.inr trivial)
            have mono : ∀ (k : Nat) (a : Act) (w : World), Code.rounds C.P x (PostOf C n0 mv n ρ₃ κ₃ M₃ w'' Q) k a w → Code.rounds C.P x (PostOf C n0 mv n ρ' κ' M w' Q) k a w := by
              intro k
              induction k with
              | zero => intro a w h; exact h
              | succ k ih2 =>
                intro a w h
                rw [rounds_succ] at h ⊢
                refine wp_mono h fun ex a₄ w₄ hp => ?_
                cases ex with
                | normal => exact ih2 a₄ w₄ hp
                | _ => exact hp.trans hst
            exact mono k a' w'' h4
          | exit id => exact ⟨.exit id, ρ₃, κ₃, e₃, M₃, rfl, hS₃, hst, hn₃, hq⟩
          | ret => exact ⟨.ret, ρ₃, κ₃, e₃, M₃, rfl, hS₃, hst, hn₃, hq⟩
      exact key k e M ρ κ a w hk hS hn (.inr trivial)
    · cases hc
  | .rangeFunc .., vc, hc, _, _, _, _, _, _, _, _, _, _ => by cases hc
  | .scope .., vc, hc, _, _, _, _, _, _, _, _, _, _ => by cases hc
  | .label .., vc, hc, _, _, _, _, _, _, _, _, _, _ => by cases hc
  | .goto .., vc, hc, _, _, _, _, _, _, _, _, _, _ => by cases hc
  | .refuse .., vc, hc, _, _, _, _, _, _, _, _, _, _ => by cases hc

end
end Go.VM
end
