/-
  A part of a small machine over the model, or of a walk by it, proved right against the model. Proved outright, under no condition but what each theorem names.
-/
import Derived.Test.YtahmhofnilgfgaaVR
namespace Go.VM
open Go

/-! A call whose contract speaks of some of the blocks alone. -/
def fpσ (fp : List Nat) (m : Nat) (i : Nat) : Nat := if i < fp.length then fp.getD i 0 else m + (i - fp.length)

def setAll : Mem → List Nat → List Blk → Mem
  | M, i :: is, b :: bs => setAll (M.set i b) is bs
  | M, _, _ => M

def merge (M : Mem) (fp : List Nat) (M' : Mem) : Mem :=
  setAll M fp (M'.map (Blk.ren (fpσ fp M.length))) ++ (M'.drop fp.length).map (Blk.ren (fpσ fp M.length))

theorem setAll_length : ∀ (is : List Nat) (bs : List Blk) (M : Mem), (setAll M is bs).length = M.length
  | [], _, M => by simp [setAll]
  | _ :: _, [], M => rfl
  | i :: is, b :: bs, M => by simp [setAll, setAll_length is bs]

theorem setAll_other : ∀ (is : List Nat) (bs : List Blk) (M : Mem) (k : Nat), k ∉ is → (setAll M is bs)[k]? = M[k]?
  | [], _, M, k, _ => by simp [setAll]
  | _ :: _, [], M, k, _ => rfl
  | i :: is, b :: bs, M, k, h => by
    simp only [List.mem_cons, not_or] at h
    simp only [setAll]
    rw [setAll_other is bs _ k h.2, List.getElem?_set_ne (Ne.symm h.1)]

theorem setAll_at : ∀ (is : List Nat) (bs : List Blk) (M : Mem) (j : Nat) (i : Nat) (b : Blk), is.Nodup → (∀ i ∈ is, i < M.length) → is[j]? = some i → bs[j]? = some b → (setAll M is bs)[i]? = some b
  | [], _, M, j, i, b, _, _, h, _ => by simp at h
  | _ :: _, [], M, j, i, b, _, _, _, h => by simp at h
  | i :: is, b :: bs, M, 0, i', b', hn, hl, h, h' => by
    simp only [List.getElem?_cons_zero, Option.some.injEq] at h h'
    subst h; subst h'
    rw [List.nodup_cons] at hn
    simp only [setAll]
    rw [setAll_other is bs _ i hn.1, List.getElem?_set_self (hl i (by simp))]
  | i :: is, b :: bs, M, j + 1, i', b', hn, hl, h, h' => by
    rw [List.nodup_cons] at hn
    simp only [setAll]
    exact setAll_at is bs _ j i' b' hn.2 (fun k hk => by simpa using hl k (by simp [hk])) (by simpa using h) (by simpa using h')

section
variable {C : Ctx}

theorem fpσ_in {fp : List Nat} {m j : Nat} (h : j < fp.length) : fp[j]? = some (fpσ fp m j) := by
  simp [fpσ, h]
theorem fpσ_out {fp : List Nat} {m j : Nat} (h : ¬ j < fp.length) : fpσ fp m j = m + (j - fp.length) := by simp [fpσ, h]

theorem fpσ_inj {fp : List Nat} {m : Nat} (hnd : fp.Nodup) (hlt : ∀ i ∈ fp, i < m) {i j : Nat} (h : fpσ fp m i = fpσ fp m j) : i = j := by
  by_cases hi : i < fp.length
  · have h1 := fpσ_in (m := m) hi
    have hmi := hlt _ (List.mem_of_getElem? h1)
    by_cases hj : j < fp.length
    · have h2 := fpσ_in (m := m) hj
      rw [← h] at h2
      exact (List.getElem?_inj hi hnd).1 (h1.trans h2.symm)
    · rw [fpσ_out hj] at h; omega
  · by_cases hj : j < fp.length
    · have h2 := fpσ_in (m := m) hj
      have hmj := hlt _ (List.mem_of_getElem? h2)
      rw [fpσ_out hi] at h; omega
    · rw [fpσ_out hi, fpσ_out hj] at h; omega

theorem holds_ren {ρ ρ' : Nat → Nat} {κ κ' : Nat → Option Nat} {σ : Nat → Nat} {j : Nat} {w : World} {B : Blk} (h : B.holds ρ κ j w) (hρ : ∀ i, ρ' (σ i) = ρ i) (hκ : ∀ i, κ' (σ i) = κ i) : (B.ren σ).holds ρ' κ' (σ j) w := by
  have e1 : (fun i => ρ' (σ i)) = ρ := funext hρ
  have e2 : (fun i => κ' (σ i)) = κ := funext hκ
  cases B with
  | own cs T =>
    obtain ⟨cells, hc, hs, hg⟩ := h
    refine ⟨cells, by rw [hρ]; exact hc, by simpa [V.renL_map] using hs, fun i v hi hu => ?_⟩
    simp only [V.renL_map, List.getElem?_map] at hi
    cases hq : cs[i]? with
    | none => rw [hq] at hi; cases hi
    | some u =>
      rw [hq] at hi
      cases hi
      rw [V.real_ren, e1, e2]
      exact hg i u hq (by rintro rfl; exact hu rfl)
  | ints k xs T => simp only [Blk.holds, Blk.ren] at h ⊢; rw [hρ]; exact h
  | vec k xs T => simp only [Blk.holds, Blk.ren] at h ⊢; rw [hρ, hκ]; exact h

theorem refs_blk_ren (σ : Nat → Nat) (B : Blk) : (B.ren σ).refs = B.refs.map σ := by
  cases B with
  | own cs T => exact V.refsL_ren cs
  | _ => rfl

theorem live_ren (σ : Nat → Nat) (B : Blk) (c) : (B.ren σ).live c ↔ B.live c := by cases B <;> exact Iff.rfl

theorem VCalls.frame {f : Nat} {vs0 : List V} {M0 : Mem} {mv0 : List Nat} {R0 : V → Mem → Prop} (h : VCalls C f vs0 M0 mv0 R0) (fp : List Nat) (M : Mem) (vs : List V) (R : V → Mem → Prop)
    (hlen : fp.length = M0.length) (hnd : fp.Nodup) (hlt : ∀ i ∈ fp, i < M.length)
    (hM : ∀ (j : Nat) (b : Blk), M0[j]? = some b → M[fpσ fp M.length j]? = some (b.ren (fpσ fp M.length))) (hvs : vs = V.renL (fpσ fp M.length) vs0)
    (hcM : ∀ (j : Nat) (b : Blk), M0[j]? = some b → ∀ r ∈ b.refs, r < M0.length) (hcv : V.clL M0.length vs0)
    (hout : ∀ (i : Nat) (b : Blk), i ∉ fp → M[i]? = some b → ∀ r ∈ b.refs, r ∉ mv0.map (fpσ fp M.length))
    (hR : ∀ v M0', R0 v M0' → M0.length ≤ M0'.length → R (v.ren (fpσ fp M.length)) (merge M fp M0')) :
    VCalls C f vs M (mv0.map (fpσ fp M.length)) R := by
  intro ρ κ w hRel _
  generalize hσ : fpσ fp M.length = σ at *
  have hσi : ∀ {i j}, σ i = σ j → i = j := by subst hσ; exact fun h => fpσ_inj hnd hlt h
  have hin : ∀ j, j < fp.length → fp[j]? = some (σ j) := by subst hσ; exact fun j hj => fpσ_in hj
  have hmem : ∀ j, j < fp.length → σ j ∈ fp := fun j hj => List.mem_of_getElem? (hin j hj)
  have hσout : ∀ j, ¬ j < fp.length → σ j = M.length + (j - fp.length) := by subst hσ; exact fun j hj => fpσ_out hj
  obtain ⟨hRel0, _⟩ := ren_sound (n0 := 0) (mv := []) hRel σ (fun _ hj => absurd hj (by omega)) (fun i j _ _ he => hσi he) hM hcM
  subst hvs
  rw [V.reals_ren]
  refine (h _ _ w hRel0 hcv).mono fun en w' hh => ?_
  obtain ⟨ρ0', κ0', v, M0', rfl, hvc, hR', hl, hst, hr⟩ := hh
  -- the places of the blocks that the contract speaks of
  obtain ⟨τ, hτ⟩ : ∃ τ : Nat → Nat, ∀ j, τ (σ j) = j := by
    classical
    refine ⟨fun i => if h : ∃ j, σ j = i then h.choose else 0, fun j => ?_⟩
    have hex : ∃ j', σ j' = σ j := ⟨j, rfl⟩
    show (if h : ∃ j', σ j' = σ j then h.choose else 0) = j
    rw [dif_pos hex]
    exact hσi hex.choose_spec
  have inside : ∀ i, (∃ j, σ j = i) ∨ (i < M.length ∧ i ∉ fp) := by
    intro i
    by_cases hi : i ∈ fp
    · obtain ⟨j, hj⟩ := List.mem_iff_getElem?.1 hi
      have hjl := (List.getElem?_eq_some_iff.1 hj).1
      exact .inl ⟨j, by have := hin j hjl; rw [hj] at this; exact (Option.some.inj this).symm⟩
    · by_cases hil : i < M.length
      · exact .inr ⟨hil, hi⟩
      · exact .inl ⟨fp.length + (i - M.length), by rw [hσout _ (by omega)]; omega⟩
  have notσ : ∀ i j, i < M.length → i ∉ fp → σ j ≠ i := by
    intro i j hi hni he
    by_cases hj : j < fp.length
    · exact hni (he ▸ hmem j hj)
    · rw [hσout j hj] at he; omega
  let ρ' : Nat → Nat := fun i => if i < M.length ∧ i ∉ fp then ρ i else ρ0' (τ i)
  let κ' : Nat → Option Nat := fun i => if i < M.length ∧ i ∉ fp then κ i else κ0' (τ i)
  have hρσ : ∀ j, ρ' (σ j) = ρ0' j := by
    intro j
    simp only [ρ']
    rw [if_neg (fun hc => notσ _ j hc.1 hc.2 rfl), hτ]
  have hκσ : ∀ j, κ' (σ j) = κ0' j := by
    intro j
    simp only [κ']
    rw [if_neg (fun hc => notσ _ j hc.1 hc.2 rfl), hτ]
  have hρo : ∀ i, i < M.length → i ∉ fp → ρ' i = ρ i ∧ κ' i = κ i := by
    intro i hi hni
    simp only [ρ', κ']
    rw [if_pos ⟨hi, hni⟩, if_pos ⟨hi, hni⟩]
    exact ⟨rfl, rfl⟩
  have hmlen : (merge M fp M0').length = M.length + (M0'.length - fp.length) := by
    simp [merge, setAll_length]
  have hmσ : ∀ (j : Nat) (b : Blk), M0'[j]? = some b → (merge M fp M0')[σ j]? = some (b.ren σ) := by
    intro j b hb
    unfold merge
    rw [hσ]
    by_cases hj : j < fp.length
    · have hlj := hlt _ (hmem j hj)
      rw [List.getElem?_append_left (by rw [setAll_length]; exact hlj)]
      exact setAll_at fp _ M j (σ j) _ hnd hlt (hin j hj) (by simp [hb])
    · rw [hσout j hj, List.getElem?_append_right (by rw [setAll_length]; omega), setAll_length]
      simp only [Nat.add_sub_cancel_left, List.getElem?_map, List.getElem?_drop]
      rw [show fp.length + (j - fp.length) = j by omega, hb]
      rfl
  have hmo : ∀ i, i < M.length → i ∉ fp → (merge M fp M0')[i]? = M[i]? := by
    intro i hi hni
    unfold merge
    rw [List.getElem?_append_left (by rw [setAll_length]; exact hi), setAll_other _ _ _ _ hni]
  have hσlt : ∀ j, j < M0'.length → σ j < (merge M fp M0').length := by
    intro j hj
    rw [hmlen]
    by_cases hjl : j < fp.length
    · have := hlt _ (hmem j hjl); omega
    · rw [hσout j hjl]; omega
  have hσback : ∀ (j : Nat) (b : Blk), (merge M fp M0')[σ j]? = some b → ∃ b0, M0'[j]? = some b0 ∧ b = b0.ren σ := by
    intro j b hb
    cases hq : M0'[j]? with
    | none =>
      exfalso
      have hjl : M0'.length ≤ j := by simpa using hq
      have := (List.getElem?_eq_some_iff.1 hb).1
      rw [hmlen, hσout j (by omega)] at this
      omega
    | some b0 => exact ⟨b0, rfl, by rw [hmσ j b0 hq] at hb; exact (Option.some.inj hb).symm⟩
  have alσ : ∀ j, alive κ' (merge M fp M0') (σ j) → alive κ0' M0' j := by
    intro j ha
    have hl := alive_lt ha
    obtain ⟨b0, hb0, hb⟩ := hσback j (merge M fp M0')[σ j] (by simp [hl])
    rw [alive_of (hmσ j b0 hb0), live_ren, hκσ] at ha
    rwa [alive_of hb0]
  have alo : ∀ i, i < M.length → i ∉ fp → alive κ' (merge M fp M0') i → alive κ M i := by
    intro i hi hni ha
    have hM' : M[i]? = some M[i] := by simp [hi]
    rw [alive_of (by rw [hmo i hi hni, hM']), (hρo i hi hni).2] at ha
    rwa [alive_of hM']
  have al0 : ∀ j, alive (fun i => κ (σ i)) M0 j → alive κ M (σ j) := by
    intro j ha
    have hl := alive_lt ha
    have hb : M0[j]? = some M0[j] := by simp [hl]
    rw [alive_of hb] at ha
    rwa [alive_of (hM j _ hb), live_ren]
  refine ⟨ρ', κ', v.ren σ, merge M fp M0', ?_, ?_, ⟨?_, ?_, ?_, ?_⟩, by rw [hmlen]; omega, ⟨hst.os, hst.tape, hst.output, hst.size, ?_, ?_, ?_⟩, hR v M0' hr hl⟩
  · rw [V.real_ren]
    congr 2
    · exact (funext hρσ).symm
    · exact (funext hκσ).symm
  · intro r hr
    rw [V.refs_ren] at hr
    obtain ⟨q, hq, rfl⟩ := List.mem_map.1 hr
    exact hσlt q (hvc q hq)
  · intro i b hb
    rcases inside i with ⟨j, rfl⟩ | ⟨hi, hni⟩
    · obtain ⟨b0, hb0, rfl⟩ := hσback j b hb
      exact holds_ren (hR'.blk j b0 hb0) hρσ hκσ
    · rw [hmo i hi hni] at hb
      obtain ⟨h1, h2⟩ := hρo i hi hni
      refine holds_congr (hRel.blk i b hb) h1 h2 (fun hlive => ?_) (fun r hr => ?_)
      · have hai : alive κ M i := (alive_of hb).2 hlive
        refine hst.keep (ρ i) (hRel.lt hai) fun j hj he => ?_
        exact notσ i j hi hni (hRel.inj _ _ (al0 j hj) hai he)
      · have hrl := hRel.cl i b hb r hr
        by_cases hrf : r ∈ fp
        · obtain ⟨j, hj⟩ := List.mem_iff_getElem?.1 hrf
          have hjl := (List.getElem?_eq_some_iff.1 hj).1
          have hjr : σ j = r := by have := hin j hjl; rw [hj] at this; exact (Option.some.inj this).symm
          subst hjr
          have hjm : j ∉ mv0 := fun hm => hout i b hni hb _ hr (List.mem_map.2 ⟨j, hm, rfl⟩)
          obtain ⟨h3, h4⟩ := hst.agree j ⟨by omega, hjm⟩
          rw [hρσ, hκσ, h3, h4]
          exact ⟨rfl, rfl⟩
        · exact hρo r hrl hrf
  · intro i j hi hj he
    rcases inside i with ⟨i', rfl⟩ | ⟨hil, hni⟩
    · rcases inside j with ⟨j', rfl⟩ | ⟨hjl, hnj⟩
      · rw [hρσ, hρσ] at he
        rw [hR'.inj i' j' (alσ _ hi) (alσ _ hj) he]
      · exfalso
        have haj := alo j hjl hnj hj
        rw [hρσ, (hρo j hjl hnj).1] at he
        rcases hst.own i' (alσ _ hi) with ⟨k, hk, hke⟩ | hge
        · exact notσ j k hjl hnj (hRel.inj _ _ (al0 k hk) haj (hke.symm.trans he))
        · have := hRel.lt haj; omega
    · rcases inside j with ⟨j', rfl⟩ | ⟨hjl, hnj⟩
      · exfalso
        have hai := alo i hil hni hi
        rw [hρσ, (hρo i hil hni).1] at he
        rcases hst.own j' (alσ _ hj) with ⟨k, hk, hke⟩ | hge
        · exact notσ i k hil hni (hRel.inj _ _ (al0 k hk) hai (hke.symm.trans he.symm))
        · have := hRel.lt hai; omega
      · rw [(hρo i hil hni).1, (hρo j hjl hnj).1] at he
        exact hRel.inj i j (alo i hil hni hi) (alo j hjl hnj hj) he
  · intro ad u hu
    obtain ⟨h1, h2⟩ := hR'.ext ad u hu
    refine ⟨h1, fun i hi => ?_⟩
    rcases inside i with ⟨j, rfl⟩ | ⟨hil, hni⟩
    · rw [hρσ]; exact h2 j (alσ j hi)
    · rw [(hρo i hil hni).1]; exact (hRel.ext ad u hu).2 i (alo i hil hni hi)
  · intro i b hb r hr
    rcases inside i with ⟨j, rfl⟩ | ⟨hil, hni⟩
    · obtain ⟨b0, hb0, rfl⟩ := hσback j b hb
      rw [refs_blk_ren] at hr
      obtain ⟨q, hq, rfl⟩ := List.mem_map.1 hr
      exact hσlt q (hR'.cl j b0 hb0 q hq)
    · rw [hmo i hil hni] at hb
      have := hRel.cl i b hb r hr
      rw [hmlen]; omega
  · intro r hr hn
    exact hst.keep r hr fun j hj => hn (σ j) (al0 j hj)
  · intro i hi
    rcases inside i with ⟨j, rfl⟩ | ⟨hil, hni⟩
    · rw [hρσ]
      rcases hst.own j (alσ j hi) with ⟨k, hk, hke⟩ | hge
      · exact .inl ⟨σ k, al0 k hk, hke⟩
      · exact .inr hge
    · exact .inl ⟨i, alo i hil hni hi, (hρo i hil hni).1⟩
  · intro i hi
    rcases inside i with ⟨j, rfl⟩ | ⟨hil, hni⟩
    · have hjl : j < M0.length := by
        by_cases hj : j < fp.length
        · omega
        · have h1 := hi.1
          rw [hσout j hj] at h1; omega
      have hjm : j ∉ mv0 := fun hm => hi.2 (List.mem_map.2 ⟨j, hm, rfl⟩)
      obtain ⟨h3, h4⟩ := hst.agree j ⟨hjl, hjm⟩
      rw [hρσ, hκσ, h3, h4]
      exact ⟨rfl, rfl⟩
    · exact hρo i hil hni
end
end Go.VM
