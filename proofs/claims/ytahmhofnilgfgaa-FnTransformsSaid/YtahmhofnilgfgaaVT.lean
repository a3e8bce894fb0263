/-
  A part of a small machine over the model, or of a walk by it, proved right against the model. Proved outright, under no condition but what each theorem names.
-/
import Derived.Test.YtahmhofnilgfgaaVS
namespace Go.VM
open Go

section
variable {C : Ctx} {n0 : Nat} {mv : List Nat}

theorem V.ren_of_nil {v : V} (h : v.refs = []) (σ : Nat → Nat) : v.ren σ = v := by
  rw [V.ren_congr (σ' := id) v (fun b hb => by rw [h] at hb; cases hb), V.ren_id]

def fits (M : Mem) (σ : Nat → Nat) : List Nat → List Blk → Prop
  | [], [] => True
  | i :: is, b :: bs => M[i]? = some (b.ren σ) ∧ fits M σ is bs
  | _, _ => False

theorem fits_length {M : Mem} {σ : Nat → Nat} : ∀ {is : List Nat} {bs : List Blk}, fits M σ is bs → is.length = bs.length
  | [], [], _ => rfl
  | i :: is, b :: bs, h => by simp [fits_length h.2]
  | [], b :: bs, h => h.elim
  | i :: is, [], h => h.elim

theorem fits_get {M : Mem} {σ : Nat → Nat} : ∀ {is : List Nat} {bs : List Blk}, fits M σ is bs → ∀ (j i : Nat) (b : Blk), is[j]? = some i → bs[j]? = some b → M[i]? = some (b.ren σ)
  | [], [], _, j, i, b, h, _ => by simp at h
  | i :: is, b :: bs, h, 0, i', b', h1, h2 => by
    simp only [List.getElem?_cons_zero, Option.some.injEq] at h1 h2
    subst h1; subst h2
    exact h.1
  | i :: is, b :: bs, h, j + 1, i', b', h1, h2 => fits_get h.2 j i' b' (by simpa using h1) (by simpa using h2)
  | [], b :: bs, h, _, _, _, _, _ => h.elim
  | i :: is, [], h, _, _, _, _, _ => h.elim

/-- no block outside names one of these -/
def outs (fp mvs : List Nat) : Nat → Mem → Bool
  | _, [] => true
  | k, b :: bs => (fp.contains k || b.refs.all (fun r => !mvs.contains r)) && outs fp mvs (k + 1) bs

theorem outs_get {fp mvs : List Nat} : ∀ (k : Nat) (M : Mem), outs fp mvs k M = true → ∀ (i : Nat) (b : Blk), k + i ∉ fp → M[i]? = some b → ∀ r ∈ b.refs, r ∉ mvs
  | _, [], _, i, b, _, h, _, _ => by simp at h
  | k, b :: bs, h, 0, b', hn, hb, r, hr => by
    simp only [List.getElem?_cons_zero, Option.some.injEq] at hb
    subst hb
    simp only [outs, Bool.and_eq_true, Bool.or_eq_true, List.contains_iff_mem] at h
    rcases h.1 with h1 | h1
    · exact absurd h1 hn
    · have := List.all_eq_true.1 h1 r hr
      simpa using this
  | k, b :: bs, h, i + 1, b', hn, hb, r, hr => by
    simp only [outs, Bool.and_eq_true] at h
    exact outs_get (k + 1) bs h.2 i b' (by rwa [Nat.add_assoc, Nat.add_comm 1 i]) (by simpa using hb) r hr

theorem outs_nil {fp : List Nat} : ∀ (k : Nat) (M : Mem), outs fp [] k M = true
  | _, [] => rfl
  | k, b :: bs => by simp [outs, outs_nil (k + 1) bs]

theorem callK_frame {f : Nat} {vs vs0 : List V} {M M0 : Mem} {mv0 : List Nat} {R0 : V → Mem → Prop} {K : List Nat → V → Mem → Prop} (fp : List Nat) (h : VCalls C f vs0 M0 mv0 R0)
    (hk : allKnown vs = true) (hnd : fp.Nodup) (hlt : (fp.all fun i => decide (i < M.length)) = true) (hfit : fits M (fpσ fp M.length) fp M0) (hvs : vs = V.renL (fpσ fp M.length) vs0)
    (hcM : memCl M0.length M0 = true) (hcv : clB M0.length (V.refsL vs0) = true) (hmv : ∀ b ∈ mv0.map (fpσ fp M.length), n0 ≤ b ∨ b ∈ mv)
    (hout : outs fp (mv0.map (fpσ fp M.length)) 0 M = true)
    (hK : ∀ v M0', R0 v M0' → M0.length ≤ M0'.length → K (mv0.map (fpσ fp M.length)) (v.ren (fpσ fp M.length)) (merge M fp M0')) : callK C n0 mv f vs M K := by
  refine ⟨hk, _, hmv, h.frame fp M vs _ (fits_length hfit) hnd (fun i hi => by simpa using List.all_eq_true.1 hlt i hi) (fun j b hb => ?_) hvs (fun j b hb r hr => ?_) (clB_iff hcv) (fun i b hi hb => outs_get 0 M hout i b (by simpa using hi) hb) hK⟩
  · have hj : j < fp.length := by rw [fits_length hfit]; exact (List.getElem?_eq_some_iff.1 hb).1
    exact fits_get hfit j _ b (fpσ_in hj) hb
  · exact clB_iff (List.all_eq_true.1 hcM b (List.mem_of_getElem? hb)) r hr

/-- no block of the caller's moves -/
theorem callK_fr {f : Nat} {vs vs0 : List V} {M M0 : Mem} {R0 : V → Mem → Prop} {K : List Nat → V → Mem → Prop} (fp : List Nat) (h : VCalls C f vs0 M0 [] R0)
    (hk : allKnown vs = true) (hnd : fp.Nodup) (hlt : (fp.all fun i => decide (i < M.length)) = true) (hfit : fits M (fpσ fp M.length) fp M0) (hvs : vs = V.renL (fpσ fp M.length) vs0)
    (hcM : memCl M0.length M0 = true) (hcv : clB M0.length (V.refsL vs0) = true)
    (hK : ∀ v M0', R0 v M0' → M0.length ≤ M0'.length → K [] (v.ren (fpσ fp M.length)) (merge M fp M0')) : callK C n0 mv f vs M K := by
  refine callK_frame fp h hk hnd hlt hfit hvs hcM hcv (by simp) ?_ hK
  exact outs_nil 0 M
end
end Go.VM
