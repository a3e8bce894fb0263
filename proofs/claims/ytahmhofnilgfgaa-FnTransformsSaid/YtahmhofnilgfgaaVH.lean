/-
  A part of a small machine over the model, or of a walk by it, proved right against the model. Proved outright, under no condition but what each theorem names.
-/
import Derived.Test.YtahmhofnilgfgaaVG
namespace Go.VM
open Go

section
variable {C : Ctx} {ρ : Nat → Nat} {κ : Nat → Option Nat} {M : Mem} {w : World} {e : Env} {n : Nat} {a : Act}

/-- Does it leave memory alone? -/
def VI.quiet : VI → Bool
  | .st .. | .alloc _ | .box .. => false
  | _ => true

theorem vop_quiet {vi : VI} (hq : vi.quiet = true) {v : V} {M' : Mem} (h : vop C e M vi = some (v, M')) : M' = M := by
  cases vi <;> first | (simp only [VI.quiet, Bool.false_eq_true] at hq; done) | (simp only [vop] at h; (repeat' split at h) <;> first | (cases h; rfl) | cases h)

theorem quiet_sound (hR : Rel C ρ κ M w) (hE : EnvRel ρ κ e n a) (hcl : EnvCl M.length e) (o : Oper) (vi : VI) (hc : compOp C.P o.op = some vi) (hq : vi.quiet = true)
    (v : V) (M' : Mem) (h : vop C e M vi = some (v, M')) : QOut ρ κ M.length w ((execOp a.eval o).run C.P w) v := by
  cases hop : o.op with
  | move x =>
    rw [hop] at hc; cases hc
    simp only [vop, Option.some.injEq, Prod.mk.injEq] at h
    rw [← h.1]; exact q_mov hE hcl o x (.inl hop)
  | assign x =>
    rw [hop] at hc; cases hc
    simp only [vop, Option.some.injEq, Prod.mk.injEq] at h
    rw [← h.1]; exact q_mov hE hcl o x (.inr hop)
  | pick c x y =>
    rw [hop] at hc; cases hc
    simp only [vop] at h
    split at h
    · rename_i t ht
      cases h
      exact q_pick hE hcl o c x y hop t ht
    · cases h
  | nilCheck x => rw [hop] at hc; cases hc; exact (q_nilck hE hcl o x hop v M' h).2
  | binOp op t x y t' =>
    rw [hop] at hc; cases hc
    simp only [vop] at h
    split at h
    · rename_i u hu; cases h; exact q_bin hE o op t t' x y hop _ hu
    · cases h
  | unOp op t x =>
    rw [hop] at hc; cases hc
    simp only [vop] at h
    split at h
    · rename_i u hu; cases h; exact q_un hE o op t x hop _ hu
    · cases h
  | convert src dst x =>
    rw [hop] at hc; simp only [compOp] at hc
    split at hc
    · rename_i d k hs hd
      cases hc
      simp only [vop] at h
      split at h
      · rename_i k' m hx; cases h; exact q_conv hE o src dst x hop d k hs hd k' m hx
      · cases h
    · cases hc
  | fieldAddr s x f =>
    rw [hop] at hc; simp only [compOp] at hc
    split at hc
    · rename_i fs hs
      split at hc
      · rename_i fd hf
        split at hc
        · rename_i sz hz
          cases hc
          simp only [vop] at h
          split at h
          · rename_i b off hx; cases h; exact q_fld hE hcl o s x f hop fs fd sz hs hf hz b off hx
          · cases h
        · cases hc
      · cases hc
    · cases hc
  | indexAddr t x i =>
    rw [hop] at hc; simp only [compOp] at hc
    split at hc
    · rename_i len el hs
      split at hc
      · rename_i sz hz
        cases hc
        simp only [vop] at h
        split at h
        · rename_i u hu; cases h; exact q_idxA hE hcl o t x i hop len el sz hs hz _ hu
        · cases h
      · cases hc
    · rename_i el hs
      split at hc
      · rename_i sz hz
        cases hc
        simp only [vop] at h
        split at h
        · rename_i u hu; cases h; exact q_idxS hR hE hcl o t x i hop el sz hs hz _ hu
        · cases h
      · cases hc
    · cases hc
  | load t x =>
    rw [hop] at hc; simp only [compOp] at hc
    split at hc
    · rename_i sz hg hz
      cases hc
      simp only [vop] at h
      split at h
      · rename_i b off hx
        split at h
        · rename_i u hu; cases h; exact q_ldA hR hE o t x hop _ hg hz b off hx _ hu
        · cases h
      · cases h
    · rename_i hg
      cases hc
      simp only [vop] at h
      split at h
      · rename_i u hv; cases h; exact q_ld hR hE o t x hop hg _ hv
      · cases h
    · cases hc
  | extract x i =>
    rw [hop] at hc; cases hc
    simp only [vop] at h
    split at h
    · rename_i vs hx
      split at h
      · rename_i u hu
        split at h
        · cases h; exact q_tupx hE hcl o x i hop vs hx _ hu
        · cases h
      · cases h
    · cases h
  | field t x f =>
    rw [hop] at hc; simp only [compOp] at hc
    split at hc
    · rename_i fs hs
      split at hc
      · rename_i fd hf
        split at hc
        · rename_i g sz hg hz
          cases hc
          simp only [vop] at h
          split at h
          · rename_i u hu
            split at h
            · cases h; exact q_part hE hcl o t x f hop fs fd g sz hs hf hg hz _ hu
            · cases h
          · cases h
        · cases hc
      · cases hc
    · cases hc
  | index t x i =>
    rw [hop] at hc; simp only [compOp] at hc
    split at hc
    · rename_i len el hs
      split at hc
      · rename_i g sz hg hz
        cases hc
        simp only [vop] at h
        split at h
        · rename_i u hu
          split at h
          · cases h; exact q_idxV hE hcl o t x i hop len el g sz hs hg hz _ hu
          · cases h
        · cases h
      · cases hc
    · cases hc
  | build t parts =>
    rw [hop] at hc; simp only [compOp] at hc
    split at hc
    · rename_i z fs hz hs
      split at hc
      · rename_i pl hpl
        split at hc
        · rename_i l hl
          cases hc
          simp only [vop] at h
          split at h
          · rename_i u hu
            cases h
            exact q_build hE hcl o t parts hop z hz _ (.inl ⟨fs, pl, hs, hpl, rfl⟩) l hl false _ hu
          · cases h
        · cases hc
      · cases hc
    · rename_i z len el hz hs
      split at hc
      · rename_i sz hsz
        split at hc
        · rename_i l hl
          cases hc
          simp only [vop] at h
          split at h
          · rename_i u hu
            cases h
            exact q_build hE hcl o t parts hop z hz _ (.inr ⟨len, el, sz, hs, hsz, rfl⟩) l hl true _ hu
          · cases h
        · cases hc
      · cases hc
    · cases hc
  | slice t x lo hi mx =>
    rw [hop] at hc; simp only [compOp] at hc
    split at hc
    · rename_i len el hs
      split at hc
      · rename_i sz hz
        cases hc
        simp only [vop] at h
        split at h
        · rename_i u hu; cases h; exact q_slc hE hcl o t x lo hi mx hop len el sz hs hz _ hu
        · cases h
      · cases hc
    · cases hc
  | makeFunc fn first cap =>
    rw [hop] at hc
    cases fn with
    | func f =>
      simp only [compOp] at hc
      split at hc
      · rename_i hfirst
        cases hc
        simp only [vop] at h
        split at h
        · rename_i hk; cases h; exact q_mkfn hE hcl o f first cap hfirst hop hk
        · cases h
      · cases hc
    | _ => cases hc
  | call c =>
    rw [hop] at hc
    unfold compOp at hc
    split at hc <;> try (rename_i heq; cases heq; done)
    · rename_i args ts heq
      cases heq
      split at hc
      · rename_i x t hargs hts
        have ha : args = #[x] := by apply Array.ext'; simpa using hargs
        have ht : ts = #[t] := by apply Array.ext'; simpa using hts
        subst ha; subst ht
        split at hc
        · rename_i el hs
          cases hc
          simp only [vop] at h
          split at h
          · rename_i u hu; cases h; exact q_len hR hE o x t el hop hs _ hu
          · cases h
        · rename_i hs
          cases hc
          simp only [vop] at h
          split at h
          · rename_i s hx; cases h; exact q_lenS hE o x t hop hs s hx
          · cases h
        · rename_i len el hs
          cases hc
          simp only [vop, X.ev, Option.some.injEq, Prod.mk.injEq] at h
          rw [← h.1]
          exact q_lenA o x t len el hop hs
        · cases hc
      · cases hc
    · cases hc
  | alloc t =>
    rw [hop] at hc; simp only [compOp] at hc
    repeat' split at hc
    all_goals first | (cases hc; cases hq) | cases hc
  | box t x => rw [hop] at hc; cases hc; cases hq
  | store t x y =>
    rw [hop] at hc; simp only [compOp] at hc
    split at hc
    · cases hc; cases hq
    · cases hc
  | _ => rw [hop] at hc; cases hc

end
end Go.VM
