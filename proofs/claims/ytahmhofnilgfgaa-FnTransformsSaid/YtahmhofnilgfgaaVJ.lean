/-
  A part of a small machine over the model, or of a walk by it, proved right against the model. Proved outright, under no condition but what each theorem names.
-/
import Derived.Test.YtahmhofnilgfgaaVI
namespace Go.VM
open Go

section
variable {C : Ctx} {ρ : Nat → Nat} {κ : Nat → Option Nat} {M : Mem} {w : World} {e : Env} {n : Nat} {a : Act}

theorem vbox_ne {T : Nat} {v : V} {B : Blk} (h : vbox T v = some B) : v ≠ .undef := by
  rintro rfl; simp [vbox, V.one] at h

theorem vbox_live {T : Nat} {v : V} {B : Blk} (h : vbox T v = some B) (c : Option Nat) : B.live c := by
  unfold vbox at h
  repeat' split at h
  all_goals first | (cases h; trivial) | cases h

theorem vbox_refs {T : Nat} {v : V} {B : Blk} (h : vbox T v = some B) : ∀ r ∈ B.refs, r ∈ v.refs := by
  unfold vbox at h
  split at h
  · cases h; intro r hr; simp [Blk.refs] at hr
  · split at h
    · cases h; exact fun r hr => hr
    · cases h
  · split at h
    · cases h; intro r hr; simpa [Blk.refs, V.refsL] using hr
    · cases h

theorem vbox_holds {T : Nat} {v : V} {B : Blk} (h : vbox T v = some B) {ρ' : Nat → Nat} {κ' : Nat → Option Nat} {i : Nat} (w' : World)
    (hw : w'.heap[ρ' i]? = some (.cells (v.real ρ' κ').cells T (0, 0))) : B.holds ρ' κ' i w' := by
  unfold vbox at h
  split at h
  · cases h; exact hw
  · rename_i cs
    split at h
    · cases h
      refine ⟨_, hw, by simp [V.real, Value.cells, V.reals_map], fun j u hj _ => ?_⟩
      simp [V.real, Value.cells, V.reals_map, hj]
    · cases h
  · split at h
    · rename_i ho
      cases h
      refine ⟨_, hw, by rw [one_cells ho]; rfl, fun j u hj _ => ?_⟩
      rw [one_cells ho]
      cases j with
      | zero => simp at hj; subst hj; rfl
      | succ j => simp at hj
    · cases h

theorem n_new (hR : Rel C ρ κ M w) (o : Oper) (T : Nat) (v : V) (hv : v.cl M.length) (B : Blk) (hb : vbox T v = some B)
    (hrun : (execOp a.eval o).run C.P w = .ok (.value (.pointer (some ⟨w.heap.size, 0, none⟩))) (w.alloc (.cells (v.real ρ κ).cells T))) :
    NOut C ρ κ M w ((execOp a.eval o).run C.P w) (.ptr M.length 0) (M ++ [B]) := by
  obtain ⟨ρ', κ', hR', hS, hρ, _⟩ := hR.newBlk B (v.real ρ κ).cells T none (fun ρ' κ' hρ _ hold => by
      refine vbox_holds hb _ ?_
      rw [hρ, heap_alloc_new]
      congr 3
      exact V.real_congr v (fun b hb => by obtain ⟨h1, h2⟩ := hold b (hv b hb); exact ⟨h1.symm, h2.symm⟩))
    (fun r hr => hv r (vbox_refs hb r hr))
  refine ⟨ρ', κ', _, _, .inl hrun, fun _ => by simp [V.real, hρ], ?_, hR', by simp, hS⟩
  intro r hr
  simp only [V.refs, List.mem_singleton] at hr
  subst hr
  simp

theorem n_alloc (hR : Rel C ρ κ M w) (o : Oper) (t : TypeId) (ho : o.op = .alloc t) (z : Value) (hz : zeroT C.P t = some z) (arr : Bool) (B : Blk) (hb : vbox t (V.ofZero arr z) = some B) :
    NOut C ρ κ M w ((execOp a.eval o).run C.P w) (.ptr M.length 0) (M ++ [B]) := by
  obtain ⟨hzr, hzc⟩ := real_ofZero ρ κ arr z
  refine n_new hR o t (V.ofZero arr z) (cl_nil hzc) B hb ?_
  simp only [execOp, ho]
  refine exec_value ?_
  simp only [Instr.alloc, Sem.run_bind, zeroT_run hz, Result.andThen_ok]
  simp [newVar, newRow, hzr]

theorem n_box (hR : Rel C ρ κ M w) (hE : EnvRel ρ κ e n a) (hcl : EnvCl M.length e) (o : Oper) (t : TypeId) (x : Operand) (ho : o.op = .box t x) (B : Blk) (hb : vbox t ((compX x).ev e) = some B) :
    NOut C ρ κ M w ((execOp a.eval o).run C.P w) (.ptr M.length 0) (M ++ [B]) := by
  refine n_new hR o t ((compX x).ev e) (ev_cl hcl x) B hb ?_
  simp only [execOp, ho, ev_real hE x (vbox_ne hb)]
  refine exec_value ?_
  simp [Instr.box, newVar, newRow]

/-- One operation. -/
theorem op_sound (hR : Rel C ρ κ M w) (hE : EnvRel ρ κ e n a) (hcl : EnvCl M.length e) (o : Oper) (vi : VI) (hc : compOp C.P o.op = some vi)
    (v : V) (M' : Mem) (h : vop C e M vi = some (v, M')) : NOut C ρ κ M w ((execOp a.eval o).run C.P w) v M' := by
  by_cases hq : vi.quiet = true
  · have hM := vop_quiet hq h
    subst hM
    exact NOut.of_quiet hR (quiet_sound hR hE hcl o vi hc hq v _ h)
  · cases hop : o.op with
    | store t x y =>
      rw [hop] at hc; simp only [compOp] at hc
      split at hc
      · rename_i sz hz
        cases hc
        simp only [vop] at h
        split at h
        · rename_i b off hx
          split at h
          · rename_i M₂ hp
            cases h
            exact n_st hR hE hcl o t x y hop sz hz b off hx _ hp
          · cases h
        · cases h
      · cases hc
    | alloc t =>
      rw [hop] at hc; simp only [compOp] at hc
      split at hc
      · rename_i z hz
        split at hc
        · rename_i B hb
          cases hc
          simp only [vop] at h
          cases h
          exact n_alloc hR o t hop z hz _ B hb
        · cases hc
      · cases hc
    | box t x =>
      rw [hop] at hc; cases hc
      simp only [vop] at h
      split at h
      · rename_i B hb
        cases h
        exact n_box hR hE hcl o t x hop B hb
      · cases h
    | _ =>
      exfalso
      rw [hop] at hc
      simp only [compOp] at hc
      repeat' split at hc
      all_goals first | contradiction | (cases hc; first | contradiction | exact hq rfl) | (cases hc; done)

end
end Go.VM
