/-
  A part of a small machine over the model, or of a walk by it, proved right against the model. Proved outright, under no condition but what each theorem names.
-/
import Derived.Test.YtahmhofnilgfgaaVE
namespace Go.VM
open Go

section
variable {C : Ctx} {ρ : Nat → Nat} {κ : Nat → Option Nat} {M : Mem} {w : World} {e : Env} {n : Nat} {a : Act}

theorem run_bound {P : Program} (w : World) (m d : Nat) (c : BoundsCode) (x : Operand) (hE : EnvRel ρ κ e n a) (l : Nat)
    (h : vbound m d (some ((compX x).ev e)) = some l) : (Instr.sliceBound (a.eval x) m c).run P w = .ok l w := by
  unfold vbound at h
  split at h
  · cases ‹some _ = none›
  · rename_i k i hx
    split at h
    · rename_i hb
      cases h
      have hx' : (compX x).ev e = .int k i := by simpa using hx
      have hr := ev_real hE x (by rw [hx']; simp)
      rw [hx'] at hr
      simp [Instr.sliceBound, hr, V.real, asIntOf, hb]
    · cases h
  · cases h

theorem run_bounds {P : Program} (w : World) (b : Bool) (len cap : Nat) (lo hi mx : Option Operand) (hE : EnvRel ρ κ e n a) (r : Nat × Nat × Nat)
    (h : vbounds len cap ((lo.map compX).map (X.ev e)) ((hi.map compX).map (X.ev e)) ((mx.map compX).map (X.ev e)) = some r) :
    (Instr.sliceBounds b len cap (lo.map a.eval) (hi.map a.eval) (mx.map a.eval)).run P w = .ok r w := by
  unfold vbounds at h
  split at h
  · cases h
  rename_i m hm
  split at h
  · cases h
  rename_i hi' mx' hne
  split at h
  · cases h
  rename_i hh hhi
  split at h
  · cases h
  rename_i l hlo
  cases h
  cases mx with
  | none =>
    have hcm : m = cap := by simp [vbound] at hm; exact hm.symm
    subst hcm
    cases hi with
    | none =>
      have hch : hh = len := by simp [vbound] at hhi; exact hhi.symm
      subst hch
      cases lo with
      | none =>
        have hcl : l = 0 := by simp [vbound] at hlo; exact hlo.symm
        subst hcl
        simp [Instr.sliceBounds]
      | some x => simp [Instr.sliceBounds, run_bound w hh 0 _ x hE l hlo]
    | some y =>
      have h2 := fun c => run_bound (P := P) w m len c y hE hh (by simpa using hhi)
      cases lo with
      | none =>
        have hcl : l = 0 := by simp [vbound] at hlo; exact hlo.symm
        subst hcl
        simp [Instr.sliceBounds, h2]
      | some x => simp [Instr.sliceBounds, h2, run_bound w hh 0 _ x hE l hlo]
  | some z =>
    have h1 := fun c => run_bound (P := P) w cap cap c z hE m hm
    cases hi with
    | none => exact absurd rfl (hne _ rfl)
    | some y =>
      have h2 := fun c => run_bound (P := P) w m len c y hE hh (by simpa using hhi)
      cases lo with
      | none =>
        have hcl : l = 0 := by simp [vbound] at hlo; exact hlo.symm
        subst hcl
        simp [Instr.sliceBounds, h1, h2]
      | some x => simp [Instr.sliceBounds, h1, h2, run_bound w hh 0 _ x hE l hlo]

theorem q_slc (hE : EnvRel ρ κ e n a) (hcl : EnvCl M.length e) (o : Oper) (t : TypeId) (x : Operand) (lo hi mx : Option Operand) (ho : o.op = .slice t x lo hi mx) (len el sz : Nat)
    (hs : C.P.underlying t = some (.array len el)) (hz : sizeT C.P el = some sz) (v : V)
    (h : vslice len sz ((lo.map compX).map (X.ev e)) ((hi.map compX).map (X.ev e)) ((mx.map compX).map (X.ev e)) ((compX x).ev e) = some v) :
    QOut ρ κ M.length w ((execOp a.eval o).run C.P w) v := by
  unfold vslice at h
  split at h
  · rename_i b off hx
    split at h
    · rename_i l hh m hb
      cases h
      have hr := ev_real hE x (by rw [hx]; simp)
      have hcx := ev_cl hcl x
      rw [hx] at hr hcx
      refine QOut.known ?_ (fun r hr => hcx r (by simpa [V.refs] using hr))
      simp only [execOp, ho, hr]
      refine exec_value ?_
      simp only [Instr.sliceAt, Sem.run_bind, run_underlying hs, Result.andThen_ok, V.real, Instr.sureAddr, Sem.run_pure, run_bounds (P := C.P) w false len len lo hi mx hE _ hb, sizeT_run hz]
      by_cases hml : m = l
      · simp [hml]
      · simp [hml, Addr.add_lit]
    · cases h
  · cases h

theorem cells_of {v : V} {vs : List V} (h : v.cells = some vs) : v ≠ .undef ∧ (v.real ρ κ).cells = (V.reals ρ κ vs).toArray ∧ (∀ r, r ∈ V.refsL vs ↔ r ∈ v.refs) := by
  unfold V.cells at h
  split at h
  · rename_i cs
    split at h
    · cases h; exact ⟨by simp, rfl, fun r => Iff.rfl⟩
    · cases h
  · rename_i k xs
    cases h
    refine ⟨by simp, ?_, ?_⟩
    · simp only [V.real, Value.cells, V.reals_map, intVs, List.map_map, intVals]
      rfl
    · intro r
      constructor
      · intro hr
        obtain ⟨u, hu, hr⟩ := V.mem_refsL.1 hr
        obtain ⟨x, _, rfl⟩ := List.mem_map.1 hu
        simp [V.refs] at hr
      · intro hr; simp [V.refs] at hr
  · split at h
    · rename_i h1 h2 ho
      cases h
      refine ⟨(by rintro rfl; cases ho), ?_, (fun r => by simp [V.refsL])⟩
      cases v with
      | vec b m => simp only [V.real, V.reals]; cases κ b <;> rfl
      | raw u => cases u <;> first | rfl | (simp [V.one, Value.oneCell'] at ho)
      | agg cs => exact absurd rfl (h1 _)
      | ints k xs => exact absurd rfl (h2 _ _)
      | undef => cases ho
      | tup vs => cases ho
      | _ => rfl
    · cases h

theorem fold_set {α : Type} (vs : List α) : ∀ (off : Nat) (cells : Array α), off + vs.length ≤ cells.size →
    (vs.toArray.zipIdx.foldl (fun cs (c, j) => cs.setIfInBounds (off + j) c) cells).toList = splice cells.toList off vs := by
  intro off cells hle
  apply List.ext_getElem?
  intro j
  rw [← Array.foldl_toList]
  simp only [Array.toList_zipIdx]
  have key : ∀ (l : List α) (k : Nat) (cs : Array α), off + k + l.length ≤ cs.size →
      (List.foldl (fun (cs : Array α) (x : α × Nat) => cs.setIfInBounds (off + x.2) x.1) cs (l.zipIdx k)).toList[j]? =
        if off + k ≤ j ∧ j < off + k + l.length then l[j - (off + k)]? else cs.toList[j]? := by
    intro l
    induction l with
    | nil => intro k cs _; simp; omega
    | cons v l ih =>
      intro k cs hk
      simp only [List.length_cons] at hk
      simp only [List.zipIdx_cons, List.foldl_cons]
      rw [ih (k + 1) _ (by rw [Array.size_setIfInBounds]; omega)]
      by_cases h1 : off + (k + 1) ≤ j ∧ j < off + (k + 1) + l.length
      · rw [if_pos h1, if_pos (by simp; omega)]
        have : j - (off + k) = (j - (off + (k + 1))) + 1 := by omega
        rw [this, List.getElem?_cons_succ]
      · rw [if_neg h1]
        by_cases h2 : j = off + k
        · subst h2
          rw [if_pos (by simp only [List.length_cons]; omega)]
          simp only [Array.toList_setIfInBounds, Nat.sub_self, List.getElem?_cons_zero]
          rw [List.getElem?_set_self (by simpa using (by omega : off + k < cs.size))]
        · rw [if_neg (by simp only [List.length_cons]; omega)]
          simp only [Array.toList_setIfInBounds]
          rw [List.getElem?_set_ne (by omega)]
  have := key vs 0 cells (by omega)
  simp only [Nat.add_zero] at this ⊢
  rw [this]
  unfold splice
  by_cases h1 : j < off
  · rw [if_neg (by omega), List.append_assoc, List.getElem?_append_left (by simp; omega), List.getElem?_take, if_pos h1]
  · by_cases h2 : j < off + vs.length
    · rw [if_pos (by omega), List.append_assoc, List.getElem?_append_right (by simp; omega), List.getElem?_append_left (by simp; omega)]
      congr 1
      simp
      omega
    · rw [if_neg (by omega), List.getElem?_append_right (by simp; omega), List.getElem?_drop]
      congr 1
      simp
      omega

end
end Go.VM
