/-
  A part of a small machine over the model, or of a walk by it, proved right against the model. Proved outright, under no condition but what each theorem names.
-/
import Derived.Test.YtahmhofnilgfgaaVF
namespace Go.VM
open Go

section
variable {C : Ctx} {ρ : Nat → Nat} {κ : Nat → Option Nat} {M : Mem} {w : World} {e : Env} {n : Nat} {a : Act}

theorem splice_length {α : Type} (xs : List α) (o : Nat) (ys : List α) (h : o + ys.length ≤ xs.length) : (splice xs o ys).length = xs.length := by
  simp [splice]; omega

theorem splice_map {α β : Type} (f : α → β) (xs : List α) (o : Nat) (ys : List α) : (splice xs o ys).map f = splice (xs.map f) o (ys.map f) := by
  simp [splice]

theorem splice_one {α : Type} (xs : List α) (o : Nat) (y : α) (h : o < xs.length) : splice xs o [y] = xs.set o y := by
  apply List.ext_getElem?
  intro j
  unfold splice
  by_cases h1 : j < o
  · rw [List.append_assoc, List.getElem?_append_left (by simp; omega), List.getElem?_take, if_pos h1, List.getElem?_set_ne (by omega)]
  · by_cases h2 : j = o
    · subst h2
      rw [List.append_assoc, List.getElem?_append_right (by simp; omega), List.getElem?_set_self h]
      simp [Nat.min_eq_left (Nat.le_of_lt h)]
    · rw [List.getElem?_append_right (by simp; omega), List.getElem?_drop, List.getElem?_set_ne (by omega)]
      congr 1
      simp
      omega

/-- what a filled value is -/
theorem fill_step (place : Nat → Option (Nat × Nat)) (i off sz : Nat) (hp : place i = some (off, sz)) (x : Value) (vs : List Value) (hx : x.cells = vs.toArray) (hl : vs.length = sz)
    (cells : List Value) (hle : off + sz ≤ cells.length) (rest : List (Nat × Value)) :
    Instr.fill place cells.toArray ((i, x) :: rest) = Instr.fill place (splice cells off vs).toArray rest := by
  simp only [Instr.fill, hp, hx]
  have h1 : ¬(vs.toArray.size ≠ sz || off + vs.toArray.size > cells.toArray.size) = true := by
    simp; omega
  rw [if_neg h1]
  congr 1
  apply Array.ext'
  rw [fold_set vs off cells.toArray (by simp; omega)]

theorem compParts_sound (P : Program) (hE : EnvRel ρ κ e n a) (place : Nat → Option (Nat × Nat)) : ∀ (ps : List (Nat × Operand)) (l : List (Nat × Nat × X)) (z v : V) (zs : List Value),
    compParts P ps place = some l → vfill (l.map fun (o, n, x) => (o, n, x.ev e)) z = some v → z.real ρ κ = .agg zs.toArray →
    ∃ vs : List Value, v.real ρ κ = .agg vs.toArray ∧ Instr.fill place zs.toArray (ps.map fun (i, x) => (i, a.eval x)) = some vs.toArray ∧
      (∀ m, z.cl m → EnvCl m e → v.cl m)
  | [], l, z, v, zs, hc, hv, hz => by
    simp only [compParts, Option.some.injEq] at hc
    subst hc
    simp only [List.map_nil, vfill, Option.some.injEq] at hv
    subst hv
    exact ⟨zs, hz, rfl, fun _ h _ => h⟩
  | (i, x) :: r, l, z, v, zs, hc, hv, hz => by
    simp only [compParts] at hc
    split at hc
    · rename_i off sz l' hp hl'
      cases hc
      simp only [List.map_cons] at hv ⊢
      cases z with
      | ints k zi =>
        simp only [V.real, Value.agg.injEq] at hz
        have hzs := (List.toArray_inj hz).symm
        subst hzs
        simp only [vfill] at hv
        split at hv
        · rename_i k' m hx
          split at hv
          · rename_i hcond
            obtain ⟨rfl, rfl, hlt⟩ := hcond
            have hr := ev_real hE x (by rw [hx]; simp)
            rw [hx] at hr
            obtain ⟨vs, h1, h2, h3⟩ := compParts_sound P hE place r l' (.ints k (zi.set off m)) v (intVals k (zi.set off m)) hl' hv rfl
            refine ⟨vs, h1, ?_, fun m' hm hcl => h3 m' (cl_nil rfl) hcl⟩
            rw [hr, fill_step place i off 1 hp _ [Value.int k m] rfl rfl _ (by simp [intVals]; omega), ← h2]
            congr 1
            rw [splice_one _ _ _ (by simpa [intVals] using hlt)]
            simp [intVals, List.map_set]
          · cases hv
        · rename_i k' ys hx
          split at hv
          · rename_i hcond
            obtain ⟨rfl, rfl, hle⟩ := hcond
            have hr := ev_real hE x (by rw [hx]; simp)
            rw [hx] at hr
            obtain ⟨vs, h1, h2, h3⟩ := compParts_sound P hE place r l' (.ints k (splice zi off ys)) v (intVals k (splice zi off ys)) hl' hv rfl
            refine ⟨vs, h1, ?_, fun m' hm hcl => h3 m' (cl_nil rfl) hcl⟩
            rw [hr, fill_step place i off ys.length hp _ (intVals k ys) rfl (by simp [intVals]) _ (by simp [intVals]; omega), ← h2]
            congr 1
            simp [intVals, splice_map]
          · cases hv
        · cases hv
      | agg zi =>
        simp only [V.real, Value.agg.injEq] at hz
        have hzs := (List.toArray_inj hz).symm
        subst hzs
        simp only [vfill] at hv
        split at hv
        · rename_i us hus
          split at hv
          · rename_i hcond
            obtain ⟨rfl, hle⟩ := hcond
            obtain ⟨hne, hcells, hrefs⟩ := cells_of (ρ := ρ) (κ := κ) hus
            have hr := ev_real hE x hne
            obtain ⟨vs, h1, h2, h3⟩ := compParts_sound P hE place r l' (.agg (splice zi off us)) v (V.reals ρ κ (splice zi off us)) hl' hv rfl
            refine ⟨vs, h1, ?_, fun m' hm hcl => h3 m' ?_ hcl⟩
            · rw [hr, fill_step place i off us.length hp _ (V.reals ρ κ us) hcells (by simp [V.reals_map]) _ (by simp [V.reals_map]; omega), ← h2]
              congr 1
              simp [V.reals_map, splice_map]
            · intro b hb
              obtain ⟨u, hu, hb⟩ := V.mem_refsL.1 hb
              simp only [splice, List.mem_append] at hu
              rcases hu with (hu | hu) | hu
              · exact hm b (V.mem_refsL.2 ⟨u, List.mem_of_mem_take hu, hb⟩)
              · exact ev_cl hcl x b ((hrefs b).1 (V.mem_refsL.2 ⟨u, hu, hb⟩))
              · exact hm b (V.mem_refsL.2 ⟨u, List.mem_of_mem_drop hu, hb⟩)
          · cases hv
        · cases hv
      | _ => simp [vfill] at hv
    · cases hc

theorem allInts_sound (k : IntKind) : ∀ (l : List Value) (ns : List Int), allInts k l = some ns → l = intVals k ns
  | [], ns, h => by simp [allInts] at h; subst h; rfl
  | v :: r, ns, h => by
    unfold allInts at h
    split at h
    · rename_i heq; cases heq
    · rename_i k' n r' heq
      cases heq
      split at h
      · rename_i hk
        subst hk
        split at h
        · rename_i ms hms
          cases h
          rw [allInts_sound k _ _ hms]
          rfl
        · cases h
      · cases h
    · cases h

theorem reals_ofConst (ρ κ) (l : List Value) : V.reals ρ κ (l.map V.ofConst) = l := by
  rw [V.reals_map, List.map_map]
  conv => rhs; rw [← List.map_id l]
  apply List.map_congr_left
  intro v _
  exact V.real_ofConst ρ κ v

theorem refsL_ofConst (l : List Value) : V.refsL (l.map V.ofConst) = [] := by
  apply List.eq_nil_iff_forall_not_mem.2
  intro b hb
  obtain ⟨u, hu, hb⟩ := V.mem_refsL.1 hb
  obtain ⟨x, _, rfl⟩ := List.mem_map.1 hu
  rw [V.refs_ofConst] at hb
  cases hb

theorem real_ofZero (ρ κ) (arr : Bool) (z : Value) : (V.ofZero arr z).real ρ κ = z ∧ (V.ofZero arr z).refs = [] := by
  unfold V.ofZero
  split
  · rename_i cs
    split
    · rename_i k m r hcs
      split
      · rename_i ns hns
        refine ⟨?_, rfl⟩
        simp only [V.real, Value.agg.injEq]
        apply Array.ext'
        simp only [hcs]
        have := allInts_sound k _ _ hns
        rw [this]
        simp [intVals]
      · refine ⟨?_, refsL_ofConst _⟩
        simp only [V.real, Value.agg.injEq, reals_ofConst]
        apply Array.ext'
        simp [hcs]
    · refine ⟨?_, refsL_ofConst _⟩
      simp only [V.real, reals_ofConst]
  · exact ⟨V.real_ofConst ρ κ z, V.refs_ofConst z⟩

theorem agg_of_fill {l : List (Nat × Nat × V)} {z v : V} (h : vfill l z = some v) : (∃ zs : List Value, z.real ρ κ = .agg zs.toArray) ∨ (v = z ∧ l = []) := by
  unfold vfill at h
  split at h
  · cases h; exact .inr ⟨rfl, rfl⟩
  · exact .inl ⟨_, rfl⟩
  · exact .inl ⟨_, rfl⟩
  · cases h

theorem fieldPlaces_sound {P : Program} (w : World) : ∀ (fs : List Field) (pl : List (Nat × Nat)), fieldPlaces P fs = some pl →
    (fs.mapM (fun f => (do pure (f.offset, ← sizeOf f.type) : Sem (Nat × Nat)))).run P w = .ok pl w
  | [], pl, h => by simp [fieldPlaces] at h; subst h; rfl
  | f :: r, pl, h => by
    simp only [fieldPlaces] at h
    split at h
    · rename_i sz l hz hl
      cases h
      simp only [List.mapM_cons, Sem.run_bind, sizeT_run hz, Result.andThen_ok, Sem.run_pure, fieldPlaces_sound w r l hl]
    · cases h

theorem q_build (hE : EnvRel ρ κ e n a) (hcl : EnvCl M.length e) (o : Oper) (t : TypeId) (parts : Array (Nat × Operand)) (ho : o.op = .build t parts) (cs : Array Value) (hz : zeroT C.P t = some (.agg cs))
    (place : Nat → Option (Nat × Nat))
    (hplace : (∃ fs pl, C.P.underlying t = some (.struct fs) ∧ fieldPlaces C.P fs.toList = some pl ∧ place = (pl[·]?)) ∨
      (∃ len el sz, C.P.underlying t = some (.array len el) ∧ sizeT C.P el = some sz ∧ place = fun i => some (i * sz, sz)))
    (l : List (Nat × Nat × X)) (hl : compParts C.P parts.toList place = some l) (arr : Bool) (v : V) (h : vfill (l.map fun (o, n, x) => (o, n, x.ev e)) (V.ofZero arr (.agg cs)) = some v) :
    QOut ρ κ M.length w ((execOp a.eval o).run C.P w) v := by
  obtain ⟨hzr, hzc⟩ := real_ofZero ρ κ arr (.agg cs)
  obtain ⟨vs, hv, hf, hvc⟩ := compParts_sound C.P hE place parts.toList l _ v cs.toList hl h (by rw [hzr])
  refine QOut.known ?_ (hvc _ (cl_nil hzc) hcl)
  simp only [execOp, ho]
  refine exec_value ?_
  have hpm : (Array.map (fun x => match x with | (i, x) => (i, a.eval x)) parts).toList = parts.toList.map fun (i, x) => (i, a.eval x) := by simp
  rcases hplace with ⟨fs, pl, hu, hpl, rfl⟩ | ⟨len, el, sz, hu, hsz, rfl⟩
  · simp only [Instr.build, Sem.run_bind, zeroT_run hz, Result.andThen_ok, run_underlying hu, Value.cells]
    have hm : (fs.mapM (fun f => (do pure (f.offset, ← sizeOf f.type) : Sem (Nat × Nat)))).run C.P w = .ok pl.toArray w := by
      rw [← Array.toArray_toList (xs := fs)]
      rw [List.mapM_toArray, Sem.run_map, fieldPlaces_sound w fs.toList pl hpl]
      rfl
    rw [hm]
    simp only [Result.andThen_ok]
    have hf' : Instr.fill (fun x => pl.toArray[x]?) cs (Array.map (fun x => match x with | (i, x) => (i, a.eval x)) parts).toList = some vs.toArray := by
      rw [hpm]
      have : (fun (x : Nat) => pl.toArray[x]?) = fun (x : Nat) => pl[x]? := by funext x; simp
      rw [this]
      simpa using hf
    rw [hf']
    simp [hv]
  · simp only [Instr.build, Sem.run_bind, zeroT_run hz, Result.andThen_ok, run_underlying hu, Value.cells, sizeT_run hsz]
    have hf' : Instr.fill (fun i => some (i * sz, sz)) cs (Array.map (fun x => match x with | (i, x) => (i, a.eval x)) parts).toList = some vs.toArray := by
      rw [hpm]; simpa using hf
    rw [hf']
    simp [hv]

end
end Go.VM
