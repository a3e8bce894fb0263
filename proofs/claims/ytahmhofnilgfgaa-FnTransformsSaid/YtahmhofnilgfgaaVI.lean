/-
  A part of a small machine over the model, or of a walk by it, proved right against the model. Proved outright, under no condition but what each theorem names.
-/
import Derived.Test.YtahmhofnilgfgaaVH
namespace Go.VM
open Go

section
variable {C : Ctx} {ρ : Nat → Nat} {κ : Nat → Option Nat} {M : Mem} {w : World} {e : Env} {n : Nat} {a : Act}

/-- What an operation that writes comes to. -/
def NOut (C : Ctx) (ρ : Nat → Nat) (κ : Nat → Option Nat) (M : Mem) (w : World) (r : Result Next) (v : V) (M' : Mem) : Prop :=
  ∃ (ρ' : Nat → Nat) (κ' : Nat → Option Nat) (w' : World) (x : Value), (r = .ok (.value x) w' ∨ (r = .ok .skip w' ∧ x = Go.undef)) ∧ (v ≠ .undef → x = v.real ρ' κ') ∧ v.cl M'.length ∧
    Rel C ρ' κ' M' w' ∧ M.length ≤ M'.length ∧ Step (fun i => i < M.length) ρ κ M w ρ' κ' M' w'

theorem NOut.of_quiet (hR : Rel C ρ κ M w) {r : Result Next} {v : V} (h : QOut ρ κ M.length w r v) : NOut C ρ κ M w r v M := by
  obtain ⟨x, hr, hv, hc⟩ := h
  exact ⟨ρ, κ, w, x, .inl hr, hv, hc, hR, Nat.le_refl _, Step.refl ..⟩

theorem holds_congr {ρ' : Nat → Nat} {κ' : Nat → Option Nat} {w' : World} {i : Nat} {B : Blk} (h : B.holds ρ κ i w) (hr : ρ' i = ρ i) (hk : κ' i = κ i)
    (hw : B.live (κ i) → w'.heap[ρ i]? = w.heap[ρ i]?) (hrefs : ∀ r ∈ B.refs, ρ' r = ρ r ∧ κ' r = κ r) : B.holds ρ' κ' i w' := by
  cases B with
  | own cs T =>
    obtain ⟨cells, hc, hs, hg⟩ := h
    refine ⟨cells, by rw [hr, hw trivial, hc], hs, fun j v hj hu => ?_⟩
    rw [hg j v hj hu]
    congr 1
    exact V.real_congr v (fun b hb => by
      obtain ⟨h1, h2⟩ := hrefs b (by simp only [Blk.refs]; exact V.mem_refsL.2 ⟨v, List.mem_of_getElem? hj, hb⟩)
      exact ⟨h1.symm, h2.symm⟩)
  | ints k xs T =>
    simp only [Blk.holds] at h ⊢
    rw [hr, hw trivial, h]
  | vec k xs T =>
    rcases h with ⟨hn, hx⟩ | ⟨c, cells, hc, hh, rest⟩
    · exact .inl ⟨by rw [hk, hn], hx⟩
    · exact .inr ⟨c, cells, by rw [hk, hc], by rw [hr, hw (by simp [Blk.live, hc]), hh], rest⟩

theorem getElem?_set_cases (M : Mem) (b i : Nat) (B : Blk) : (M.set b B)[i]? = if b = i then (if i < M.length then some B else none) else M[i]? := by
  rw [List.getElem?_set]
  split
  · rename_i h; subst h; rfl
  · rfl

/-- One block is rewritten. -/
theorem Rel.setBlk (hR : Rel C ρ κ M w) {b : Nat} {B B' : Blk} {cur : Array Value} {T : TypeId} (_hM : M[b]? = some B) (ha : alive κ M b)
    (_hcur : w.heap[ρ b]? = some (.cells cur T (0, 0))) (cs : Array Value) (hk : alive κ (M.set b B') b) (hB : B'.holds ρ κ b (w.setRow (ρ b) cs)) (hc : ∀ r ∈ B'.refs, r < M.length) :
    Rel C ρ κ (M.set b B') (w.setRow (ρ b) cs) ∧ Step (fun i => i < M.length) ρ κ M w ρ κ (M.set b B') (w.setRow (ρ b) cs) := by
  have hb : b < M.length := alive_lt ha
  have hal : ∀ i, alive κ (M.set b B') i ↔ alive κ M i := by
    intro i
    by_cases hi : b = i
    · subst hi; exact ⟨fun _ => ha, fun _ => hk⟩
    · unfold alive; rw [getElem?_set_cases, if_neg hi]
  refine ⟨⟨?_, ?_, ?_, ?_⟩, ⟨rfl, rfl, rfl, by simp, ?_, ?_, fun _ _ => ⟨rfl, rfl⟩⟩⟩
  · intro i B₂ h
    rw [getElem?_set_cases] at h
    by_cases hi : b = i
    · subst hi
      rw [if_pos rfl, if_pos hb] at h
      cases h; exact hB
    · rw [if_neg hi] at h
      exact holds_congr (hR.blk i B₂ h) rfl rfl (fun hx => setRow_other w _ _ cs (fun he => hi (hR.inj i b ((alive_of h).2 hx) ha he).symm)) (fun _ _ => ⟨rfl, rfl⟩)
  · intro i j hi hj he
    exact hR.inj i j ((hal i).1 hi) ((hal j).1 hj) he
  · intro ad v hv
    obtain ⟨h1, h2⟩ := hR.ext ad v hv
    refine ⟨?_, fun i hi => h2 i ((hal i).1 hi)⟩
    rw [World.cell?_of_block (setRow_other w _ _ cs (fun he => h2 b ha he.symm)), h1]
  · intro i B₂ h
    rw [getElem?_set_cases] at h
    simp only [List.length_set]
    by_cases hi : b = i
    · subst hi
      rw [if_pos rfl, if_pos hb] at h
      cases h; exact hc
    · rw [if_neg hi] at h; exact hR.cl i B₂ h
  · intro r _ hn
    exact setRow_other w _ _ cs (fun he => hn b ha he.symm)
  · intro i hi
    exact .inl ⟨i, (hal i).1 hi, rfl⟩

/-- A new block. -/
theorem Rel.newBlk (hR : Rel C ρ κ M w) (B : Blk) (cells : Array Value) (T : TypeId) (c : Option Nat)
    (hB : ∀ ρ' κ', ρ' M.length = w.heap.size → κ' M.length = c → (∀ i, i < M.length → ρ' i = ρ i ∧ κ' i = κ i) → B.holds ρ' κ' M.length (w.alloc (.cells cells T))) (hc : ∀ r ∈ B.refs, r < M.length) :
    ∃ ρ' κ', Rel C ρ' κ' (M ++ [B]) (w.alloc (.cells cells T)) ∧ Step (fun i => i < M.length) ρ κ M w ρ' κ' (M ++ [B]) (w.alloc (.cells cells T)) ∧ ρ' M.length = w.heap.size ∧ κ' M.length = c := by
  refine ⟨fun i => if i = M.length then w.heap.size else ρ i, fun i => if i = M.length then c else κ i, ?_, ?_, by simp, by simp⟩
  all_goals
    have hold : ∀ i, i < M.length → ((fun i => if i = M.length then w.heap.size else ρ i) i = ρ i ∧ (fun i => if i = M.length then c else κ i) i = κ i) := by
      intro i hi
      simp only
      rw [if_neg (by omega), if_neg (by omega)]
      exact ⟨rfl, rfl⟩
    have hal : ∀ i, alive (fun i => if i = M.length then c else κ i) (M ++ [B]) i → i ≠ M.length → alive κ M i := by
      intro i hi hne
      have hl := alive_lt hi
      simp only [List.length_append, List.length_singleton] at hl
      have hi2 : i < M.length := by omega
      have hM : M[i]? = some M[i] := by simp [hi2]
      have hM' : (M ++ [B])[i]? = some M[i] := by rw [List.getElem?_append_left hi2, hM]
      rw [alive_of hM'] at hi
      rw [alive_of hM]
      simpa [hne] using hi
    have hlt : ∀ i, i ≠ M.length → alive κ M i → ρ i < w.heap.size := fun i _ h => hR.lt h
  · refine ⟨?_, ?_, ?_, ?_⟩
    · intro i B₂ h
      by_cases hi : i = M.length
      · subst hi
        rw [List.getElem?_append_right (Nat.le_refl _)] at h
        simp at h
        subst h
        exact hB _ _ (by simp) (by simp) hold
      · have hl : i < M.length := by
          have := (List.getElem?_eq_some_iff.1 h).1
          simp at this; omega
        rw [List.getElem?_append_left hl] at h
        refine holds_congr (hR.blk i B₂ h) (hold i hl).1 (hold i hl).2 (fun hx => heap_alloc_old w _ (hR.lt ((alive_of h).2 hx))) (fun r hr => hold r (hR.cl i B₂ h r hr))
    · intro i j hi hj he
      by_cases hi' : i = M.length
      · by_cases hj' : j = M.length
        · rw [hi', hj']
        · simp only [hi', if_true, if_neg hj'] at he
          have := hlt j hj' (hal j hj hj')
          omega
      · by_cases hj' : j = M.length
        · simp only [hj', if_true, if_neg hi'] at he
          have := hlt i hi' (hal i hi hi')
          omega
        · simp only [if_neg hi', if_neg hj'] at he
          exact hR.inj i j (hal i hi hi') (hal j hj hj') he
    · intro ad v hv
      obtain ⟨h1, h2⟩ := hR.ext ad v hv
      have hlt := World.block_lt_of_cell? w ad h1
      refine ⟨by rw [World.cell?_of_block (heap_alloc_old w _ hlt), h1], fun i hi => ?_⟩
      by_cases hi' : i = M.length
      · simp only [hi', if_true]; omega
      · simp only [if_neg hi']; exact h2 i (hal i hi hi')
    · intro i B₂ h r hr
      simp only [List.length_append, List.length_singleton]
      by_cases hi : i = M.length
      · subst hi
        rw [List.getElem?_append_right (Nat.le_refl _)] at h
        simp at h
        subst h
        have := hc r hr; omega
      · have hl : i < M.length := by
          have := (List.getElem?_eq_some_iff.1 h).1
          simp at this; omega
        rw [List.getElem?_append_left hl] at h
        have := hR.cl i B₂ h r hr; omega
  · refine ⟨rfl, rfl, rfl, by simp, fun r hr _ => heap_alloc_old w _ hr, ?_, hold⟩
    intro i hi
    by_cases hi' : i = M.length
    · exact .inr (by simp [hi'])
    · exact .inl ⟨i, hal i hi hi', by simp [hi']⟩

theorem one_real {v : V} (h : v.one = true) : (v.real ρ κ).oneCell' = true := by
  cases v with
  | vec b n => simp only [V.real]; cases κ b <;> rfl
  | raw u => exact h
  | undef => cases h
  | agg _ => cases h
  | ints _ _ => cases h
  | tup _ => cases h
  | _ => rfl

theorem one_cells {v : V} (h : v.one = true) : (v.real ρ κ).cells = #[v.real ρ κ] := by
  cases v with
  | vec b n => simp only [V.real]; cases κ b <;> rfl
  | raw u => cases u <;> first | rfl | (simp [V.one, Value.oneCell'] at h)
  | undef => cases h
  | agg _ => cases h
  | ints _ _ => cases h
  | tup _ => cases h
  | _ => rfl

theorem exec_unit {P : Program} {s : Sem Unit} {w' : World} (h : s.run P w = .ok () w') :
    ((do s; pure Next.skip) : Sem Next).run P w = .ok .skip w' := by simp [h]

theorem toList_set_splice {α : Type} (cells : Array α) (o : Nat) (vs : List α) : (cells.toList.take (o + 0) ++ vs ++ cells.toList.drop (o + 0 + vs.length)) = splice cells.toList o vs := by
  simp [splice]

/-- the store of a list of cells -/
theorem run_storeVar {P : Program} (t sz : Nat) (hz : sizeT P t = some sz) (g o : Nat) (T : TypeId) (cur : Array Value) (hg : w.heap[g]? = some (.cells cur T (0, 0))) (x : Value) (vs : List Value)
    (hx : x.cells = vs.toArray) (hl : vs.length = sz) (h1 : ∀ v ∈ vs, v.oneCell' = true) (hle : o + sz ≤ cur.size) :
    (storeVar t ⟨g, o, none⟩ x).run P w = .ok () (w.setRow g (splice cur.toList o vs).toArray) := by
  have hst := run_storeCells_at P g o T vs 0 cur w hg (by omega) h1
  rw [toList_set_splice] at hst
  simp only [storeVar, Sem.run_bind, sizeT_run hz, Result.andThen_ok, hx]
  rw [if_neg (by simp [hl])]
  simpa using hst

theorem reals_getElem? (vs : List V) (j : Nat) : (V.reals ρ κ vs)[j]? = (vs[j]?).map (V.real ρ κ) := by rw [V.reals_map, List.getElem?_map]

theorem splice_getElem? {α : Type} (xs : List α) (o : Nat) (ys : List α) (h : o + ys.length ≤ xs.length) (j : Nat) :
    (splice xs o ys)[j]? = if o ≤ j ∧ j < o + ys.length then ys[j - o]? else xs[j]? := by
  unfold splice
  by_cases h1 : j < o
  · rw [if_neg (by omega), List.append_assoc, List.getElem?_append_left (by simp; omega), List.getElem?_take, if_pos h1]
  · by_cases h2 : j < o + ys.length
    · rw [if_pos (by omega), List.append_assoc, List.getElem?_append_right (by simp; omega), List.getElem?_append_left (by simp; omega)]
      congr 1
      simp
      omega
    · rw [if_neg (by omega), List.getElem?_append_right (by simp; omega), List.getElem?_drop]
      congr 1
      simp
      omega

theorem n_st (hR : Rel C ρ κ M w) (hE : EnvRel ρ κ e n a) (hcl : EnvCl M.length e) (o : Oper) (t : TypeId) (x y : Operand) (ho : o.op = .store t x y) (sz : Nat) (hz : sizeT C.P t = some sz)
    (b off : Nat) (hx : (compX x).ev e = .ptr b off) (M' : Mem) (h : M.put b off sz ((compX y).ev e) = some M') :
    NOut C ρ κ M w ((execOp a.eval o).run C.P w) .undef M' := by
  have hrx := ev_real hE x (by rw [hx]; simp)
  rw [hx] at hrx
  simp only [V.real] at hrx
  have fin : ∀ (cur : Array Value) (T : TypeId) (vs : List Value) (B B' : Blk), M[b]? = some B → alive κ M b → w.heap[ρ b]? = some (.cells cur T (0, 0)) → (a.eval y).cells = vs.toArray → vs.length = sz →
      (∀ v ∈ vs, v.oneCell' = true) → off + sz ≤ cur.size → M' = M.set b B' → alive κ (M.set b B') b → B'.holds ρ κ b (w.setRow (ρ b) (splice cur.toList off vs).toArray) → (∀ r ∈ B'.refs, r < M.length) →
      NOut C ρ κ M w ((execOp a.eval o).run C.P w) .undef M' := by
    intro cur T vs B B' hM ha hcur hcells hl h1 hle hM' hk hB hc
    subst hM'
    obtain ⟨hR', hS⟩ := hR.setBlk hM ha hcur (splice cur.toList off vs).toArray hk hB hc
    refine ⟨ρ, κ, _, Go.undef, .inr ⟨?_, rfl⟩, fun hu => absurd rfl hu, V.cl_undef, hR', by simp, hS⟩
    simp only [execOp, ho, hrx]
    refine exec_unit ?_
    simp only [Instr.storeAt, Instr.sureAddr, Sem.run_bind, Sem.run_pure, Result.andThen_ok]
    exact run_storeVar t sz hz (ρ b) off T cur hcur _ vs hcells hl h1 hle
  unfold Mem.put at h
  split at h
  · rename_i cs T hM
    have hblk := hR.blk b _ hM
    obtain ⟨cells, hc, hs, hg⟩ := hblk
    have ha : alive κ M b := (alive_of hM).2 trivial
    have hlen : b < M.length := alive_lt ha
    have hal : ∀ B', (∃ cs' T', B' = Blk.own cs' T') → alive κ (M.set b B') b := by
      rintro _ ⟨cs', T', rfl⟩
      refine (alive_of (B := .own cs' T') (by rw [getElem?_set_cases, if_pos rfl, if_pos hlen])).2 trivial
    split at h
    · rename_i hcond
      obtain ⟨rfl, hone, hlt⟩ := hcond
      cases h
      have hry := ev_real hE y (by rintro hu; rw [hu] at hone; cases hone)
      refine fin cells T [((compX y).ev e).real ρ κ] _ _ hM ha hc (by rw [hry, one_cells hone]) rfl (by simpa using one_real hone) (by omega) rfl (hal _ ⟨_, _, rfl⟩) ?_ ?_
      · refine ⟨_, setRow_heap w _ _ _ _ _ hc, by simp [splice, hs]; omega, ?_⟩
        intro j v hj hu
        rw [List.getElem?_toArray, splice_one _ _ _ (by simp; omega), List.getElem?_set]
        rw [List.getElem?_set] at hj
        split
        · rename_i hoj
          rw [if_pos hoj, if_pos (by omega)] at hj
          cases hj
          rw [if_pos (by simp; omega)]
        · rename_i hoj
          rw [if_neg hoj] at hj
          simpa using hg j v hj hu
      · intro r hr
        obtain ⟨u, hu, hr⟩ := V.mem_refsL.1 hr
        rcases List.mem_or_eq_of_mem_set hu with hu | rfl
        · exact hR.cl b _ hM r (V.mem_refsL.2 ⟨u, hu, hr⟩)
        · exact ev_cl hcl y r hr
    · split at h
      · rename_i vs hvs
        split at h
        · rename_i hcond
          obtain ⟨rfl, hle⟩ := hcond
          cases h
          obtain ⟨hne, hcells, hrefs⟩ := cells_of (ρ := ρ) (κ := κ) hvs
          have hry := ev_real hE y hne
          have hone : ∀ v ∈ vs, v.one = true := by
            unfold V.cells at hvs
            split at hvs
            · split at hvs
              · rename_i hall; cases hvs; exact List.all_eq_true.1 hall
              · cases hvs
            · cases hvs
              intro v hv
              obtain ⟨m, _, rfl⟩ := List.mem_map.1 hv
              rfl
            · split at hvs
              · rename_i h1; cases hvs; simpa using h1
              · cases hvs
          refine fin cells T (V.reals ρ κ vs) _ _ hM ha hc (by rw [hry, hcells]) (by simp [V.reals_map]) ?_ (by omega) rfl (hal _ ⟨_, _, rfl⟩) ?_ ?_
          · intro v hv
            rw [V.reals_map] at hv
            obtain ⟨u, hu, rfl⟩ := List.mem_map.1 hv
            exact one_real (hone u hu)
          · refine ⟨_, setRow_heap w _ _ _ _ _ hc, ?_, ?_⟩
            · simp only [List.size_toArray]
              rw [splice_length _ _ _ (by simp [V.reals_map]; omega), splice_length _ _ _ hle]
              simpa using hs
            · intro j v hj hu
              rw [splice_getElem? _ _ _ hle] at hj
              rw [List.getElem?_toArray, splice_getElem? _ _ _ (by simp [V.reals_map]; omega)]
              simp only [V.reals_map, List.length_map] at *
              split
              · rename_i hr
                rw [if_pos hr] at hj
                simp [hj]
              · rename_i hr
                rw [if_neg hr] at hj
                simpa using hg j v hj hu
          · intro r hr
            obtain ⟨u, hu, hr⟩ := V.mem_refsL.1 hr
            simp only [splice, List.mem_append] at hu
            rcases hu with (hu | hu) | hu
            · exact hR.cl b _ hM r (V.mem_refsL.2 ⟨u, List.mem_of_mem_take hu, hr⟩)
            · exact ev_cl hcl y r ((hrefs r).1 (V.mem_refsL.2 ⟨u, hu, hr⟩))
            · exact hR.cl b _ hM r (V.mem_refsL.2 ⟨u, List.mem_of_mem_drop hu, hr⟩)
        · cases h
      · cases h
  · rename_i k xs T hM
    have hc := hR.blk b _ hM
    have ha : alive κ M b := (alive_of hM).2 trivial
    have hlen : b < M.length := alive_lt ha
    have hal : ∀ B', (∃ k' cs' T', B' = Blk.ints k' cs' T') → alive κ (M.set b B') b := by
      rintro _ ⟨k', cs', T', rfl⟩
      refine (alive_of (B := .ints k' cs' T') (by rw [getElem?_set_cases, if_pos rfl, if_pos hlen])).2 trivial
    split at h
    · rename_i k' m hy
      split at h
      · rename_i hcond
        obtain ⟨rfl, rfl, hlt⟩ := hcond
        cases h
        have hry := ev_real hE y (by rw [hy]; simp)
        rw [hy] at hry
        refine fin _ T [.int k m] _ _ hM ha hc (by rw [hry]; rfl) rfl (by simp [Value.oneCell']) (by simp [intVals]; omega) rfl (hal _ ⟨_, _, _, rfl⟩) ?_ (by simp [Blk.refs])
        simp only [Blk.holds]
        rw [setRow_heap w _ _ _ _ _ hc, splice_one _ _ _ (by simp [intVals]; omega)]
        simp [intVals, List.map_set]
      · cases h
    · rename_i k' ys hy
      split at h
      · rename_i hcond
        obtain ⟨rfl, rfl, hle⟩ := hcond
        cases h
        have hry := ev_real hE y (by rw [hy]; simp)
        rw [hy] at hry
        refine fin _ T (intVals k ys) _ _ hM ha hc (by rw [hry]; rfl) (by simp [intVals]) (by simp [intVals, Value.oneCell']) (by simp [intVals]; omega) rfl (hal _ ⟨_, _, _, rfl⟩) ?_ (by simp [Blk.refs])
        simp only [Blk.holds]
        rw [setRow_heap w _ _ _ _ _ hc]
        split
        · rename_i h0
          obtain ⟨rfl, hl0⟩ := h0
          congr 3
          simp [splice, intVals, hl0]
        · simp [intVals, splice_map]
      · cases h
    · cases h
  · rename_i k xs T hM
    split at h
    · rename_i k' m hy
      split at h
      · rename_i hcond
        obtain ⟨rfl, rfl, hlt⟩ := hcond
        cases h
        rcases hR.blk b _ hM with ⟨_, hnil⟩ | ⟨c, cells, hk, hc, hl, hm, hs, ht⟩
        · subst hnil; simp at hlt
        have ha : alive κ M b := (alive_of hM).2 (by simp [Blk.live, hk])
        have hlen : b < M.length := alive_lt ha
        have hry := ev_real hE y (by rw [hy]; simp)
        rw [hy] at hry
        refine fin _ T [.int k m] _ _ hM ha hc (by rw [hry]; rfl) rfl (by simp [Value.oneCell']) (by omega) rfl
          ((alive_of (B := .vec k (xs.set off m) T) (by rw [getElem?_set_cases, if_pos rfl, if_pos hlen])).2 (by simp [Blk.live, hk])) ?_ (by simp [Blk.refs])
        refine .inr ⟨c, _, hk, setRow_heap w _ _ _ _ _ hc, by simpa using hl, hm, by simp [splice]; omega, ?_⟩
        rw [splice_one _ _ _ (by simp; omega)]
        simp only [List.length_set]
        rw [List.take_set, ht]
        simp [intVals, List.map_set]
      · cases h
    · cases h
  · cases h

end
end Go.VM
