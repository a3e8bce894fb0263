/-
  The operations of the small machine are sound for those of the model: arithmetic, tests, new cells. No condition but what each theorem names.
-/
import Derived.Test.YtahmhofnilgfgaaDoorVEtoVG3
import Derived.Laws.MakeOwn
set_option linter.unusedVariables false
set_option linter.unusedSimpArgs false
section
namespace Go.VM
open Go

section
variable {C : Ctx} {ρ : Nat → Nat} {κ : Nat → Option Nat} {M : Mem} {w : World} {e : Env} {n : Nat} {a : Act}

/-- Does it leave memory alone? -/
def VI.quiet : VI → Bool
  | .st .. | .alloc _ | .box .. | .bsl .. | .mks .. => false
  | _ => true

theorem vop_quiet {vi : VI} (hq : vi.quiet = true) {v : V} {M' : Mem} (h : vop C e M vi = some (v, M')) : M' = M := by
  cases vi <;> first | (simp only [VI.quiet, Bool.false_eq_true] at hq; done) | (simp only [vop] at h; (repeat' split at h) <;> first | (cases h; rfl) | cases h)

theorem quiet_sound (hR : Rel C ρ κ M w) (hE : EnvRel ρ κ e n a) (hcl : EnvCl M.length e) (o : Oper) (vi : VI) (hc : compOp C.P o.op = some vi) (hq : vi.quiet = true)
    (v : V) (M' : Mem) (h : vop C e M vi = some (v, M')) : QOut ρ κ M.length w ((execOp a.eval o).run C.P w) v := by
  cases hop : o.op with
  | move x =>
    rw [hop] at hc; cases hc
    simp only [vop, Option.some.injEq, Prod.mk.injEq] at h
    rw [← h.1]; exact q_mov hE hcl o x (.inl hop)
  | assign x =>
    rw [hop] at hc; cases hc
    simp only [vop, Option.some.injEq, Prod.mk.injEq] at h
    rw [← h.1]; exact q_mov hE hcl o x (.inr hop)
  | pick c x y =>
    rw [hop] at hc; cases hc
    simp only [vop] at h
    split at h
    · rename_i t ht
      cases h
      exact q_pick hE hcl o c x y hop t ht
    · cases h
  | nilCheck x => rw [hop] at hc; cases hc; exact (q_nilck hE hcl o x hop v M' h).2
  | binOp op t x y t' =>
    rw [hop] at hc; simp only [compOp] at hc
    split at hc
    · rename_i p neg z hz
      cases hc
      simp only [vop] at h
      split at h
      · rename_i b hb; cases h; exact q_isnil hE o op t t' x y z p neg hop hz b hb
      · cases h
    split at hc
    · rename_i neg z hz
      cases hc
      simp only [vop] at h
      split at h
      · rename_i b hb; cases h; exact q_isnils hR hE o op t t' x y z neg hop hz b hb
      · cases h
    · cases hc
      simp only [vop] at h
      split at h
      · rename_i u hu; cases h; exact q_bin hE o op t t' x y hop _ hu
      · cases h
  | unOp op t x =>
    rw [hop] at hc; cases hc
    simp only [vop] at h
    split at h
    · rename_i u hu; cases h; exact q_un hE o op t x hop _ hu
    · cases h
  | convert src dst x =>
    rw [hop] at hc; simp only [compOp] at hc
    split at hc
    · rename_i d k hs hd
      cases hc
      simp only [vop] at h
      split at h
      · rename_i k' m hx; cases h; exact q_conv hE o src dst x hop d k hs hd k' m hx
      · cases h
    · rename_i el hs hd
      split at hc
      · rename_i he
        cases hc
        simp only [vop] at h
        split at h
        · rename_i xs hx; cases h; exact q_b2s hR hE o src dst x hop el hs he hd xs hx
        · cases h
      · cases hc
    · cases hc
  | fieldAddr s x f =>
    rw [hop] at hc; simp only [compOp] at hc
    split at hc
    · rename_i fs hs
      split at hc
      · rename_i fd hf
        split at hc
        · rename_i sz hz
          cases hc
          simp only [vop] at h
          split at h
          · rename_i b off hx; cases h; exact q_fld hE hcl o s x f hop fs fd sz hs hf hz b off hx
          · rename_i ad hx; cases h; exact q_fldR hE o s x f hop fs fd sz hs hf hz ad hx
          · cases h
        · cases hc
      · cases hc
    · cases hc
  | indexAddr t x i =>
    rw [hop] at hc; simp only [compOp] at hc
    split at hc
    · rename_i len el hs
      split at hc
      · rename_i sz hz
        cases hc
        simp only [vop] at h
        split at h
        · rename_i u hu; cases h; exact q_idxA hE hcl o t x i hop len el sz hs hz _ hu
        · cases h
      · cases hc
    · rename_i el hs
      split at hc
      · rename_i sz hz
        cases hc
        simp only [vop] at h
        split at h
        · rename_i u hu; cases h; exact q_idxS hR hE hcl o t x i hop el sz hs hz _ hu
        · cases h
      · cases hc
    · cases hc
  | load t x =>
    rw [hop] at hc; simp only [compOp] at hc
    split at hc
    · rename_i sz hg hz
      cases hc
      simp only [vop] at h
      split at h
      · rename_i b off hx
        split at h
        · rename_i u hu; cases h; exact q_ldA hR hE o t x hop _ hg hz b off hx _ hu
        · cases h
      · cases h
    · rename_i hg
      cases hc
      simp only [vop] at h
      split at h
      · rename_i u hv; cases h; exact q_ld hR hE o t x hop hg _ hv
      · cases h
    · cases hc
  | extract x i =>
    rw [hop] at hc; cases hc
    simp only [vop] at h
    split at h
    · rename_i vs hx
      split at h
      · rename_i u hu
        split at h
        · cases h; exact q_tupx hE hcl o x i hop vs hx _ hu
        · cases h
      · cases h
    · cases h
  | field t x f =>
    rw [hop] at hc; simp only [compOp] at hc
    split at hc
    · rename_i fs hs
      split at hc
      · rename_i fd hf
        split at hc
        · rename_i g sz hg hz
          cases hc
          simp only [vop] at h
          split at h
          · rename_i u hu
            split at h
            · cases h; exact q_part hE hcl o t x f hop fs fd g sz hs hf hg hz _ hu
            · cases h
          · cases h
        · cases hc
      · cases hc
    · cases hc
  | index t x i =>
    rw [hop] at hc; simp only [compOp] at hc
    split at hc
    · rename_i len el hs
      split at hc
      · rename_i g sz hg hz
        cases hc
        simp only [vop] at h
        split at h
        · rename_i u hu
          split at h
          · cases h; exact q_idxV hE hcl o t x i hop len el g sz hs hg hz _ hu
          · cases h
        · cases h
      · cases hc
    · rename_i hs
      cases hc
      simp only [vop] at h
      split at h
      · rename_i u hu; cases h; exact q_idxStr hE o t x i hop hs _ hu
      · cases h
    · cases hc
  | build t parts =>
    rw [hop] at hc; simp only [compOp] at hc
    split at hc
    · rename_i z fs hz hs
      split at hc
      · rename_i pl hpl
        split at hc
        · rename_i l hl
          cases hc
          simp only [vop] at h
          split at h
          · rename_i u hu
            cases h
            exact q_build hE hcl o t parts hop z hz _ (.inl ⟨fs, pl, hs, hpl, rfl⟩) l hl false _ hu
          · cases h
        · cases hc
      · cases hc
    · rename_i z len el hz hs
      split at hc
      · rename_i sz hsz
        split at hc
        · rename_i l hl
          cases hc
          simp only [vop] at h
          split at h
          · rename_i u hu
            cases h
            exact q_build hE hcl o t parts hop z hz _ (.inr ⟨len, el, sz, hs, hsz, rfl⟩) l hl true _ hu
          · cases h
        · cases hc
      · cases hc
    · cases hc
  | slice t x lo hi mx =>
    rw [hop] at hc; simp only [compOp] at hc
    split at hc
    · rename_i len el hs
      split at hc
      · rename_i sz hz
        cases hc
        simp only [vop] at h
        split at h
        · rename_i u hu; cases h; exact q_slc hE hcl o t x lo hi mx hop len el sz hs hz _ hu
        · cases h
      · cases hc
    · rename_i el hs
      split at hc
      · rename_i sz hz
        cases hc
        simp only [vop] at h
        split at h
        · rename_i u hu; cases h; exact q_slcS hE hcl o t x lo hi mx hop el sz hs hz _ hu
        · cases h
      · cases hc
    · cases hc
  | makeFunc fn first cap =>
    rw [hop] at hc
    cases fn with
    | func f =>
      simp only [compOp] at hc
      split at hc
      · rename_i hfirst
        cases hc
        simp only [vop] at h
        split at h
        · rename_i hk; cases h; exact q_mkfn hE hcl o f first cap hfirst hop hk
        · cases h
      · cases hc
    | _ => cases hc
  | call c =>
    rw [hop] at hc
    unfold compOp at hc
    split at hc <;> try (rename_i heq; cases heq; done)
    · rename_i args ts heq
      cases heq
      split at hc
      · rename_i x t hargs hts
        have ha : args = #[x] := by apply Array.ext'; simpa using hargs
        have ht : ts = #[t] := by apply Array.ext'; simpa using hts
        subst ha; subst ht
        split at hc
        · rename_i el hs
          cases hc
          simp only [vop] at h
          split at h
          · rename_i u hu; cases h; exact q_len hR hE o x t el hop hs _ hu
          · cases h
        · rename_i hs
          cases hc
          simp only [vop] at h
          split at h
          · rename_i s hx; cases h; exact q_lenS hE o x t hop hs s hx
          · cases h
        · rename_i len el hs
          cases hc
          simp only [vop, X.ev, Option.some.injEq, Prod.mk.injEq] at h
          rw [← h.1]
          exact q_lenA o x t len el hop hs
        · cases hc
      · cases hc
    · rename_i args ts heq
      cases heq
      split at hc
      · rename_i x y hargs
        have ha : args = #[x, y] := by apply Array.ext'; simpa using hargs
        subst ha
        cases hc
        simp only [vop] at h
        split at h
        · rename_i u hu; cases h; exact q_mm hE o true x y ts hop _ hu
        · cases h
      · cases hc
    · rename_i args ts heq
      cases heq
      split at hc
      · rename_i x y hargs
        have ha : args = #[x, y] := by apply Array.ext'; simpa using hargs
        subst ha
        cases hc
        simp only [vop] at h
        split at h
        · rename_i u hu; cases h; exact q_mm hE o false x y ts hop _ hu
        · cases h
      · cases hc
    · cases hc
  | makeInterface t x =>
    rw [hop] at hc; simp only [compOp] at hc
    split at hc
    · cases hc
    · rename_i d hni hd
      cases hc
      simp only [vop] at h
      split at h
      · rename_i hk
        cases h
        exact q_mkif hE hcl o t x hop _ hd (fun ms he => hni ms he) hk
      · cases h
    · cases hc
  | typeAssert x s t ok =>
    rw [hop] at hc
    cases ok with
    | false => simp only [compOp] at hc; cases hc
    | true =>
      simp only [compOp] at hc
      split at hc
      · cases hc
      · rename_i d z hni hd hz
        cases hc
        simp only [vop] at h
        split at h
        · rename_i u hu; cases h; exact q_tas hE hcl o s t x hop _ hd (fun ms he => hni ms he) z hz _ hu
        · cases h
      · cases hc
  | buildSlice t len parts =>
    rw [hop] at hc; simp only [compOp] at hc
    repeat' split at hc
    all_goals first | (cases hc; cases hq) | cases hc
  | makeSlice t l c =>
    rw [hop] at hc; simp only [compOp] at hc
    repeat' split at hc
    all_goals first | (cases hc; cases hq) | cases hc
  | alloc t =>
    rw [hop] at hc; simp only [compOp] at hc
    repeat' split at hc
    all_goals first | (cases hc; cases hq) | cases hc
  | box t x => rw [hop] at hc; cases hc; cases hq
  | store t x y =>
    rw [hop] at hc; simp only [compOp] at hc
    split at hc
    · cases hc; cases hq
    · cases hc
  | _ => rw [hop] at hc; cases hc

end
end Go.VM
end

section
namespace Go.VM
open Go

section
variable {C : Ctx} {ρ : Nat → Nat} {κ : Nat → Option Nat} {M : Mem} {w : World} {e : Env} {n : Nat} {a : Act}

/-- What an operation that writes comes to. -/
def NOut (C : Ctx) (ρ : Nat → Nat) (κ : Nat → Option Nat) (M : Mem) (w : World) (r : Result Next) (v : V) (M' : Mem) : Prop :=
  ∃ (ρ' : Nat → Nat) (κ' : Nat → Option Nat) (w' : World) (x : Value), (r = .ok (.value x) w' ∨ (r = .ok .skip w' ∧ x = Go.undef)) ∧ (v ≠ .undef → x = v.real ρ' κ') ∧ v.cl M'.length ∧
    Rel C ρ' κ' M' w' ∧ M.length ≤ M'.length ∧ Step (fun i => i < M.length) ρ κ M w ρ' κ' M' w'

theorem NOut.of_quiet (hR : Rel C ρ κ M w) {r : Result Next} {v : V} (h : QOut ρ κ M.length w r v) : NOut C ρ κ M w r v M := by
  obtain ⟨x, hr, hv, hc⟩ := h
  exact ⟨ρ, κ, w, x, .inl hr, hv, hc, hR, Nat.le_refl _, Step.refl ..⟩

theorem holds_congr {ρ' : Nat → Nat} {κ' : Nat → Option Nat} {w' : World} {i : Nat} {B : Blk} (h : B.holds ρ κ i w) (hr : ρ' i = ρ i) (hk : κ' i = κ i)
    (hw : B.live (κ i) → w'.heap[ρ i]? = w.heap[ρ i]?) (hrefs : ∀ r ∈ B.refs, ρ' r = ρ r ∧ κ' r = κ r) : B.holds ρ' κ' i w' := by
  cases B with
  | own cs T =>
    obtain ⟨cells, hc, hs, hg⟩ := h
    refine ⟨cells, by rw [hr, hw trivial, hc], hs, fun j v hj hu => ?_⟩
    rw [hg j v hj hu]
    congr 1
    exact V.real_congr v (fun b hb => by
      obtain ⟨h1, h2⟩ := hrefs b (by simp only [Blk.refs]; exact V.mem_refsL.2 ⟨v, List.mem_of_getElem? hj, hb⟩)
      exact ⟨h1.symm, h2.symm⟩)
  | ints k xs T =>
    simp only [Blk.holds] at h ⊢
    rw [hr, hw trivial, h]
  | vec k xs T =>
    rcases h with ⟨hn, hx⟩ | ⟨c, cells, hc, hh, rest⟩
    · exact .inl ⟨by rw [hk, hn], hx⟩
    · exact .inr ⟨c, cells, by rw [hk, hc], by rw [hr, hw (by simp [Blk.live, hc]), hh], rest⟩

theorem getElem?_set_cases (M : Mem) (b i : Nat) (B : Blk) : (M.set b B)[i]? = if b = i then (if i < M.length then some B else none) else M[i]? := by
  rw [List.getElem?_set]
  split
  · rename_i h; subst h; rfl
  · rfl

/-- One block is rewritten. -/
theorem Rel.setBlk (hR : Rel C ρ κ M w) {b : Nat} {B B' : Blk} {cur : Array Value} {T : TypeId} (_hM : M[b]? = some B) (ha : alive κ M b)
    (_hcur : w.heap[ρ b]? = some (.cells cur T (0, 0))) (cs : Array Value) (hk : alive κ (M.set b B') b) (hB : B'.holds ρ κ b (w.setRow (ρ b) cs)) (hc : ∀ r ∈ B'.refs, r < M.length) :
    Rel C ρ κ (M.set b B') (w.setRow (ρ b) cs) ∧ Step (fun i => i < M.length) ρ κ M w ρ κ (M.set b B') (w.setRow (ρ b) cs) := by
  have hb : b < M.length := alive_lt ha
  have hal : ∀ i, alive κ (M.set b B') i ↔ alive κ M i := by
    intro i
    by_cases hi : b = i
    · subst hi; exact ⟨fun _ => ha, fun _ => hk⟩
    · unfold alive; rw [getElem?_set_cases, if_neg hi]
  refine ⟨⟨?_, ?_, ?_, ?_⟩, ⟨rfl, rfl, rfl, by simp, ?_, ?_, fun _ _ => ⟨rfl, rfl⟩⟩⟩
  · intro i B₂ h
    rw [getElem?_set_cases] at h
    by_cases hi : b = i
    · subst hi
      rw [if_pos rfl, if_pos hb] at h
      cases h; exact hB
    · rw [if_neg hi] at h
      exact holds_congr (hR.blk i B₂ h) rfl rfl (fun hx => setRow_other w _ _ cs (fun he => hi (hR.inj i b ((alive_of h).2 hx) ha he).symm)) (fun _ _ => ⟨rfl, rfl⟩)
  · intro i j hi hj he
    exact hR.inj i j ((hal i).1 hi) ((hal j).1 hj) he
  · intro ad v hv
    obtain ⟨h1, h2⟩ := hR.ext ad v hv
    refine ⟨?_, fun i hi => h2 i ((hal i).1 hi)⟩
    rw [World.cell?_of_block (setRow_other w _ _ cs (fun he => h2 b ha he.symm)), h1]
  · intro i B₂ h
    rw [getElem?_set_cases] at h
    simp only [List.length_set]
    by_cases hi : b = i
    · subst hi
      rw [if_pos rfl, if_pos hb] at h
      cases h; exact hc
    · rw [if_neg hi] at h; exact hR.cl i B₂ h
  · intro r _ hn
    exact setRow_other w _ _ cs (fun he => hn b ha he.symm)
  · intro i hi
    exact .inl ⟨i, (hal i).1 hi, rfl⟩

/-- A new block. -/
theorem Rel.newBlk (hR : Rel C ρ κ M w) (B : Blk) (cells : Array Value) (T : TypeId) (c : Option Nat)
    (hB : ∀ ρ' κ', ρ' M.length = w.heap.size → κ' M.length = c → (∀ i, i < M.length → ρ' i = ρ i ∧ κ' i = κ i) → B.holds ρ' κ' M.length (w.alloc (.cells cells T))) (hc : ∀ r ∈ B.refs, r < M.length) :
    ∃ ρ' κ', Rel C ρ' κ' (M ++ [B]) (w.alloc (.cells cells T)) ∧ Step (fun i => i < M.length) ρ κ M w ρ' κ' (M ++ [B]) (w.alloc (.cells cells T)) ∧ ρ' M.length = w.heap.size ∧ κ' M.length = c := by
  refine ⟨fun i => if i = M.length then w.heap.size else ρ i, fun i => if i = M.length then c else κ i, ?_, ?_, by simp, by simp⟩
  all_goals
    have hold : ∀ i, i < M.length → ((fun i => if i = M.length then w.heap.size else ρ i) i = ρ i ∧ (fun i => if i = M.length then c else κ i) i = κ i) := by
      intro i hi
      simp only
      rw [if_neg (by omega), if_neg (by omega)]
      exact ⟨rfl, rfl⟩
    have hal : ∀ i, alive (fun i => if i = M.length then c else κ i) (M ++ [B]) i → i ≠ M.length → alive κ M i := by
      intro i hi hne
      have hl := alive_lt hi
      simp only [List.length_append, List.length_singleton] at hl
      have hi2 : i < M.length := by omega
      have hM : M[i]? = some M[i] := by simp [hi2]
      have hM' : (M ++ [B])[i]? = some M[i] := by rw [List.getElem?_append_left hi2, hM]
      rw [alive_of hM'] at hi
      rw [alive_of hM]
      simpa [hne] using hi
    have hlt : ∀ i, i ≠ M.length → alive κ M i → ρ i < w.heap.size := fun i _ h => hR.lt h
  · refine ⟨?_, ?_, ?_, ?_⟩
    · intro i B₂ h
      by_cases hi : i = M.length
      · subst hi
        rw [List.getElem?_append_right (Nat.le_refl _)] at h
        simp at h
        subst h
        exact hB _ _ (by simp) (by simp) hold
      · have hl : i < M.length := by
          have := (List.getElem?_eq_some_iff.1 h).1
          simp at this; omega
        rw [List.getElem?_append_left hl] at h
        refine holds_congr (hR.blk i B₂ h) (hold i hl).1 (hold i hl).2 (fun hx => heap_alloc_old w _ (hR.lt ((alive_of h).2 hx))) (fun r hr => hold r (hR.cl i B₂ h r hr))
    · intro i j hi hj he
      by_cases hi' : i = M.length
      · by_cases hj' : j = M.length
        · rw [hi', hj']
        · simp only [hi', if_true, if_neg hj'] at he
          have := hlt j hj' (hal j hj hj')
          omega
      · by_cases hj' : j = M.length
        · simp only [hj', if_true, if_neg hi'] at he
          have := hlt i hi' (hal i hi hi')
          omega
        · simp only [if_neg hi', if_neg hj'] at he
          exact hR.inj i j (hal i hi hi') (hal j hj hj') he
    · intro ad v hv
      obtain ⟨h1, h2⟩ := hR.ext ad v hv
      have hlt := World.block_lt_of_cell? w ad h1
      refine ⟨by rw [World.cell?_of_block (heap_alloc_old w _ hlt), h1], fun i hi => ?_⟩
      by_cases hi' : i = M.length
      · simp only [hi', if_true]; omega
      · simp only [if_neg hi']; exact h2 i (hal i hi hi')
    · intro i B₂ h r hr
      simp only [List.length_append, List.length_singleton]
      by_cases hi : i = M.length
      · subst hi
        rw [List.getElem?_append_right (Nat.le_refl _)] at h
        simp at h
        subst h
        have := hc r hr; omega
      · have hl : i < M.length := by
          have := (List.getElem?_eq_some_iff.1 h).1
          simp at this; omega
        rw [List.getElem?_append_left hl] at h
        have := hR.cl i B₂ h r hr; omega
  · refine ⟨rfl, rfl, rfl, by simp, fun r hr _ => heap_alloc_old w _ hr, ?_, hold⟩
    intro i hi
    by_cases hi' : i = M.length
    · exact .inr (by simp [hi'])
    · exact .inl ⟨i, hal i hi hi', by simp [hi']⟩

theorem one_real {v : V} (h : v.one = true) : (v.real ρ κ).oneCell' = true := by
  cases v with
  | vec b n => simp only [V.real]; cases κ b <;> rfl
  | raw u => exact h
  | undef => cases h
  | agg _ => cases h
  | ints _ _ => cases h
  | tup _ => cases h
  | _ => rfl

theorem one_cells {v : V} (h : v.one = true) : (v.real ρ κ).cells = #[v.real ρ κ] := by
  cases v with
  | vec b n => simp only [V.real]; cases κ b <;> rfl
  | raw u => cases u <;> first | rfl | (simp [V.one, Value.oneCell'] at h)
  | undef => cases h
  | agg _ => cases h
  | ints _ _ => cases h
  | tup _ => cases h
  | _ => rfl

theorem exec_unit {P : Program} {s : Sem Unit} {w' : World} (h : s.run P w = .ok () w') :
    ((do s; pure Next.skip) : Sem Next).run P w = .ok .skip w' := by simp [h]

theorem toList_set_splice {α : Type} (cells : Array α) (o : Nat) (vs : List α) : (cells.toList.take (o + 0) ++ vs ++ cells.toList.drop (o + 0 + vs.length)) = splice cells.toList o vs := by
  simp [splice]

/-- the store of a list of cells -/
theorem run_storeVar {P : Program} (t sz : Nat) (hz : sizeT P t = some sz) (g o : Nat) (T : TypeId) (cur : Array Value) (hg : w.heap[g]? = some (.cells cur T (0, 0))) (x : Value) (vs : List Value)
    (hx : x.cells = vs.toArray) (hl : vs.length = sz) (h1 : ∀ v ∈ vs, v.oneCell' = true) (hle : o + sz ≤ cur.size) :
    (storeVar t ⟨g, o, none⟩ x).run P w = .ok () (w.setRow g (splice cur.toList o vs).toArray) := by
  have hst := run_storeCells_at P g o T vs 0 cur w hg (by omega) h1
  rw [toList_set_splice] at hst
  simp only [storeVar, Sem.run_bind, sizeT_run hz, Result.andThen_ok, hx]
  rw [if_neg (by simp [hl])]
  simpa using hst

theorem reals_getElem? (vs : List V) (j : Nat) : (V.reals ρ κ vs)[j]? = (vs[j]?).map (V.real ρ κ) := by rw [V.reals_map, List.getElem?_map]

theorem splice_getElem? {α : Type} (xs : List α) (o : Nat) (ys : List α) (h : o + ys.length ≤ xs.length) (j : Nat) :
    (splice xs o ys)[j]? = if o ≤ j ∧ j < o + ys.length then ys[j - o]? else xs[j]? := by
  unfold splice
  by_cases h1 : j < o
  · rw [if_neg (by omega), List.append_assoc, List.getElem?_append_left (by simp; omega), List.getElem?_take, if_pos h1]
  · by_cases h2 : j < o + ys.length
    · rw [if_pos (by omega), List.append_assoc, List.getElem?_append_right (by simp; omega), List.getElem?_append_left (by simp; omega)]
      congr 1
      simp
      omega
    · rw [if_neg (by omega), List.getElem?_append_right (by simp; omega), List.getElem?_drop]
      congr 1
      simp
      omega

theorem n_st (hR : Rel C ρ κ M w) (hE : EnvRel ρ κ e n a) (hcl : EnvCl M.length e) (o : Oper) (t : TypeId) (x y : Operand) (ho : o.op = .store t x y) (sz : Nat) (hz : sizeT C.P t = some sz)
    (b off : Nat) (hx : (compX x).ev e = .ptr b off) (M' : Mem) (h : M.put b off sz ((compX y).ev e) = some M') :
    NOut C ρ κ M w ((execOp a.eval o).run C.P w) .undef M' := by
  have hrx := ev_real hE x (by rw [hx]; simp)
  rw [hx] at hrx
  simp only [V.real] at hrx
  have fin : ∀ (cur : Array Value) (T : TypeId) (vs : List Value) (B B' : Blk), M[b]? = some B → alive κ M b → w.heap[ρ b]? = some (.cells cur T (0, 0)) → (a.eval y).cells = vs.toArray → vs.length = sz →
      (∀ v ∈ vs, v.oneCell' = true) → off + sz ≤ cur.size → M' = M.set b B' → alive κ (M.set b B') b → B'.holds ρ κ b (w.setRow (ρ b) (splice cur.toList off vs).toArray) → (∀ r ∈ B'.refs, r < M.length) →
      NOut C ρ κ M w ((execOp a.eval o).run C.P w) .undef M' := by
    intro cur T vs B B' hM ha hcur hcells hl h1 hle hM' hk hB hc
    subst hM'
    obtain ⟨hR', hS⟩ := hR.setBlk hM ha hcur (splice cur.toList off vs).toArray hk hB hc
    refine ⟨ρ, κ, _, Go.undef, .inr ⟨?_, rfl⟩, fun hu => absurd rfl hu, V.cl_undef, hR', by simp, hS⟩
    simp only [execOp, ho, hrx]
    refine exec_unit ?_
    simp only [Instr.storeAt, Instr.sureAddr, Sem.run_bind, Sem.run_pure, Result.andThen_ok]
    exact run_storeVar t sz hz (ρ b) off T cur hcur _ vs hcells hl h1 hle
  unfold Mem.put at h
  split at h
  · rename_i cs T hM
    have hblk := hR.blk b _ hM
    obtain ⟨cells, hc, hs, hg⟩ := hblk
    have ha : alive κ M b := (alive_of hM).2 trivial
    have hlen : b < M.length := alive_lt ha
    have hal : ∀ B', (∃ cs' T', B' = Blk.own cs' T') → alive κ (M.set b B') b := by
      rintro _ ⟨cs', T', rfl⟩
      refine (alive_of (B := .own cs' T') (by rw [getElem?_set_cases, if_pos rfl, if_pos hlen])).2 trivial
    split at h
    · rename_i hcond
      obtain ⟨rfl, hone, hlt⟩ := hcond
      cases h
      have hry := ev_real hE y (by rintro hu; rw [hu] at hone; cases hone)
      refine fin cells T [((compX y).ev e).real ρ κ] _ _ hM ha hc (by rw [hry, one_cells hone]) rfl (by simpa using one_real hone) (by omega) rfl (hal _ ⟨_, _, rfl⟩) ?_ ?_
      · refine ⟨_, setRow_heap w _ _ _ _ _ hc, by simp [splice, hs]; omega, ?_⟩
        intro j v hj hu
        rw [List.getElem?_toArray, splice_one _ _ _ (by simp; omega), List.getElem?_set]
        rw [List.getElem?_set] at hj
        split
        · rename_i hoj
          rw [if_pos hoj, if_pos (by omega)] at hj
          cases hj
          rw [if_pos (by simp; omega)]
        · rename_i hoj
          rw [if_neg hoj] at hj
          simpa using hg j v hj hu
      · intro r hr
        obtain ⟨u, hu, hr⟩ := V.mem_refsL.1 hr
        rcases List.mem_or_eq_of_mem_set hu with hu | rfl
        · exact hR.cl b _ hM r (V.mem_refsL.2 ⟨u, hu, hr⟩)
        · exact ev_cl hcl y r hr
    · split at h
      · rename_i vs hvs
        split at h
        · rename_i hcond
          obtain ⟨rfl, hle⟩ := hcond
          cases h
          obtain ⟨hne, hcells, hrefs⟩ := cells_of (ρ := ρ) (κ := κ) hvs
          have hry := ev_real hE y hne
          have hone : ∀ v ∈ vs, v.one = true := by
            unfold V.cells at hvs
            split at hvs
            · split at hvs
              · rename_i hall; cases hvs; exact List.all_eq_true.1 hall
              · cases hvs
            · cases hvs
              intro v hv
              obtain ⟨m, _, rfl⟩ := List.mem_map.1 hv
              rfl
            · split at hvs
              · rename_i h1; cases hvs; simpa using h1
              · cases hvs
          refine fin cells T (V.reals ρ κ vs) _ _ hM ha hc (by rw [hry, hcells]) (by simp [V.reals_map]) ?_ (by omega) rfl (hal _ ⟨_, _, rfl⟩) ?_ ?_
          · intro v hv
            rw [V.reals_map] at hv
            obtain ⟨u, hu, rfl⟩ := List.mem_map.1 hv
            exact one_real (hone u hu)
          · refine ⟨_, setRow_heap w _ _ _ _ _ hc, ?_, ?_⟩
            · simp only [List.size_toArray]
              rw [splice_length _ _ _ (by simp [V.reals_map]; omega), splice_length _ _ _ hle]
              simpa using hs
            · intro j v hj hu
              rw [splice_getElem? _ _ _ hle] at hj
              rw [List.getElem?_toArray, splice_getElem? _ _ _ (by simp [V.reals_map]; omega)]
              simp only [V.reals_map, List.length_map] at *
              split
              · rename_i hr
                rw [if_pos hr] at hj
                simp [hj]
              · rename_i hr
                rw [if_neg hr] at hj
                simpa using hg j v hj hu
          · intro r hr
            obtain ⟨u, hu, hr⟩ := V.mem_refsL.1 hr
            simp only [splice, List.mem_append] at hu
            rcases hu with (hu | hu) | hu
            · exact hR.cl b _ hM r (V.mem_refsL.2 ⟨u, List.mem_of_mem_take hu, hr⟩)
            · exact ev_cl hcl y r ((hrefs r).1 (V.mem_refsL.2 ⟨u, hu, hr⟩))
            · exact hR.cl b _ hM r (V.mem_refsL.2 ⟨u, List.mem_of_mem_drop hu, hr⟩)
        · cases h
      · cases h
  · rename_i k xs T hM
    have hc := hR.blk b _ hM
    have ha : alive κ M b := (alive_of hM).2 trivial
    have hlen : b < M.length := alive_lt ha
    have hal : ∀ B', (∃ k' cs' T', B' = Blk.ints k' cs' T') → alive κ (M.set b B') b := by
      rintro _ ⟨k', cs', T', rfl⟩
      refine (alive_of (B := .ints k' cs' T') (by rw [getElem?_set_cases, if_pos rfl, if_pos hlen])).2 trivial
    split at h
    · rename_i k' m hy
      split at h
      · rename_i hcond
        obtain ⟨rfl, rfl, hlt⟩ := hcond
        cases h
        have hry := ev_real hE y (by rw [hy]; simp)
        rw [hy] at hry
        refine fin _ T [.int k m] _ _ hM ha hc (by rw [hry]; rfl) rfl (by simp [Value.oneCell']) (by simp [intVals]; omega) rfl (hal _ ⟨_, _, _, rfl⟩) ?_ (by simp [Blk.refs])
        simp only [Blk.holds]
        rw [setRow_heap w _ _ _ _ _ hc, splice_one _ _ _ (by simp [intVals]; omega)]
        simp [intVals, List.map_set]
      · cases h
    · rename_i k' ys hy
      split at h
      · rename_i hcond
        obtain ⟨rfl, rfl, hle⟩ := hcond
        cases h
        have hry := ev_real hE y (by rw [hy]; simp)
        rw [hy] at hry
        refine fin _ T (intVals k ys) _ _ hM ha hc (by rw [hry]; rfl) (by simp [intVals]) (by simp [intVals, Value.oneCell']) (by simp [intVals]; omega) rfl (hal _ ⟨_, _, _, rfl⟩) ?_ (by simp [Blk.refs])
        simp only [Blk.holds]
        rw [setRow_heap w _ _ _ _ _ hc]
        split
        · rename_i h0
          obtain ⟨rfl, hl0⟩ := h0
          congr 3
          simp [splice, intVals, hl0]
        · simp [intVals, splice_map]
      · cases h
    · cases h
  · rename_i k xs T hM
    split at h
    · rename_i k' m hy
      split at h
      · rename_i hcond
        obtain ⟨rfl, rfl, hlt⟩ := hcond
        cases h
        rcases hR.blk b _ hM with ⟨_, hnil⟩ | ⟨c, cells, hk, hc, hl, hm, hs, ht⟩
        · subst hnil; simp at hlt
        have ha : alive κ M b := (alive_of hM).2 (by simp [Blk.live, hk])
        have hlen : b < M.length := alive_lt ha
        have hry := ev_real hE y (by rw [hy]; simp)
        rw [hy] at hry
        refine fin _ T [.int k m] _ _ hM ha hc (by rw [hry]; rfl) rfl (by simp [Value.oneCell']) (by omega) rfl
          ((alive_of (B := .vec k (xs.set off m) T) (by rw [getElem?_set_cases, if_pos rfl, if_pos hlen])).2 (by simp [Blk.live, hk])) ?_ (by simp [Blk.refs])
        refine .inr ⟨c, _, hk, setRow_heap w _ _ _ _ _ hc, by simpa using hl, hm, by simp [splice]; omega, ?_⟩
        rw [splice_one _ _ _ (by simp; omega)]
        simp only [List.length_set]
        rw [List.take_set, ht]
        simp [intVals, List.map_set]
      · cases h
    · cases h
  · cases h

end
end Go.VM
end

section
namespace Go.VM
open Go

section
variable {C : Ctx} {ρ : Nat → Nat} {κ : Nat → Option Nat} {M : Mem} {w : World} {e : Env} {n : Nat} {a : Act}

theorem vbox_ne {T : Nat} {v : V} {B : Blk} (h : vbox T v = some B) : v ≠ .undef := by
  rintro rfl; simp [vbox, V.one] at h

theorem vbox_refs {T : Nat} {v : V} {B : Blk} (h : vbox T v = some B) : ∀ r ∈ B.refs, r ∈ v.refs := by
  unfold vbox at h
  split at h
  · cases h; intro r hr; simp [Blk.refs] at hr
  · split at h
    · cases h; exact fun r hr => hr
    · cases h
  · split at h
    · cases h; intro r hr; simpa [Blk.refs, V.refsL] using hr
    · cases h

theorem vbox_holds {T : Nat} {v : V} {B : Blk} (h : vbox T v = some B) {ρ' : Nat → Nat} {κ' : Nat → Option Nat} {i : Nat} (w' : World)
    (hw : w'.heap[ρ' i]? = some (.cells (v.real ρ' κ').cells T (0, 0))) : B.holds ρ' κ' i w' := by
  unfold vbox at h
  split at h
  · cases h; exact hw
  · rename_i cs
    split at h
    · cases h
      refine ⟨_, hw, by simp [V.real, Value.cells, V.reals_map], fun j u hj _ => ?_⟩
      simp [V.real, Value.cells, V.reals_map, hj]
    · cases h
  · split at h
    · rename_i ho
      cases h
      refine ⟨_, hw, by rw [one_cells ho]; rfl, fun j u hj _ => ?_⟩
      rw [one_cells ho]
      cases j with
      | zero => simp at hj; subst hj; rfl
      | succ j => simp at hj
    · cases h

theorem n_new (hR : Rel C ρ κ M w) (o : Oper) (T : Nat) (v : V) (hv : v.cl M.length) (B : Blk) (hb : vbox T v = some B)
    (hrun : (execOp a.eval o).run C.P w = .ok (.value (.pointer (some ⟨w.heap.size, 0, none⟩))) (w.alloc (.cells (v.real ρ κ).cells T))) :
    NOut C ρ κ M w ((execOp a.eval o).run C.P w) (.ptr M.length 0) (M ++ [B]) := by
  obtain ⟨ρ', κ', hR', hS, hρ, _⟩ := hR.newBlk B (v.real ρ κ).cells T none (fun ρ' κ' hρ _ hold => by
      refine vbox_holds hb _ ?_
      rw [hρ, heap_alloc_new]
      congr 3
      exact V.real_congr v (fun b hb => by obtain ⟨h1, h2⟩ := hold b (hv b hb); exact ⟨h1.symm, h2.symm⟩))
    (fun r hr => hv r (vbox_refs hb r hr))
  refine ⟨ρ', κ', _, _, .inl hrun, fun _ => by simp [V.real, hρ], ?_, hR', by simp, hS⟩
  intro r hr
  simp only [V.refs, List.mem_singleton] at hr
  subst hr
  simp

theorem n_alloc (hR : Rel C ρ κ M w) (o : Oper) (t : TypeId) (ho : o.op = .alloc t) (z : Value) (hz : zeroT C.P t = some z) (arr : Bool) (B : Blk) (hb : vbox t (V.ofZero arr z) = some B) :
    NOut C ρ κ M w ((execOp a.eval o).run C.P w) (.ptr M.length 0) (M ++ [B]) := by
  obtain ⟨hzr, hzc⟩ := real_ofZero ρ κ arr z
  refine n_new hR o t (V.ofZero arr z) (cl_nil hzc) B hb ?_
  simp only [execOp, ho]
  refine exec_value ?_
  simp only [Instr.alloc, Sem.run_bind, zeroT_run hz, Result.andThen_ok]
  simp [newVar, newRow, hzr]

theorem n_box (hR : Rel C ρ κ M w) (hE : EnvRel ρ κ e n a) (hcl : EnvCl M.length e) (o : Oper) (t : TypeId) (x : Operand) (ho : o.op = .box t x) (B : Blk) (hb : vbox t ((compX x).ev e) = some B) :
    NOut C ρ κ M w ((execOp a.eval o).run C.P w) (.ptr M.length 0) (M ++ [B]) := by
  refine n_new hR o t ((compX x).ev e) (ev_cl hcl x) B hb ?_
  simp only [execOp, ho, ev_real hE x (vbox_ne hb)]
  refine exec_value ?_
  simp [Instr.box, newVar, newRow]

theorem run_bsl {P : Program} (t el len sz : Nat) (hs : P.underlying t = some (.slice el)) (hz : sizeT P el = some sz) (hb : len * sz ≤ 16777216) (zs : Array Value) (hzs : zerosOf P el len sz = some zs)
    (ps : Array (Nat × Value)) (cells : Array Value) (hf : Instr.fill (fun i => some (i * sz, sz)) zs ps.toList = some cells) :
    (Instr.buildSlice t len ps).run P w = .ok (.slice (some ⟨w.heap.size, 0, none⟩) len len) (w.alloc (.cells cells el)) := by
  have hb' : ¬ (2 ^ 24 < len * sz) := by omega
  unfold zerosOf at hzs
  by_cases h0 : len * sz = 0
  · rw [if_pos h0] at hzs
    cases hzs
    simp [Instr.buildSlice, run_underlying hs, sizeT_run hz, h0, Array.range_zero', hf, newRow]
  · rw [if_neg h0] at hzs
    split at hzs
    · rename_i z hzt
      cases hzs
      simp [Instr.buildSlice, run_underlying hs, sizeT_run hz, hb', h0, zeroT_run hzt, hf, newRow]
    · cases hzs

theorem zeroRow_real {P : Program} {el : Nat} {zs : Array Value} {z : V} (h : zeroRow P el zs = some z) : z.real ρ κ = .agg zs ∧ z.refs = [] := by
  unfold zeroRow at h
  split at h
  · split at h
    · rename_i k _ ns hns
      cases h
      have := allInts_sound _ _ _ hns
      refine ⟨?_, rfl⟩
      simp only [V.real]
      rw [← this]
    · cases h
  · cases h
    refine ⟨?_, by simp only [V.refs]; exact refsL_ofConst _⟩
    simp only [V.real, reals_ofConst]

theorem n_bsl (hR : Rel C ρ κ M w) (hE : EnvRel ρ κ e n a) (hcl : EnvCl M.length e) (o : Oper) (t : TypeId) (len : Nat) (parts : Array (Nat × Operand)) (ho : o.op = .buildSlice t len parts) (el sz : Nat)
    (hs : C.P.underlying t = some (.slice el)) (hz : sizeT C.P el = some sz) (hb : len * sz ≤ 16777216) (zs : Array Value) (hzs : zerosOf C.P el len sz = some zs) (z : V) (hzr : zeroRow C.P el zs = some z)
    (l : List (Nat × Nat × X)) (hl : compParts C.P parts.toList (fun i => some (i * sz, sz)) = some l) (v : V) (M' : Mem) (h : bslGo M el len (vfill (l.map fun (o, n, x) => (o, n, x.ev e)) z) = some (v, M')) :
    NOut C ρ κ M w ((execOp a.eval o).run C.P w) v M' := by
  obtain ⟨hzv, hzc⟩ := zeroRow_real (ρ := ρ) (κ := κ) hzr
  obtain ⟨u, hu⟩ : ∃ u, vfill (l.map fun (o, n, x) => (o, n, x.ev e)) z = some u := by
    cases hq : vfill (l.map fun (o, n, x) => (o, n, x.ev e)) z with
    | none => rw [hq] at h; simp [bslGo] at h
    | some u => exact ⟨u, rfl⟩
  rw [hu] at h
  obtain ⟨vs, hv, hf, hvc⟩ := compParts_sound C.P hE (fun i => some (i * sz, sz)) parts.toList l z u zs.toList hl hu (by rw [hzv])
  have hpm : (Array.map (fun x => match x with | (i, x) => (i, a.eval x)) parts).toList = parts.toList.map fun (i, x) => (i, a.eval x) := by simp
  have hrun : (execOp a.eval o).run C.P w = .ok (.value (.slice (some ⟨w.heap.size, 0, none⟩) len len)) (w.alloc (.cells vs.toArray el)) := by
    simp only [execOp, ho]
    refine exec_value ?_
    exact run_bsl t el len sz hs hz hb zs hzs _ _ (by rw [hpm]; simpa using hf)
  have huc : ∀ r ∈ u.refs, r < M.length := hvc _ (cl_nil hzc) hcl
  unfold bslGo at h
  split at h
  · rename_i k xs heq
    cases heq
    split at h
    · rename_i hc
      cases h
      obtain ⟨rfl, hm⟩ := hc
      have hvs : vs = intVals k xs := by
        simp only [V.real, Value.agg.injEq] at hv
        simpa using hv.symm
      obtain ⟨ρ', κ', hR', hS, hρ, hκ⟩ := hR.newBlk (.vec k xs el) vs.toArray el (some xs.length) (fun ρ' κ' hρ hκ _ =>
          .inr ⟨xs.length, vs.toArray, hκ, by rw [hρ, heap_alloc_new], Nat.le_refl _, by simp only [maxLen]; omega, by simp [hvs, intVals], by simp [hvs, intVals, List.take_of_length_le]⟩)
        (fun r hr => by simp [Blk.refs] at hr)
      refine ⟨ρ', κ', _, _, .inl hrun, fun _ => by simp [V.real, hρ, hκ], ?_, hR', by simp, hS⟩
      intro r hr
      simp only [V.refs, List.mem_singleton] at hr
      subst hr
      simp
    · cases h
  · rename_i cs heq
    cases heq
    split at h
    · rename_i hc
      cases h
      have hvs : vs = V.reals ρ κ cs := by
        simp only [V.real, Value.agg.injEq] at hv
        simpa using hv.symm
      obtain ⟨ρ', κ', hR', hS, hρ, _⟩ := hR.newBlk (.own cs el) vs.toArray el none (fun ρ' κ' hρ _ hold => by
          refine ⟨vs.toArray, by rw [hρ, heap_alloc_new], by simp [hvs, V.reals_map], fun j v' hj _ => ?_⟩
          rw [hvs]
          simp only [List.getElem?_toArray, V.reals_map, List.getElem?_map, hj, Option.map_some]
          congr 1
          exact V.real_congr v' (fun b hb => by obtain ⟨h1, h2⟩ := hold b (huc b (by simp only [V.refs]; exact V.mem_refsL.2 ⟨v', List.mem_of_getElem? hj, hb⟩)); exact ⟨h1.symm, h2.symm⟩))
        (fun r hr => huc r (by simpa [Blk.refs, V.refs] using hr))
      refine ⟨ρ', κ', _, _, .inl hrun, fun _ => by simp [V.real, hρ], ?_, hR', by simp, hS⟩
      intro r hr
      simp only [V.refs, List.mem_singleton] at hr
      subst hr
      simp
    · cases h
  · cases h

theorem n_mks (hR : Rel C ρ κ M w) (hE : EnvRel ρ κ e n a) (o : Oper) (t : TypeId) (x : Nat) (ho : o.op = .makeSlice t (.tmp x) (.tmp x)) (el : Nat) (k : IntKind)
    (hs : C.P.underlying t = some (.slice el)) (hzi : zeroIs C.P el k = true) (k' : IntKind) (m : Int) (hx : e.get x = .int k' m) (h0 : 0 ≤ m) (hm : m ≤ 16777216) :
    NOut C ρ κ M w ((execOp a.eval o).run C.P w) (.vec M.length m.toNat) (M ++ [.vec k (List.replicate m.toNat 0) el]) := by
  have hr := ev_real hE (.tmp x) (by simp only [compX, X.ev]; rw [hx]; simp)
  simp only [compX, X.ev] at hr
  rw [hx] at hr
  unfold zeroIs at hzi
  split at hzi
  · rename_i i hi
    simp only [Bool.and_eq_true, beq_iff_eq, decide_eq_true_eq] at hzi
    obtain ⟨⟨hz, hsz⟩, hby⟩ := hzi
    obtain ⟨z, hzz, hz0⟩ : ∃ z, i.zero = some z ∧ z = .int k 0 := by
      split at hz
      · rename_i k'' n' hq
        simp only [decide_eq_true_eq] at hz
        obtain ⟨rfl, rfl⟩ := hz
        exact ⟨_, hq, rfl⟩
      · cases hz
    subst hz0
    have hcells : madeCells (Value.int k 0).cells (m.toNat * i.size) = (intVals k (List.replicate m.toNat 0)).toArray := by
      rw [hsz, Nat.mul_one]
      apply Array.ext'
      apply List.ext_getElem?
      intro j
      simp only [madeCells, Array.toList_map, Array.toList_range, List.getElem?_map, intVals]
      by_cases hj : j < m.toNat
      · simp [hj, Value.cells, Nat.mod_one]
      · simp [hj]
    have hrun : (execOp a.eval o).run C.P w = .ok (.value (.slice (some ⟨w.heap.size, 0, none⟩) m.toNat m.toNat)) (w.alloc (.cells (intVals k (List.replicate m.toNat 0)).toArray el)) := by
      simp only [execOp, ho, hr]
      refine exec_value ?_
      rw [← hcells]
      refine run_make (P := C.P) w t el i (.int k 0) hs hi hzz k' k' m m h0 (Int.le_refl _) ?_ (by omega)
      have : (i.bytes : Int) ≤ 8 := by omega
      calc (i.bytes : Int) * m ≤ 8 * m := Int.mul_le_mul_of_nonneg_right this h0
        _ ≤ 281474976710656 := by omega
    obtain ⟨ρ', κ', hR', hS, hρ, hκ⟩ := hR.newBlk (.vec k (List.replicate m.toNat 0) el) (intVals k (List.replicate m.toNat 0)).toArray el (some m.toNat) (fun ρ' κ' hρ hκ _ =>
        .inr ⟨m.toNat, (intVals k (List.replicate m.toNat 0)).toArray, hκ, by rw [hρ, heap_alloc_new], by simp, by simp only [maxLen]; omega, by simp [intVals], by simp [intVals]⟩)
      (fun r hr => by simp [Blk.refs] at hr)
    refine ⟨ρ', κ', _, _, .inl hrun, fun _ => by simp [V.real, hρ, hκ], ?_, hR', by simp, hS⟩
    intro r hr
    simp only [V.refs, List.mem_singleton] at hr
    subst hr
    simp
  · cases hzi

/-- One operation. -/
theorem op_sound (hR : Rel C ρ κ M w) (hE : EnvRel ρ κ e n a) (hcl : EnvCl M.length e) (o : Oper) (vi : VI) (hc : compOp C.P o.op = some vi)
    (v : V) (M' : Mem) (h : vop C e M vi = some (v, M')) : NOut C ρ κ M w ((execOp a.eval o).run C.P w) v M' := by
  by_cases hq : vi.quiet = true
  · have hM := vop_quiet hq h
    subst hM
    exact NOut.of_quiet hR (quiet_sound hR hE hcl o vi hc hq v _ h)
  · cases hop : o.op with
    | store t x y =>
      rw [hop] at hc; simp only [compOp] at hc
      split at hc
      · rename_i sz hz
        cases hc
        simp only [vop] at h
        split at h
        · rename_i b off hx
          split at h
          · rename_i M₂ hp
            cases h
            exact n_st hR hE hcl o t x y hop sz hz b off hx _ hp
          · cases h
        · cases h
      · cases hc
    | alloc t =>
      rw [hop] at hc; simp only [compOp] at hc
      split at hc
      · rename_i z hz
        split at hc
        · rename_i B hb
          cases hc
          simp only [vop] at h
          cases h
          exact n_alloc hR o t hop z hz _ B hb
        · cases hc
      · cases hc
    | box t x =>
      rw [hop] at hc; cases hc
      simp only [vop] at h
      split at h
      · rename_i B hb
        cases h
        exact n_box hR hE hcl o t x hop B hb
      · cases h
    | buildSlice t len parts =>
      rw [hop] at hc; simp only [compOp] at hc
      split at hc
      · rename_i el hs
        split at hc
        · rename_i sz hz
          split at hc
          · rename_i hb
            split at hc
            · rename_i zs hzs
              split at hc
              · rename_i z l hzr hl
                cases hc
                simp only [vop] at h
                exact n_bsl hR hE hcl o t len parts hop el sz hs hz hb zs hzs z hzr l hl v M' h
              · cases hc
            · cases hc
          · cases hc
        · cases hc
      · cases hc
    | makeSlice t l c =>
      rw [hop] at hc; simp only [compOp] at hc
      split at hc
      · rename_i el hs
        split at hc
        · rename_i k p q hk
          split at hc
          · rename_i hpq
            cases hc
            simp only [Bool.and_eq_true, decide_eq_true_eq] at hpq
            obtain ⟨rfl, hzi⟩ := hpq
            simp only [vop, X.ev] at h
            split at h
            · rename_i k' m hx
              split at h
              · rename_i hm
                cases h
                exact n_mks hR hE o t p hop el k hs hzi k' m hx hm.1 hm.2
              · cases h
            · cases h
          · cases hc
        · cases hc
      · cases hc
    | _ =>
      exfalso
      rw [hop] at hc
      simp only [compOp] at hc
      repeat' split at hc
      all_goals first | contradiction | (cases hc; first | contradiction | exact hq rfl) | (cases hc; done)

end
end Go.VM
end
