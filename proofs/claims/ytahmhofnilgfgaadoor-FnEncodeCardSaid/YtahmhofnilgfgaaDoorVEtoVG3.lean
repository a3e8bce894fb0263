/-
  The operations of the small machine are sound for those of the model: loads, stores, parts. No condition but what each theorem names.
-/
import Derived.Test.YtahmhofnilgfgaaDoorVAtoVD
import Derived.Laws.BytesArg
set_option linter.unusedVariables false
set_option linter.unusedSimpArgs false
section
namespace Go.VM
open Go

section
variable {C : Ctx} {ρ : Nat → Nat} {κ : Nat → Option Nat} {M : Mem} {w : World} {e : Env} {n : Nat} {a : Act}

theorem cell_of_block {w : World} {g o : Nat} {cells : Array Value} {T : TypeId} {fr : Nat × Nat} (h : w.heap[g]? = some (.cells cells T fr)) : w.cell? ⟨g, o, none⟩ = cells[o]? :=
  cell_of_row w g o cells T fr h

theorem intVals_get (k : IntKind) (xs : List Int) (o : Nat) : (intVals k xs)[o]? = (xs[o]?).map (Value.int k) := by simp [intVals]

theorem Rel.cell (hR : Rel C ρ κ M w) {b o : Nat} {v : V} (h : M.cell b o = some v) : ∃ x, w.cell? ⟨ρ b, o, none⟩ = some x ∧ (v ≠ .undef → x = v.real ρ κ) := by
  unfold Mem.cell at h
  split at h
  · rename_i cs T hM
    obtain ⟨cells, hc, hs, hg⟩ := hR.blk b _ hM
    rw [cell_of_block hc]
    have ho : o < cells.size := by rw [hs]; exact (List.getElem?_eq_some_iff.1 h).1
    refine ⟨cells[o], by simp [ho], fun hu => ?_⟩
    have := hg o v h hu
    simpa [ho] using this
  · rename_i k xs T hM
    have hc := hR.blk b _ hM
    split at h
    · rename_i m hm
      cases h
      rw [cell_of_block hc]
      exact ⟨.int k m, by simp [intVals, hm], fun _ => rfl⟩
    · cases h
  · rename_i k xs T hM
    split at h
    · rename_i m hm
      cases h
      rcases hR.blk b _ hM with ⟨_, hnil⟩ | ⟨c, cells, hk, hc, hl, _, hs, ht⟩
      · subst hnil; simp at hm
      · rw [cell_of_block hc]
        have ho : o < xs.length := (List.getElem?_eq_some_iff.1 hm).1
        have h2 : (cells.toList.take xs.length)[o]? = (intVals k xs)[o]? := by rw [ht]
        rw [List.getElem?_take, if_pos ho, intVals_get, hm] at h2
        exact ⟨.int k m, by simpa using h2, fun _ => rfl⟩
    · cases h
  · cases h

theorem Rel.cell_cl (hR : Rel C ρ κ M w) {b o : Nat} {v : V} (h : M.cell b o = some v) : v.cl M.length := by
  unfold Mem.cell at h
  split at h
  · rename_i cs T hM
    intro r hr
    exact hR.cl b _ hM r (by simp only [Blk.refs]; exact V.mem_refsL.2 ⟨v, List.mem_of_getElem? h, hr⟩)
  · split at h
    · cases h; exact cl_nil rfl
    · cases h
  · split at h
    · cases h; exact cl_nil rfl
    · cases h
  · cases h

theorem q_ld (hR : Rel C ρ κ M w) (hE : EnvRel ρ κ e n a) (o : Oper) (t : TypeId) (x : Operand) (ho : o.op = .load t x)
    (hg : aggT C.P t = some false) (v : V) (h : vld C M ((compX x).ev e) = some v) :
    QOut ρ κ M.length w ((execOp a.eval o).run C.P w) v := by
  unfold vld at h
  split at h
  · rename_i b off hx
    have hr := ev_real hE x (by rw [hx]; simp)
    rw [hx] at hr
    obtain ⟨y, hy, hyv⟩ := hR.cell h
    refine ⟨y, ?_, hyv, hR.cell_cl h⟩
    simp only [execOp, ho, hr, V.real]
    refine exec_value ?_
    simp only [Instr.loadAt, Instr.sureAddr, Sem.run_bind, Sem.run_pure, Result.andThen_ok, loadVar, aggT_run hg]
    simp [hy]
  · rename_i ad hx
    split at h
    · rename_i u hext
      cases h
      have hr := ev_real hE x (by rw [hx]; simp)
      rw [hx] at hr
      refine QOut.known ?_ (cl_nil (V.refs_ofVal u))
      simp only [execOp, ho, hr, V.real, V.real_ofVal]
      refine exec_value ?_
      simp only [Instr.loadAt, Instr.sureAddr, Sem.run_bind, Sem.run_pure, Result.andThen_ok, loadVar, aggT_run hg]
      simp [(hR.ext _ _ hext).1]
    · cases h
  · cases h

theorem getElem?_drop_take {α : Type} (xs : List α) (o n j : Nat) : ((xs.drop o).take n)[j]? = if j < n then xs[o + j]? else none := by
  rw [List.getElem?_take]
  split
  · rw [List.getElem?_drop]
  · rfl

theorem Rel.range (hR : Rel C ρ κ M w) {b o n : Nat} {v : V} (h : M.range b o n = some v) :
    v.cl M.length ∧ v ≠ .undef ∧ ∃ vs : List Value, v.real ρ κ = .agg vs.toArray ∧ vs.length = n ∧ ∀ (j : Nat) u, vs[j]? = some u → w.cell? ⟨ρ b, o + j, none⟩ = some u := by
  unfold Mem.range at h
  split at h
  · rename_i cs T hM
    split at h
    · rename_i hle
      simp only at h
      split at h
      · rename_i hk
        cases h
        obtain ⟨cells, hc, _, hg⟩ := hR.blk b _ hM
        refine ⟨?_, by simp, V.reals ρ κ ((cs.drop o).take n), rfl, by simp [V.reals_map]; omega, ?_⟩
        · intro r hr
          obtain ⟨u, hu, hr⟩ := V.mem_refsL.1 hr
          exact hR.cl b _ hM r (by simp only [Blk.refs]; exact V.mem_refsL.2 ⟨u, List.mem_of_mem_drop (List.mem_of_mem_take hu), hr⟩)
        · intro j u hj
          rw [V.reals_map, List.getElem?_map] at hj
          cases hq : ((cs.drop o).take n)[j]? with
          | none => rw [hq] at hj; cases hj
          | some q =>
            rw [hq] at hj
            cases hj
            rw [cell_of_block hc]
            have hqk : q.known = true := (List.all_eq_true.1 hk) q (List.mem_of_getElem? hq)
            rw [getElem?_drop_take] at hq
            split at hq
            · exact hg (o + j) q hq (known_ne hqk)
            · cases hq
      · cases h
    · cases h
  · rename_i k xs T hM
    have hc := hR.blk b _ hM
    split at h
    · rename_i hh
      obtain ⟨rfl, rfl⟩ := hh
      cases h
      refine ⟨cl_nil rfl, by simp, intVals k xs, rfl, by simp [intVals], ?_⟩
      intro j u hj
      rw [cell_of_block hc]
      simpa using hj
    · split at h
      · cases h
        refine ⟨cl_nil rfl, by simp, intVals k ((xs.drop o).take n), rfl, by simp [intVals]; omega, ?_⟩
        intro j u hj
        rw [intVals_get, getElem?_drop_take] at hj
        split at hj
        · rw [cell_of_block hc]; simpa [intVals] using hj
        · cases hj
      · cases h
  · rename_i k xs T hM
    split at h
    · rename_i hle
      cases h
      refine ⟨cl_nil rfl, by simp, intVals k ((xs.drop o).take n), rfl, by simp [intVals]; omega, ?_⟩
      intro j u hj
      rw [intVals_get, getElem?_drop_take] at hj
      split at hj
      · rename_i hj2
        rcases hR.blk b _ hM with ⟨_, hnil⟩ | ⟨c, cells, hk, hc, hl, _, hs, ht⟩
        · subst hnil; simp at hj
        · rw [cell_of_block hc]
          have h2 : (cells.toList.take xs.length)[o + j]? = (intVals k xs)[o + j]? := by rw [ht]
          rw [List.getElem?_take, if_pos (by omega), intVals_get, hj] at h2
          simpa using h2
      · cases hj
    · cases h
  · cases h

theorem q_ldA (hR : Rel C ρ κ M w) (hE : EnvRel ρ κ e n a) (o : Oper) (t : TypeId) (x : Operand) (ho : o.op = .load t x) (sz : Nat)
    (hg : aggT C.P t = some true) (hz : sizeT C.P t = some sz) (b off : Nat) (hx : (compX x).ev e = .ptr b off) (v : V) (h : M.range b off sz = some v) :
    QOut ρ κ M.length w ((execOp a.eval o).run C.P w) v := by
  have hr := ev_real hE x (by rw [hx]; simp)
  rw [hx] at hr
  obtain ⟨hc, _, vs, hv, hl, hcells⟩ := hR.range h
  refine QOut.known ?_ hc
  simp only [execOp, ho, hr, V.real]
  refine exec_value ?_
  simp only [Instr.loadAt, Instr.sureAddr, Sem.run_bind, Sem.run_pure, Result.andThen_ok, loadVar, aggT_run hg, if_true, sizeT_run hz]
  subst hl
  rw [run_loadCells_list (P := C.P) w ⟨ρ b, off, none⟩ vs (fun j u hj => by rw [Addr.add_lit]; exact hcells j u hj)]
  simp [hv]

theorem q_tupx (hE : EnvRel ρ κ e n a) (hcl : EnvCl M.length e) (o : Oper) (x : Operand) (i : Nat) (ho : o.op = .extract x i) (vs : List V) (hx : (compX x).ev e = .tup vs) (v : V)
    (h : vs[i]? = some v) : QOut ρ κ M.length w ((execOp a.eval o).run C.P w) v := by
  have hr := ev_real hE x (by rw [hx]; simp)
  have hcx := ev_cl hcl x
  rw [hx] at hr hcx
  refine QOut.known ?_ (fun r hr => hcx r (by simp only [V.refs]; exact V.mem_refsL.2 ⟨v, List.mem_of_getElem? h, hr⟩))
  simp only [execOp, ho, hr, V.real]
  refine exec_value ?_
  simp [Instr.extract, V.reals_map, h]

theorem run_part {P : Program} (w : World) (t : TypeId) (g : Bool) (sz off : Nat) (hg : aggT P t = some g) (hz : sizeT P t = some sz) (x v : V) (vs : List Value)
    (hx : x.real ρ κ = .agg vs.toArray) (h : vpart g off sz x = some v) : (part t vs.toArray off).run P w = .ok (v.real ρ κ) w ∧ (∀ r ∈ v.refs, r ∈ x.refs) := by
  unfold vpart at h
  split at h
  · rename_i k xs
    simp only [V.real, Value.agg.injEq] at hx
    have hvs : vs = intVals k xs := (List.toArray_inj hx).symm
    subst hvs
    cases g with
    | true =>
      simp only [if_true] at h
      split at h
      · cases h
        refine ⟨?_, by simp [V.refs]⟩
        simp only [part, Sem.run_bind, aggT_run hg, Result.andThen_ok, if_true, sizeT_run hz, Sem.run_pure, V.real]
        congr 2
        apply Array.ext'
        simp [intVals, Nat.add_sub_cancel_left]
      · cases h
    | false =>
      simp only [Bool.false_eq_true, if_false] at h
      split at h
      · rename_i m hm
        cases h
        refine ⟨?_, by simp [V.refs]⟩
        simp [part, aggT_run hg, intVals, hm, V.real]
      · cases h
  · rename_i cs
    simp only [V.real, Value.agg.injEq] at hx
    have hvs : vs = V.reals ρ κ cs := (List.toArray_inj hx).symm
    subst hvs
    cases g with
    | true =>
      simp only [if_true] at h
      split at h
      · cases h
        refine ⟨?_, ?_⟩
        · simp only [part, Sem.run_bind, aggT_run hg, Result.andThen_ok, if_true, sizeT_run hz, Sem.run_pure, V.real]
          congr 2
          apply Array.ext'
          simp [V.reals_map, Nat.add_sub_cancel_left]
        · intro r hr
          obtain ⟨u, hu, hr⟩ := V.mem_refsL.1 hr
          exact V.mem_refsL.2 ⟨u, List.mem_of_mem_drop (List.mem_of_mem_take hu), hr⟩
      · cases h
    | false =>
      simp only [Bool.false_eq_true, if_false] at h
      refine ⟨?_, ?_⟩
      · simp [part, aggT_run hg, V.reals_map, h]
      · intro r hr
        exact V.mem_refsL.2 ⟨v, List.mem_of_getElem? h, hr⟩
  · cases h

theorem agg_of_part {g : Bool} {off sz : Nat} {x v : V} (h : vpart g off sz x = some v) : x ≠ .undef ∧ ∃ vs : List Value, x.real ρ κ = .agg vs.toArray := by
  unfold vpart at h
  split at h
  · exact ⟨by simp, _, rfl⟩
  · exact ⟨by simp, _, rfl⟩
  · cases h

theorem q_part (hE : EnvRel ρ κ e n a) (hcl : EnvCl M.length e) (o : Oper) (t : TypeId) (x : Operand) (f : Nat) (ho : o.op = .field t x f) (fs : Array Field) (fd : Field) (g : Bool) (sz : Nat)
    (hs : C.P.underlying t = some (.struct fs)) (hf : fs[f]? = some fd) (hg : aggT C.P fd.type = some g) (hz : sizeT C.P fd.type = some sz) (v : V)
    (h : vpart g fd.offset sz ((compX x).ev e) = some v) : QOut ρ κ M.length w ((execOp a.eval o).run C.P w) v := by
  obtain ⟨hu, vs, hx⟩ := agg_of_part (ρ := ρ) (κ := κ) h
  have hr := ev_real hE x hu
  obtain ⟨hrun, hrefs⟩ := run_part (P := C.P) w fd.type g sz fd.offset hg hz _ v vs hx h
  refine QOut.known ?_ (fun r hr => ev_cl hcl x r (hrefs r hr))
  simp only [execOp, ho, hr, hx]
  refine exec_value ?_
  simp only [Instr.field, Sem.run_bind, run_underlying hs, Result.andThen_ok, hf, asAgg, Sem.run_pure, hrun]

theorem q_idxV (hE : EnvRel ρ κ e n a) (hcl : EnvCl M.length e) (o : Oper) (t : TypeId) (x i : Operand) (ho : o.op = .index t x i) (len el : Nat) (g : Bool) (sz : Nat)
    (hs : C.P.underlying t = some (.array len el)) (hg : aggT C.P el = some g) (hz : sizeT C.P el = some sz) (v : V)
    (h : vidxV g len sz ((compX x).ev e) ((compX i).ev e) = some v) : QOut ρ κ M.length w ((execOp a.eval o).run C.P w) v := by
  unfold vidxV at h
  split at h
  · rename_i k j hi
    split at h
    · rename_i hb
      obtain ⟨hu, vs, hx⟩ := agg_of_part (ρ := ρ) (κ := κ) h
      have hr := ev_real hE x hu
      have hri := ev_real hE i (by rw [hi]; simp)
      rw [hi] at hri
      obtain ⟨hrun, hrefs⟩ := run_part (P := C.P) w el g sz (j.toNat * sz) hg hz _ v vs hx h
      refine QOut.known ?_ (fun r hr => ev_cl hcl x r (hrefs r hr))
      simp only [execOp, ho, hr, hri, hx, V.real]
      refine exec_value ?_
      simp only [Instr.index, asIntOf, Sem.run_bind, Sem.run_pure, Result.andThen_ok, run_underlying hs, hb.1, hb.2, and_self, if_true, sizeT_run hz, hrun]
    · cases h
  · cases h

theorem run_len {P : Program} (o : Oper) (x : Operand) (t : TypeId) (ho : o.op = .call { callee := .builtin .len, args := #[x], argTypes := #[t] }) (xv : Value) (m : Nat)
    (hx : a.eval x = xv) (hrun : (Builtin.len_ #[t] o.type #[xv]).run P w = .ok (.int .i64 m) w) : (execOp a.eval o).run P w = .ok (.value (.int .i64 m)) w := by
  simp only [execOp, ho, resolve, invoke, builtin, Sem.run_bind, Sem.run_pure, Result.andThen_ok, List.map_toArray, List.map_cons, List.map_nil, hx, hrun]

theorem q_len (hR : Rel C ρ κ M w) (hE : EnvRel ρ κ e n a) (o : Oper) (x : Operand) (t el : TypeId)
    (ho : o.op = .call { callee := .builtin .len, args := #[x], argTypes := #[t] }) (hs : C.P.underlying t = some (.slice el))
    (v : V) (h : vlen M ((compX x).ev e) = some v) : QOut ρ κ M.length w ((execOp a.eval o).run C.P w) v := by
  unfold vlen at h
  split at h
  · rename_i b off len cap hx
    cases h
    have hr := ev_real hE x (by rw [hx]; simp)
    rw [hx] at hr
    exact QOut.known (run_len o x t ho _ len hr (by simp [Builtin.len_, run_underlying hs, V.real, goInt])) (cl_nil rfl)
  · rename_i hx
    cases h
    have hr := ev_real hE x (by rw [hx]; simp)
    rw [hx] at hr
    exact QOut.known (run_len o x t ho _ 0 hr (by simp [Builtin.len_, run_underlying hs, V.real, goInt])) (cl_nil rfl)
  · rename_i b len hx
    split at h
    · rename_i k xs T hM
      split at h
      · rename_i hl
        cases h
        have hr := ev_real hE x (by rw [hx]; simp)
        rw [hx] at hr
        refine QOut.known (run_len o x t ho _ len hr ?_) (cl_nil rfl)
        rcases hR.blk b _ hM with ⟨hk, hnil⟩ | ⟨c, cells, hk, _⟩
        · subst hnil
          simp at hl
          subst hl
          simp [Builtin.len_, run_underlying hs, V.real, hk, goInt]
        · simp [Builtin.len_, run_underlying hs, V.real, hk, goInt]
      · cases h
    · cases h
  · rename_i ad len cap hx
    cases h
    have hr := ev_real hE x (by rw [hx]; simp)
    rw [hx] at hr
    exact QOut.known (run_len o x t ho _ len hr (by simp [Builtin.len_, run_underlying hs, V.real, goInt])) (cl_nil rfl)
  · cases h

theorem q_lenS (hE : EnvRel ρ κ e n a) (o : Oper) (x : Operand) (t : TypeId)
    (ho : o.op = .call { callee := .builtin .len, args := #[x], argTypes := #[t] }) (hs : C.P.underlying t = some .string) (s : ByteArray) (hx : (compX x).ev e = .str s) :
    QOut ρ κ M.length w ((execOp a.eval o).run C.P w) (.int .i64 s.size) := by
  have hr := ev_real hE x (by rw [hx]; simp)
  rw [hx] at hr
  exact QOut.known (run_len o x t ho _ s.size hr (by simp [Builtin.len_, run_underlying hs, V.real, goInt])) (cl_nil rfl)

theorem q_lenA (o : Oper) (x : Operand) (t : TypeId) (len el : Nat) (ho : o.op = .call { callee := .builtin .len, args := #[x], argTypes := #[t] }) (hs : C.P.underlying t = some (.array len el)) :
    QOut ρ κ M.length w ((execOp a.eval o).run C.P w) (.int .i64 len) := by
  exact QOut.known (run_len o x t ho _ len rfl (by simp [Builtin.len_, run_underlying hs, goInt])) (cl_nil rfl)

theorem q_mkfn (hE : EnvRel ρ κ e n a) (hcl : EnvCl M.length e) (o : Oper) (f : FuncId) (first cap : Array Operand) (hfirst : first.isEmpty = true) (ho : o.op = .makeFunc (.func f) first cap)
    (hk : ((cap.toList.map compX).map (X.ev e)).all V.known = true) :
    QOut ρ κ M.length w ((execOp a.eval o).run C.P w) (.fn f ((cap.toList.map compX).map (X.ev e))) := by
  have hf : first = #[] := by simpa using hfirst
  subst hf
  refine QOut.known ?_ ?_
  · simp only [execOp, ho, V.real]
    refine exec_value ?_
    have hm : cap.map a.eval = (((cap.toList.map compX).map (X.ev e)).map (V.real ρ κ)).toArray := by
      apply Array.ext'
      simp only [Array.toList_map, List.map_map]
      apply List.map_congr_left
      intro x hx
      have := List.all_eq_true.1 hk ((compX x).ev e) (by simp only [List.map_map]; exact List.mem_map.2 ⟨x, hx, rfl⟩)
      exact ev_real hE x (known_ne this)
    simp [Instr.makeFunc, V.reals_map, hm]
  · intro r hr
    obtain ⟨u, hu, hr⟩ := V.mem_refsL.1 hr
    simp only [List.map_map] at hu
    obtain ⟨x, _, rfl⟩ := List.mem_map.1 hu
    exact ev_cl hcl x r hr

end
end Go.VM
end

section
namespace Go.VM
open Go

section
variable {C : Ctx} {ρ : Nat → Nat} {κ : Nat → Option Nat} {M : Mem} {w : World} {e : Env} {n : Nat} {a : Act}

theorem run_bound {P : Program} (w : World) (m d : Nat) (c : BoundsCode) (x : Operand) (hE : EnvRel ρ κ e n a) (l : Nat)
    (h : vbound m d (some ((compX x).ev e)) = some l) : (Instr.sliceBound (a.eval x) m c).run P w = .ok l w := by
  unfold vbound at h
  split at h
  · cases ‹some _ = none›
  · rename_i k i hx
    split at h
    · rename_i hb
      cases h
      have hx' : (compX x).ev e = .int k i := by simpa using hx
      have hr := ev_real hE x (by rw [hx']; simp)
      rw [hx'] at hr
      simp [Instr.sliceBound, hr, V.real, asIntOf, hb]
    · cases h
  · cases h

theorem run_bounds {P : Program} (w : World) (b : Bool) (len cap : Nat) (lo hi mx : Option Operand) (hE : EnvRel ρ κ e n a) (r : Nat × Nat × Nat)
    (h : vbounds len cap ((lo.map compX).map (X.ev e)) ((hi.map compX).map (X.ev e)) ((mx.map compX).map (X.ev e)) = some r) :
    (Instr.sliceBounds b len cap (lo.map a.eval) (hi.map a.eval) (mx.map a.eval)).run P w = .ok r w := by
  unfold vbounds at h
  split at h
  · cases h
  rename_i m hm
  split at h
  · cases h
  rename_i hi' mx' hne
  split at h
  · cases h
  rename_i hh hhi
  split at h
  · cases h
  rename_i l hlo
  cases h
  cases mx with
  | none =>
    have hcm : m = cap := by simp [vbound] at hm; exact hm.symm
    subst hcm
    cases hi with
    | none =>
      have hch : hh = len := by simp [vbound] at hhi; exact hhi.symm
      subst hch
      cases lo with
      | none =>
        have hcl : l = 0 := by simp [vbound] at hlo; exact hlo.symm
        subst hcl
        simp [Instr.sliceBounds]
      | some x => simp [Instr.sliceBounds, run_bound w hh 0 _ x hE l hlo]
    | some y =>
      have h2 := fun c => run_bound (P := P) w m len c y hE hh (by simpa using hhi)
      cases lo with
      | none =>
        have hcl : l = 0 := by simp [vbound] at hlo; exact hlo.symm
        subst hcl
        simp [Instr.sliceBounds, h2]
      | some x => simp [Instr.sliceBounds, h2, run_bound w hh 0 _ x hE l hlo]
  | some z =>
    have h1 := fun c => run_bound (P := P) w cap cap c z hE m hm
    cases hi with
    | none => exact absurd rfl (hne _ rfl)
    | some y =>
      have h2 := fun c => run_bound (P := P) w m len c y hE hh (by simpa using hhi)
      cases lo with
      | none =>
        have hcl : l = 0 := by simp [vbound] at hlo; exact hlo.symm
        subst hcl
        simp [Instr.sliceBounds, h1, h2]
      | some x => simp [Instr.sliceBounds, h1, h2, run_bound w hh 0 _ x hE l hlo]

theorem q_slc (hE : EnvRel ρ κ e n a) (hcl : EnvCl M.length e) (o : Oper) (t : TypeId) (x : Operand) (lo hi mx : Option Operand) (ho : o.op = .slice t x lo hi mx) (len el sz : Nat)
    (hs : C.P.underlying t = some (.array len el)) (hz : sizeT C.P el = some sz) (v : V)
    (h : vslice len sz ((lo.map compX).map (X.ev e)) ((hi.map compX).map (X.ev e)) ((mx.map compX).map (X.ev e)) ((compX x).ev e) = some v) :
    QOut ρ κ M.length w ((execOp a.eval o).run C.P w) v := by
  unfold vslice at h
  split at h
  · rename_i b off hx
    split at h
    · rename_i l hh m hb
      cases h
      have hr := ev_real hE x (by rw [hx]; simp)
      have hcx := ev_cl hcl x
      rw [hx] at hr hcx
      refine QOut.known ?_ (fun r hr => hcx r (by simpa [V.refs] using hr))
      simp only [execOp, ho, hr]
      refine exec_value ?_
      simp only [Instr.sliceAt, Sem.run_bind, run_underlying hs, Result.andThen_ok, V.real, Instr.sureAddr, Sem.run_pure, run_bounds (P := C.P) w false len len lo hi mx hE _ hb, sizeT_run hz]
      by_cases hml : m = l
      · simp [hml]
      · simp [hml, Addr.add_lit]
    · cases h
  · cases h

theorem cells_of {v : V} {vs : List V} (h : v.cells = some vs) : v ≠ .undef ∧ (v.real ρ κ).cells = (V.reals ρ κ vs).toArray ∧ (∀ r, r ∈ V.refsL vs ↔ r ∈ v.refs) := by
  unfold V.cells at h
  split at h
  · rename_i cs
    split at h
    · cases h; exact ⟨by simp, rfl, fun r => Iff.rfl⟩
    · cases h
  · rename_i k xs
    cases h
    refine ⟨by simp, ?_, ?_⟩
    · simp only [V.real, Value.cells, V.reals_map, intVs, List.map_map, intVals]
      rfl
    · intro r
      constructor
      · intro hr
        obtain ⟨u, hu, hr⟩ := V.mem_refsL.1 hr
        obtain ⟨x, _, rfl⟩ := List.mem_map.1 hu
        simp [V.refs] at hr
      · intro hr; simp [V.refs] at hr
  · split at h
    · rename_i h1 h2 ho
      cases h
      refine ⟨(by rintro rfl; cases ho), ?_, (fun r => by simp [V.refsL])⟩
      cases v with
      | vec b m => simp only [V.real, V.reals]; cases κ b <;> rfl
      | raw u => cases u <;> first | rfl | (simp [V.one, Value.oneCell'] at ho)
      | agg cs => exact absurd rfl (h1 _)
      | ints k xs => exact absurd rfl (h2 _ _)
      | undef => cases ho
      | tup vs => cases ho
      | _ => rfl
    · cases h

theorem fold_set {α : Type} (vs : List α) : ∀ (off : Nat) (cells : Array α), off + vs.length ≤ cells.size →
    (vs.toArray.zipIdx.foldl (fun cs (c, j) => cs.setIfInBounds (off + j) c) cells).toList = splice cells.toList off vs := by
  intro off cells hle
  apply List.ext_getElem?
  intro j
  rw [← Array.foldl_toList]
  simp only [Array.toList_zipIdx]
  have key : ∀ (l : List α) (k : Nat) (cs : Array α), off + k + l.length ≤ cs.size →
      (List.foldl (fun (cs : Array α) (x : α × Nat) => cs.setIfInBounds (off + x.2) x.1) cs (l.zipIdx k)).toList[j]? =
        if off + k ≤ j ∧ j < off + k + l.length then l[j - (off + k)]? else cs.toList[j]? := by
    intro l
    induction l with
    | nil => intro k cs _; simp; omega
    | cons v l ih =>
      intro k cs hk
      simp only [List.length_cons] at hk
      simp only [List.zipIdx_cons, List.foldl_cons]
      rw [ih (k + 1) _ (by rw [Array.size_setIfInBounds]; omega)]
      by_cases h1 : off + (k + 1) ≤ j ∧ j < off + (k + 1) + l.length
      · rw [if_pos h1, if_pos (by simp; omega)]
        have : j - (off + k) = (j - (off + (k + 1))) + 1 := by omega
        rw [this, List.getElem?_cons_succ]
      · rw [if_neg h1]
        by_cases h2 : j = off + k
        · subst h2
          rw [if_pos (by simp only [List.length_cons]; omega)]
          simp only [Array.toList_setIfInBounds, Nat.sub_self, List.getElem?_cons_zero]
          rw [List.getElem?_set_self (by simpa using (by omega : off + k < cs.size))]
        · rw [if_neg (by simp only [List.length_cons]; omega)]
          simp only [Array.toList_setIfInBounds]
          rw [List.getElem?_set_ne (by omega)]
  have := key vs 0 cells (by omega)
  simp only [Nat.add_zero] at this ⊢
  rw [this]
  unfold splice
  by_cases h1 : j < off
  · rw [if_neg (by omega), List.append_assoc, List.getElem?_append_left (by simp; omega), List.getElem?_take, if_pos h1]
  · by_cases h2 : j < off + vs.length
    · rw [if_pos (by omega), List.append_assoc, List.getElem?_append_right (by simp; omega), List.getElem?_append_left (by simp; omega)]
      congr 1
      simp
      omega
    · rw [if_neg (by omega), List.getElem?_append_right (by simp; omega), List.getElem?_drop]
      congr 1
      simp
      omega

end
end Go.VM
end

section
namespace Go.VM
open Go

section
variable {C : Ctx} {ρ : Nat → Nat} {κ : Nat → Option Nat} {M : Mem} {w : World} {e : Env} {n : Nat} {a : Act}

theorem splice_length {α : Type} (xs : List α) (o : Nat) (ys : List α) (h : o + ys.length ≤ xs.length) : (splice xs o ys).length = xs.length := by
  simp [splice]; omega

theorem splice_map {α β : Type} (f : α → β) (xs : List α) (o : Nat) (ys : List α) : (splice xs o ys).map f = splice (xs.map f) o (ys.map f) := by
  simp [splice]

theorem splice_one {α : Type} (xs : List α) (o : Nat) (y : α) (h : o < xs.length) : splice xs o [y] = xs.set o y := by
  apply List.ext_getElem?
  intro j
  unfold splice
  by_cases h1 : j < o
  · rw [List.append_assoc, List.getElem?_append_left (by simp; omega), List.getElem?_take, if_pos h1, List.getElem?_set_ne (by omega)]
  · by_cases h2 : j = o
    · subst h2
      rw [List.append_assoc, List.getElem?_append_right (by simp; omega), List.getElem?_set_self h]
      simp [Nat.min_eq_left (Nat.le_of_lt h)]
    · rw [List.getElem?_append_right (by simp; omega), List.getElem?_drop, List.getElem?_set_ne (by omega)]
      congr 1
      simp
      omega

/-- what a filled value is -/
theorem fill_step (place : Nat → Option (Nat × Nat)) (i off sz : Nat) (hp : place i = some (off, sz)) (x : Value) (vs : List Value) (hx : x.cells = vs.toArray) (hl : vs.length = sz)
    (cells : List Value) (hle : off + sz ≤ cells.length) (rest : List (Nat × Value)) :
    Instr.fill place cells.toArray ((i, x) :: rest) = Instr.fill place (splice cells off vs).toArray rest := by
  simp only [Instr.fill, hp, hx]
  have h1 : ¬(vs.toArray.size ≠ sz || off + vs.toArray.size > cells.toArray.size) = true := by
    simp; omega
  rw [if_neg h1]
  congr 1
  apply Array.ext'
  rw [fold_set vs off cells.toArray (by simp; omega)]

theorem compParts_sound (P : Program) (hE : EnvRel ρ κ e n a) (place : Nat → Option (Nat × Nat)) : ∀ (ps : List (Nat × Operand)) (l : List (Nat × Nat × X)) (z v : V) (zs : List Value),
    compParts P ps place = some l → vfill (l.map fun (o, n, x) => (o, n, x.ev e)) z = some v → z.real ρ κ = .agg zs.toArray →
    ∃ vs : List Value, v.real ρ κ = .agg vs.toArray ∧ Instr.fill place zs.toArray (ps.map fun (i, x) => (i, a.eval x)) = some vs.toArray ∧
      (∀ m, z.cl m → EnvCl m e → v.cl m)
  | [], l, z, v, zs, hc, hv, hz => by
    simp only [compParts, Option.some.injEq] at hc
    subst hc
    simp only [List.map_nil, vfill, Option.some.injEq] at hv
    subst hv
    exact ⟨zs, hz, rfl, fun _ h _ => h⟩
  | (i, x) :: r, l, z, v, zs, hc, hv, hz => by
    simp only [compParts] at hc
    split at hc
    · rename_i off sz l' hp hl'
      cases hc
      simp only [List.map_cons] at hv ⊢
      cases z with
      | ints k zi =>
        simp only [V.real, Value.agg.injEq] at hz
        have hzs := (List.toArray_inj hz).symm
        subst hzs
        simp only [vfill] at hv
        split at hv
        · rename_i k' m hx
          split at hv
          · rename_i hcond
            obtain ⟨rfl, rfl, hlt⟩ := hcond
            have hr := ev_real hE x (by rw [hx]; simp)
            rw [hx] at hr
            obtain ⟨vs, h1, h2, h3⟩ := compParts_sound P hE place r l' (.ints k (zi.set off m)) v (intVals k (zi.set off m)) hl' hv rfl
            refine ⟨vs, h1, ?_, fun m' hm hcl => h3 m' (cl_nil rfl) hcl⟩
            rw [hr, fill_step place i off 1 hp _ [Value.int k m] rfl rfl _ (by simp [intVals]; omega), ← h2]
            congr 1
            rw [splice_one _ _ _ (by simpa [intVals] using hlt)]
            simp [intVals, List.map_set]
          · cases hv
        · rename_i k' ys hx
          split at hv
          · rename_i hcond
            obtain ⟨rfl, rfl, hle⟩ := hcond
            have hr := ev_real hE x (by rw [hx]; simp)
            rw [hx] at hr
            obtain ⟨vs, h1, h2, h3⟩ := compParts_sound P hE place r l' (.ints k (splice zi off ys)) v (intVals k (splice zi off ys)) hl' hv rfl
            refine ⟨vs, h1, ?_, fun m' hm hcl => h3 m' (cl_nil rfl) hcl⟩
            rw [hr, fill_step place i off ys.length hp _ (intVals k ys) rfl (by simp [intVals]) _ (by simp [intVals]; omega), ← h2]
            congr 1
            simp [intVals, splice_map]
          · cases hv
        · cases hv
      | agg zi =>
        simp only [V.real, Value.agg.injEq] at hz
        have hzs := (List.toArray_inj hz).symm
        subst hzs
        simp only [vfill] at hv
        split at hv
        · rename_i us hus
          split at hv
          · rename_i hcond
            obtain ⟨rfl, hle⟩ := hcond
            obtain ⟨hne, hcells, hrefs⟩ := cells_of (ρ := ρ) (κ := κ) hus
            have hr := ev_real hE x hne
            obtain ⟨vs, h1, h2, h3⟩ := compParts_sound P hE place r l' (.agg (splice zi off us)) v (V.reals ρ κ (splice zi off us)) hl' hv rfl
            refine ⟨vs, h1, ?_, fun m' hm hcl => h3 m' ?_ hcl⟩
            · rw [hr, fill_step place i off us.length hp _ (V.reals ρ κ us) hcells (by simp [V.reals_map]) _ (by simp [V.reals_map]; omega), ← h2]
              congr 1
              simp [V.reals_map, splice_map]
            · intro b hb
              obtain ⟨u, hu, hb⟩ := V.mem_refsL.1 hb
              simp only [splice, List.mem_append] at hu
              rcases hu with (hu | hu) | hu
              · exact hm b (V.mem_refsL.2 ⟨u, List.mem_of_mem_take hu, hb⟩)
              · exact ev_cl hcl x b ((hrefs b).1 (V.mem_refsL.2 ⟨u, hu, hb⟩))
              · exact hm b (V.mem_refsL.2 ⟨u, List.mem_of_mem_drop hu, hb⟩)
          · cases hv
        · cases hv
      | _ => simp [vfill] at hv
    · cases hc

theorem allInts_sound (k : IntKind) : ∀ (l : List Value) (ns : List Int), allInts k l = some ns → l = intVals k ns
  | [], ns, h => by simp [allInts] at h; subst h; rfl
  | v :: r, ns, h => by
    unfold allInts at h
    split at h
    · rename_i heq; cases heq
    · rename_i k' n r' heq
      cases heq
      split at h
      · rename_i hk
        subst hk
        split at h
        · rename_i ms hms
          cases h
          rw [allInts_sound k _ _ hms]
          rfl
        · cases h
      · cases h
    · cases h

theorem reals_ofConst (ρ κ) (l : List Value) : V.reals ρ κ (l.map V.ofConst) = l := by
  rw [V.reals_map, List.map_map]
  conv => rhs; rw [← List.map_id l]
  apply List.map_congr_left
  intro v _
  exact V.real_ofConst ρ κ v

theorem refsL_ofConst (l : List Value) : V.refsL (l.map V.ofConst) = [] := by
  apply List.eq_nil_iff_forall_not_mem.2
  intro b hb
  obtain ⟨u, hu, hb⟩ := V.mem_refsL.1 hb
  obtain ⟨x, _, rfl⟩ := List.mem_map.1 hu
  rw [V.refs_ofConst] at hb
  cases hb

theorem real_ofZero (ρ κ) (arr : Bool) (z : Value) : (V.ofZero arr z).real ρ κ = z ∧ (V.ofZero arr z).refs = [] := by
  unfold V.ofZero
  split
  · rename_i cs
    split
    · rename_i k m r hcs
      split
      · rename_i ns hns
        refine ⟨?_, rfl⟩
        simp only [V.real, Value.agg.injEq]
        apply Array.ext'
        simp only [hcs]
        have := allInts_sound k _ _ hns
        rw [this]
        simp [intVals]
      · refine ⟨?_, refsL_ofConst _⟩
        simp only [V.real, Value.agg.injEq, reals_ofConst]
        apply Array.ext'
        simp [hcs]
    · refine ⟨?_, refsL_ofConst _⟩
      simp only [V.real, reals_ofConst]
  · exact ⟨V.real_ofConst ρ κ z, V.refs_ofConst z⟩

theorem fieldPlaces_sound {P : Program} (w : World) : ∀ (fs : List Field) (pl : List (Nat × Nat)), fieldPlaces P fs = some pl →
    (fs.mapM (fun f => (do pure (f.offset, ← sizeOf f.type) : Sem (Nat × Nat)))).run P w = .ok pl w
  | [], pl, h => by simp [fieldPlaces] at h; subst h; rfl
  | f :: r, pl, h => by
    simp only [fieldPlaces] at h
    split at h
    · rename_i sz l hz hl
      cases h
      simp only [List.mapM_cons, Sem.run_bind, sizeT_run hz, Result.andThen_ok, Sem.run_pure, fieldPlaces_sound w r l hl]
    · cases h

theorem q_build (hE : EnvRel ρ κ e n a) (hcl : EnvCl M.length e) (o : Oper) (t : TypeId) (parts : Array (Nat × Operand)) (ho : o.op = .build t parts) (cs : Array Value) (hz : zeroT C.P t = some (.agg cs))
    (place : Nat → Option (Nat × Nat))
    (hplace : (∃ fs pl, C.P.underlying t = some (.struct fs) ∧ fieldPlaces C.P fs.toList = some pl ∧ place = (pl[·]?)) ∨
      (∃ len el sz, C.P.underlying t = some (.array len el) ∧ sizeT C.P el = some sz ∧ place = fun i => some (i * sz, sz)))
    (l : List (Nat × Nat × X)) (hl : compParts C.P parts.toList place = some l) (arr : Bool) (v : V) (h : vfill (l.map fun (o, n, x) => (o, n, x.ev e)) (V.ofZero arr (.agg cs)) = some v) :
    QOut ρ κ M.length w ((execOp a.eval o).run C.P w) v := by
  obtain ⟨hzr, hzc⟩ := real_ofZero ρ κ arr (.agg cs)
  obtain ⟨vs, hv, hf, hvc⟩ := compParts_sound C.P hE place parts.toList l _ v cs.toList hl h (by rw [hzr])
  refine QOut.known ?_ (hvc _ (cl_nil hzc) hcl)
  simp only [execOp, ho]
  refine exec_value ?_
  have hpm : (Array.map (fun x => match x with | (i, x) => (i, a.eval x)) parts).toList = parts.toList.map fun (i, x) => (i, a.eval x) := by simp
  rcases hplace with ⟨fs, pl, hu, hpl, rfl⟩ | ⟨len, el, sz, hu, hsz, rfl⟩
  · simp only [Instr.build, Sem.run_bind, zeroT_run hz, Result.andThen_ok, run_underlying hu, Value.cells]
    have hm : (fs.mapM (fun f => (do pure (f.offset, ← sizeOf f.type) : Sem (Nat × Nat)))).run C.P w = .ok pl.toArray w := by
      rw [← Array.toArray_toList (xs := fs)]
      rw [List.mapM_toArray, Sem.run_map, fieldPlaces_sound w fs.toList pl hpl]
      rfl
    rw [hm]
    simp only [Result.andThen_ok]
    have hf' : Instr.fill (fun x => pl.toArray[x]?) cs (Array.map (fun x => match x with | (i, x) => (i, a.eval x)) parts).toList = some vs.toArray := by
      rw [hpm]
      have : (fun (x : Nat) => pl.toArray[x]?) = fun (x : Nat) => pl[x]? := by funext x; simp
      rw [this]
      simpa using hf
    rw [hf']
    simp [hv]
  · simp only [Instr.build, Sem.run_bind, zeroT_run hz, Result.andThen_ok, run_underlying hu, Value.cells, sizeT_run hsz]
    have hf' : Instr.fill (fun i => some (i * sz, sz)) cs (Array.map (fun x => match x with | (i, x) => (i, a.eval x)) parts).toList = some vs.toArray := by
      rw [hpm]; simpa using hf
    rw [hf']
    simp [hv]

end
end Go.VM
end

section
namespace Go.VM
open Go

section
variable {C : Ctx} {ρ : Nat → Nat} {κ : Nat → Option Nat} {M : Mem} {w : World} {e : Env} {n : Nat} {a : Act}

theorem q_slcS (hE : EnvRel ρ κ e n a) (hcl : EnvCl M.length e) (o : Oper) (t : TypeId) (x : Operand) (lo hi mx : Option Operand) (ho : o.op = .slice t x lo hi mx) (el sz : Nat)
    (hs : C.P.underlying t = some (.slice el)) (hz : sizeT C.P el = some sz) (v : V)
    (h : vsliceS sz ((lo.map compX).map (X.ev e)) ((hi.map compX).map (X.ev e)) ((mx.map compX).map (X.ev e)) ((compX x).ev e) = some v) :
    QOut ρ κ M.length w ((execOp a.eval o).run C.P w) v := by
  unfold vsliceS at h
  split at h
  · rename_i b off len cap hx
    split at h
    · rename_i l hh m hb
      cases h
      have hr := ev_real hE x (by rw [hx]; simp)
      have hcx := ev_cl hcl x
      rw [hx] at hr hcx
      refine QOut.known ?_ (fun r hr => hcx r (by simpa [V.refs] using hr))
      simp only [execOp, ho, hr]
      refine exec_value ?_
      simp only [Instr.sliceAt, Instr.slice, Sem.run_bind, run_underlying hs, Result.andThen_ok, V.real, Sem.run_pure, run_bounds (P := C.P) w true len cap lo hi mx hE _ hb, sizeT_run hz]
      by_cases hml : m = l
      · simp [hml]
      · simp [hml, Addr.add_lit]
    · cases h
  · cases h

theorem q_idxStr (hE : EnvRel ρ κ e n a) (o : Oper) (t : TypeId) (x i : Operand) (ho : o.op = .index t x i) (hs : C.P.underlying t = some .string) (v : V)
    (h : vidxStr ((compX x).ev e) ((compX i).ev e) = some v) : QOut ρ κ M.length w ((execOp a.eval o).run C.P w) v := by
  unfold vidxStr at h
  split at h
  · rename_i s k j hx hi
    split at h
    · rename_i h0
      split at h
      · rename_i b hb
        cases h
        have hr := ev_real hE x (by rw [hx]; simp)
        have hri := ev_real hE i (by rw [hi]; simp)
        rw [hx] at hr
        rw [hi] at hri
        refine QOut.known ?_ (cl_nil rfl)
        simp only [execOp, ho, hr, hri]
        refine exec_value ?_
        simp [Instr.index, asIntOf, run_underlying hs, V.real, h0, hb]
      · cases h
    · cases h
  · cases h

theorem q_mkif (hE : EnvRel ρ κ e n a) (hcl : EnvCl M.length e) (o : Oper) (t : TypeId) (x : Operand) (ho : o.op = .makeInterface t x) (d : TypeDesc) (hs : C.P.underlying t = some d) (hd : ∀ ms, d ≠ .interface ms)
    (hk : ((compX x).ev e).known = true) : QOut ρ κ M.length w ((execOp a.eval o).run C.P w) (.iface t ((compX x).ev e)) := by
  have hr := ev_real hE x (known_ne hk)
  have hcx := ev_cl hcl x
  refine QOut.known ?_ (fun r hr => hcx r (by simpa [V.refs] using hr))
  simp only [execOp, ho, hr]
  refine exec_value ?_
  simp only [Instr.makeInterface, Sem.run_bind, run_underlying hs, Result.andThen_ok]
  cases d <;> first | exact absurd rfl (hd _) | rfl

theorem q_tas (hE : EnvRel ρ κ e n a) (hcl : EnvCl M.length e) (o : Oper) (s t : TypeId) (x : Operand) (ho : o.op = .typeAssert x s t true) (d : TypeDesc) (hs : C.P.underlying t = some d) (hd : ∀ ms, d ≠ .interface ms)
    (z : Value) (hz : zeroT C.P t = some z) (v : V) (h : vtas t (V.ofConst z) ((compX x).ev e) = some v) : QOut ρ κ M.length w ((execOp a.eval o).run C.P w) v := by
  unfold vtas at h
  split at h
  · rename_i hx
    cases h
    have hr := ev_real hE x (by rw [hx]; simp)
    rw [hx] at hr
    refine QOut.known ?_ (cl_nil (by simp [V.refs, V.refsL, V.refs_ofConst]))
    simp only [execOp, ho, hr]
    refine exec_value ?_
    simp only [Instr.typeAssert, Sem.run_bind, run_underlying hs, Result.andThen_ok, V.real]
    cases d <;> first | exact absurd rfl (hd _) | simp [zeroT_run hz, V.reals, V.real, V.real_ofConst]
  · rename_i t' u hx
    cases h
    have hr := ev_real hE x (by rw [hx]; simp)
    have hcx := ev_cl hcl x
    rw [hx] at hr hcx
    refine QOut.known ?_ ?_
    · simp only [execOp, ho, hr]
      refine exec_value ?_
      simp only [Instr.typeAssert, Sem.run_bind, run_underlying hs, Result.andThen_ok, V.real]
      by_cases ht : t' = t
      · cases d <;> first | exact absurd rfl (hd _) | simp [ht, V.reals, V.real]
      · cases d <;> first | exact absurd rfl (hd _) | simp [ht, zeroT_run hz, V.reals, V.real, V.real_ofConst]
    · intro r hr
      refine hcx r ?_
      by_cases ht : t' = t
      · simpa [V.refs, V.refsL, ht] using hr
      · simp [V.refs, V.refsL, ht, V.refs_ofConst] at hr
  · cases h

theorem q_mm (hE : EnvRel ρ κ e n a) (o : Oper) (isMin : Bool) (x y : Operand) (ts : Array TypeId) (ho : o.op = .call { callee := .builtin (if isMin then .min else .max), args := #[x, y], argTypes := ts }) (v : V)
    (h : vmm isMin ((compX x).ev e) ((compX y).ev e) = some v) : QOut ρ κ M.length w ((execOp a.eval o).run C.P w) v := by
  unfold vmm at h
  split at h
  · rename_i k p k' q hx hy
    split at h
    · cases h
      have hr := ev_real hE x (by rw [hx]; simp)
      have hry := ev_real hE y (by rw [hy]; simp)
      rw [hx] at hr
      rw [hy] at hry
      refine QOut.known ?_ (cl_nil rfl)
      cases isMin
      · simp [execOp, ho, resolve, invoke, builtin, Builtin.max_, Builtin.max2, hr, hry, V.real]
      · simp [execOp, ho, resolve, invoke, builtin, Builtin.min_, Builtin.min2, hr, hry, V.real]
    · cases h
  · cases h

theorem nilC_spec {P : Program} {t : TypeId} {x : Operand} {p : Bool} (h : nilC P t x = some p) (ev : Operand → Value) (hev : ∀ v, ev (.const v) = v) :
    (p = false ∧ x = .const .nilIface ∧ ev x = .nilIface ∧ ∃ ms, P.underlying t = some (.interface ms)) ∨ (p = true ∧ x = .const (.pointer none) ∧ ev x = .pointer none ∧ ∃ el, P.underlying t = some (.pointer el)) := by
  unfold nilC at h
  split at h
  · rename_i ms hu; cases h; exact .inl ⟨rfl, rfl, hev _, _, hu⟩
  · rename_i el hu; cases h; exact .inr ⟨rfl, rfl, hev _, _, hu⟩
  · cases h

theorem run_nilcmp {P : Program} (w : World) (t : TypeId) (p : Bool) (u : V) (b : Bool) (h : visnil p u = some b) (ρ κ)
    (ht : (p = false ∧ ∃ ms, P.underlying t = some (.interface ms)) ∨ (p = true ∧ ∃ el, P.underlying t = some (.pointer el))) (c : Value) (hcv : c = if p then .pointer none else .nilIface) :
    (Op.equal t (u.real ρ κ) c).run P w = .ok b w ∧ (Op.equal t c (u.real ρ κ)).run P w = .ok b w := by
  have main : ∀ d, (Op.equalIn (d + 1) t (u.real ρ κ) c).run P w = .ok b w ∧ (Op.equalIn (d + 1) t c (u.real ρ κ)).run P w = .ok b w := by
    intro d
    subst hcv
    unfold visnil at h
    split at h
    all_goals (first | (cases h; done) | cases h)
    · rcases ht with ⟨_, ms, hu⟩ | ⟨h1, _⟩
      · simp [Op.equalIn, run_underlying hu, V.real]
      · cases h1
    · rcases ht with ⟨h1, _⟩ | ⟨_, el, hu⟩
      · cases h1
      · simp [Op.equalIn, run_underlying hu, V.real]
    · rcases ht with ⟨_, ms, hu⟩ | ⟨h1, _⟩
      · simp [Op.equalIn, run_underlying hu, V.real]
      · cases h1
    · rcases ht with ⟨h1, _⟩ | ⟨_, el, hu⟩
      · cases h1
      · simp [Op.equalIn, run_underlying hu, V.real]
  exact main 9999

theorem run_guard_nil {P : Program} (w : World) (op : BinOp) (t : TypeId) (x y : Operand) (u : V) (p : Bool) (b : Bool) (h : visnil p u = some b) (ρ κ) (c : Value) (hcv : c = if p then .pointer none else .nilIface) :
    (y = .const c → (eqGuard op t x y (u.real ρ κ) c).run P w = .ok () w) ∧ (x = .const c → (eqGuard op t x y c (u.real ρ κ)).run P w = .ok () w) := by
  subst hcv
  unfold visnil at h
  split at h
  all_goals (first | (cases h; done) | cases h)
  all_goals
    constructor
    · rintro rfl; cases op <;> simp [eqGuard, V.real]
    · rintro rfl; cases op <;> simp [eqGuard, V.real]

theorem run_bin_nil {P : Program} (w : World) (t : TypeId) (u : V) (p : Bool) (b : Bool) (h : visnil p u = some b) (ρ κ) (c : Value) (hcv : c = if p then .pointer none else .nilIface) :
    binOp .eql t (u.real ρ κ) c = (do pure (.bool (← Op.equal t (u.real ρ κ) c))) ∧ binOp .neq t (u.real ρ κ) c = (do pure (.bool (!(← Op.equal t (u.real ρ κ) c)))) ∧
    binOp .eql t c (u.real ρ κ) = (do pure (.bool (← Op.equal t c (u.real ρ κ)))) ∧ binOp .neq t c (u.real ρ κ) = (do pure (.bool (!(← Op.equal t c (u.real ρ κ))))) := by
  subst hcv
  unfold visnil at h
  split at h
  all_goals (first | (cases h; done) | cases h)
  all_goals exact ⟨rfl, rfl, rfl, rfl⟩

theorem q_isnil (hE : EnvRel ρ κ e n a) (o : Oper) (op : BinOp) (t t' : TypeId) (x y z : Operand) (p neg : Bool) (ho : o.op = .binOp op t x y t') (hc : isNilC C.P op t x y = some (p, neg, z))
    (b : Bool) (h : visnil p ((compX z).ev e) = some b) : QOut ρ κ M.length w ((execOp a.eval o).run C.P w) (.bool (b != neg)) := by
  have hz := ev_real hE z (by intro hu; rw [hu] at h; cases p <;> cases h)
  have hev : ∀ v, a.eval (.const v) = v := fun _ => rfl
  refine QOut.known ?_ (cl_nil rfl)
  have get : ∀ {x' : Operand} {q : Bool}, nilC C.P t x' = some q → ∃ c : Value, c = (if q then .pointer none else .nilIface) ∧ x' = .const c ∧ a.eval x' = c ∧
      ((q = false ∧ ∃ ms, C.P.underlying t = some (.interface ms)) ∨ (q = true ∧ ∃ el, C.P.underlying t = some (.pointer el))) := by
    intro x' q hq
    rcases nilC_spec hq a.eval hev with ⟨rfl, rfl, hy, ms, hu⟩ | ⟨rfl, rfl, hy, el, hu⟩
    · exact ⟨_, rfl, rfl, hy, .inl ⟨rfl, ms, hu⟩⟩
    · exact ⟨_, rfl, rfl, hy, .inr ⟨rfl, el, hu⟩⟩
  unfold isNilC at hc
  split at hc
  · split at hc
    · rename_i q _ hq
      cases hc
      obtain ⟨c, hcv, rfl, hy, ht⟩ := get hq
      simp only [execOp, ho, hy, hz]
      refine exec_value ?_
      rw [Sem.run_bind, (run_guard_nil (P := C.P) w .eql t x (.const c) _ p b h ρ κ c hcv).1 rfl, Result.andThen_ok, (run_bin_nil (P := C.P) w t _ p b h ρ κ c hcv).1, Sem.run_bind, (run_nilcmp (P := C.P) w t p _ b h ρ κ ht c hcv).1]
      simp [V.real]
    · rename_i q hq _
      cases hc
      obtain ⟨c, hcv, rfl, hy, ht⟩ := get hq
      simp only [execOp, ho, hy, hz]
      refine exec_value ?_
      rw [Sem.run_bind, (run_guard_nil (P := C.P) w .eql t (.const c) y _ p b h ρ κ c hcv).2 rfl, Result.andThen_ok, (run_bin_nil (P := C.P) w t _ p b h ρ κ c hcv).2.2.1, Sem.run_bind, (run_nilcmp (P := C.P) w t p _ b h ρ κ ht c hcv).2]
      simp [V.real]
    · cases hc
  · split at hc
    · rename_i q _ hq
      cases hc
      obtain ⟨c, hcv, rfl, hy, ht⟩ := get hq
      simp only [execOp, ho, hy, hz]
      refine exec_value ?_
      rw [Sem.run_bind, (run_guard_nil (P := C.P) w .neq t x (.const c) _ p b h ρ κ c hcv).1 rfl, Result.andThen_ok, (run_bin_nil (P := C.P) w t _ p b h ρ κ c hcv).2.1, Sem.run_bind, (run_nilcmp (P := C.P) w t p _ b h ρ κ ht c hcv).1]
      simp [V.real]
    · rename_i q hq _
      cases hc
      obtain ⟨c, hcv, rfl, hy, ht⟩ := get hq
      simp only [execOp, ho, hy, hz]
      refine exec_value ?_
      rw [Sem.run_bind, (run_guard_nil (P := C.P) w .neq t (.const c) y _ p b h ρ κ c hcv).2 rfl, Result.andThen_ok, (run_bin_nil (P := C.P) w t _ p b h ρ κ c hcv).2.2.2, Sem.run_bind, (run_nilcmp (P := C.P) w t p _ b h ρ κ ht c hcv).2]
      simp [V.real]
    · cases hc
  · cases hc

theorem isNilS_spec {P : Program} {op : BinOp} {t : TypeId} {x y z : Operand} {neg : Bool} (h : isNilS P op t x y = some (neg, z)) :
    z = x ∧ (∃ n c, y = .const (.slice none n c)) ∧ (∃ el, P.underlying t = some (.slice el)) ∧ ((op = .eql ∧ neg = false) ∨ (op = .neq ∧ neg = true)) := by
  unfold isNilS at h
  split at h
  · rename_i n c el hu; cases h; exact ⟨rfl, ⟨n, c, rfl⟩, ⟨el, hu⟩, .inl ⟨rfl, rfl⟩⟩
  · rename_i n c el hu; cases h; exact ⟨rfl, ⟨n, c, rfl⟩, ⟨el, hu⟩, .inr ⟨rfl, rfl⟩⟩
  · cases h

theorem visnils_real {u : V} {b : Bool} (hR : Rel C ρ κ M w) (h : visnils M u = some b) :
    ∃ r m c, u.real ρ κ = .slice r m c ∧ r.isNone = b := by
  unfold visnils at h
  split at h
  · cases h; exact ⟨_, _, _, rfl, rfl⟩
  · cases h; exact ⟨_, _, _, rfl, rfl⟩
  · rename_i i n
    split at h
    · rename_i k xs T hM
      split at h
      · rename_i hx
        cases h
        rcases hR.blk _ _ hM with ⟨_, h0⟩ | ⟨c, cells, hc, _⟩
        · rw [h0] at hx; simp at hx
        · refine ⟨some ⟨ρ i, 0, none⟩, n, c, ?_, rfl⟩
          simp only [V.real, hc]
      · cases h
    · cases h
  · cases h

theorem q_isnils (hR : Rel C ρ κ M w) (hE : EnvRel ρ κ e n a) (o : Oper) (op : BinOp) (t t' : TypeId) (x y z : Operand) (neg : Bool) (ho : o.op = .binOp op t x y t') (hc : isNilS C.P op t x y = some (neg, z))
    (b : Bool) (h : visnils M ((compX z).ev e) = some b) : QOut ρ κ M.length w ((execOp a.eval o).run C.P w) (.bool (b != neg)) := by
  obtain ⟨rfl, ⟨m, c, rfl⟩, ⟨el, hu⟩, hop⟩ := isNilS_spec hc
  have hz := ev_real hE z (by intro hu; rw [hu] at h; cases h)
  obtain ⟨r, m', c', hr, hb⟩ := visnils_real hR h
  have hev : a.eval (.const (.slice none m c)) = .slice none m c := rfl
  refine QOut.known ?_ (cl_nil rfl)
  have main : ∀ d, (Op.equalIn (d + 1) t (.slice r m' c') (.slice none m c)).run C.P w = .ok b w := by
    intro d
    cases r with
    | none => cases hb; simp [Op.equalIn, run_underlying hu]
    | some ad => cases hb; simp [Op.equalIn, run_underlying hu]
  have hq : (Op.equal t (.slice r m' c') (.slice none m c)).run C.P w = .ok b w := main 9999
  simp only [execOp, ho, hev, hz, hr]
  refine exec_value ?_
  rcases hop with ⟨rfl, rfl⟩ | ⟨rfl, rfl⟩
  · simp [eqGuard, binOp, hq, V.real]
  · simp [eqGuard, binOp, hq, V.real]
end
end Go.VM
end

section
namespace Go.VM
open Go

section
variable {C : Ctx} {ρ : Nat → Nat} {κ : Nat → Option Nat} {M : Mem} {w : World} {e : Env} {n : Nat} {a : Act}

theorem vints_spec {k : IntKind} : ∀ {vs : List V} {xs : List Int}, vints k vs = some xs → vs = intVs k xs
  | [], xs, h => by simp [vints] at h; subst h; rfl
  | .int k' n :: r, xs, h => by
    simp only [vints] at h
    split at h
    · rename_i hk
      split at h
      · rename_i ns hns
        cases h
        subst hk
        rw [vints_spec hns]; rfl
      · cases h
    · cases h
  | .undef :: r, xs, h => by simp [vints] at h
  | .bool _ :: r, xs, h => by simp [vints] at h
  | .str _ :: r, xs, h => by simp [vints] at h
  | .nilp :: r, xs, h => by simp [vints] at h
  | .ptr _ _ :: r, xs, h => by simp [vints] at h
  | .nils :: r, xs, h => by simp [vints] at h
  | .slice .. :: r, xs, h => by simp [vints] at h
  | .vec .. :: r, xs, h => by simp [vints] at h
  | .fn .. :: r, xs, h => by simp [vints] at h
  | .nilf :: r, xs, h => by simp [vints] at h
  | .iface .. :: r, xs, h => by simp [vints] at h
  | .nili :: r, xs, h => by simp [vints] at h
  | .agg _ :: r, xs, h => by simp [vints] at h
  | .ints .. :: r, xs, h => by simp [vints] at h
  | .tup _ :: r, xs, h => by simp [vints] at h
  | .raw _ :: r, xs, h => by simp [vints] at h

theorem Rel.elems (hR : Rel C ρ κ M w) {k : IntKind} {v : V} {xs : List Int} (h : VM.elems M k v = some xs) : v ≠ .undef ∧
    ((v.real ρ κ = .slice none 0 0 ∧ xs = []) ∨ ∃ ad c, v.real ρ κ = .slice (some ad) xs.length c ∧ ∀ (j : Nat) (u : Value), (intVals k xs)[j]? = some u → w.cell? (ad.add j) = some u) := by
  unfold VM.elems at h
  split at h
  · cases h; exact ⟨by simp, .inl ⟨rfl, rfl⟩⟩
  · rename_i b n
    refine ⟨by simp, ?_⟩
    split at h
    · rename_i k' xs' T hM
      split at h
      · rename_i hc
        cases h
        obtain ⟨rfl, rfl⟩ := hc
        rcases hR.blk b _ hM with ⟨hn, hx⟩ | ⟨c, cells, hc, hh, hl, hm, hs, ht⟩
        · subst hx; exact .inl ⟨by simp [V.real, hn], rfl⟩
        · refine .inr ⟨⟨ρ b, 0, none⟩, c, by simp [V.real, hc], fun j u hj => ?_⟩
          rw [Addr.add_lit, Nat.zero_add, cell_of_block hh]
          rw [← ht, List.getElem?_take] at hj
          split at hj
          · simpa using hj
          · cases hj
      · cases h
    · cases h
  · rename_i b o n c
    refine ⟨by simp, .inr ?_⟩
    split at h
    · rename_i k' ys hr
      split at h
      · rename_i hk
        cases h
        subst hk
        obtain ⟨_, _, vs, hv, hl, hcells⟩ := hR.range hr
        have hvs : intVals k' xs = vs := by simpa [V.real] using hv
        subst hvs
        refine ⟨⟨ρ b, o, none⟩, c, ?_, fun j u hj => by rw [Addr.add_lit]; exact hcells j u hj⟩
        rw [← hl]; simp [V.real, intVals]
      · cases h
    · rename_i vs' hr
      have := vints_spec h
      subst this
      obtain ⟨_, _, vs, hv, hl, hcells⟩ := hR.range hr
      have hvs : intVals k xs = vs := by simpa [V.real, V.reals_map, intVs, intVals, Function.comp_def] using hv
      subst hvs
      refine ⟨⟨ρ b, o, none⟩, c, ?_, fun j u hj => by rw [Addr.add_lit]; exact hcells j u hj⟩
      rw [← hl]; simp [V.real, intVals]
    · cases h
  · cases h

theorem q_b2s (hR : Rel C ρ κ M w) (hE : EnvRel ρ κ e n a) (o : Oper) (s d : TypeId) (x : Operand) (ho : o.op = .convert s d x) (el : TypeId) (hs : C.P.underlying s = some (.slice el)) (he : C.P.underlying el = some (.int .u8))
    (hd : C.P.underlying d = some .string) (xs : List Int) (h : VM.elems M .u8 ((compX x).ev e) = some xs) : QOut ρ κ M.length w ((execOp a.eval o).run C.P w) (.str (ofBytes xs)) := by
  obtain ⟨hu, hc⟩ := hR.elems h
  have hr := ev_real hE x hu
  refine QOut.known ?_ (cl_nil rfl)
  simp only [execOp, ho, hr]
  refine exec_value ?_
  rcases hc with ⟨hv, rfl⟩ | ⟨ad, c, hv, hcell⟩
  · rw [hv, run_convert_bytes_nil w s el hs he 0 0 d hd]; rfl
  · have hl : (loadCells ad xs.length).run C.P w = .ok (xs.map (Value.int .u8)).toArray w := by
      have := run_loadCells_list (P := C.P) w ad (intVals .u8 xs) (fun j v hj => hcell j v hj)
      simpa [intVals] using this
    rw [hv, run_convert_bytes_string w s d el _ _ c hs he hd, run_bytesToString w _ _ c xs hl, foldl_push_bytes]
    simp [ofBytes, V.real, ByteArray.empty, ByteArray.emptyWithCapacity]
    rfl
end
end Go.VM
end
