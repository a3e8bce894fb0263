/-
  A part of a small machine over the model, or of a walk by it, proved right against the model. Proved outright, under no condition but what each theorem names.
-/
import Derived.Test.YtahmhofnilgfgaaVD
namespace Go.VM
open Go

section
variable {C : Ctx} {ρ : Nat → Nat} {κ : Nat → Option Nat} {M : Mem} {w : World} {e : Env} {n : Nat} {a : Act}

theorem cell_of_block {w : World} {g o : Nat} {cells : Array Value} {T : TypeId} {fr : Nat × Nat} (h : w.heap[g]? = some (.cells cells T fr)) : w.cell? ⟨g, o, none⟩ = cells[o]? :=
  cell_of_row w g o cells T fr h

theorem intVals_get (k : IntKind) (xs : List Int) (o : Nat) : (intVals k xs)[o]? = (xs[o]?).map (Value.int k) := by simp [intVals]

theorem Rel.cell (hR : Rel C ρ κ M w) {b o : Nat} {v : V} (h : M.cell b o = some v) : ∃ x, w.cell? ⟨ρ b, o, none⟩ = some x ∧ (v ≠ .undef → x = v.real ρ κ) := by
  unfold Mem.cell at h
  split at h
  · rename_i cs T hM
    obtain ⟨cells, hc, hs, hg⟩ := hR.blk b _ hM
    rw [cell_of_block hc]
    have ho : o < cells.size := by rw [hs]; exact (List.getElem?_eq_some_iff.1 h).1
    refine ⟨cells[o], by simp [ho], fun hu => ?_⟩
    have := hg o v h hu
    simpa [ho] using this
  · rename_i k xs T hM
    have hc := hR.blk b _ hM
    split at h
    · rename_i m hm
      cases h
      rw [cell_of_block hc]
      exact ⟨.int k m, by simp [intVals, hm], fun _ => rfl⟩
    · cases h
  · rename_i k xs T hM
    split at h
    · rename_i m hm
      cases h
      rcases hR.blk b _ hM with ⟨_, hnil⟩ | ⟨c, cells, hk, hc, hl, _, hs, ht⟩
      · subst hnil; simp at hm
      · rw [cell_of_block hc]
        have ho : o < xs.length := (List.getElem?_eq_some_iff.1 hm).1
        have h2 : (cells.toList.take xs.length)[o]? = (intVals k xs)[o]? := by rw [ht]
        rw [List.getElem?_take, if_pos ho, intVals_get, hm] at h2
        exact ⟨.int k m, by simpa using h2, fun _ => rfl⟩
    · cases h
  · cases h

theorem refs_of_mem {M : Mem} {b : Nat} {B : Blk} (hcl : ∀ (i : Nat) (b : Blk), M[i]? = some b → ∀ r ∈ b.refs, r < M.length) (h : M[b]? = some B) : ∀ r ∈ B.refs, r < M.length := hcl b B h

theorem Rel.cell_cl (hR : Rel C ρ κ M w) {b o : Nat} {v : V} (h : M.cell b o = some v) : v.cl M.length := by
  unfold Mem.cell at h
  split at h
  · rename_i cs T hM
    intro r hr
    exact hR.cl b _ hM r (by simp only [Blk.refs]; exact V.mem_refsL.2 ⟨v, List.mem_of_getElem? h, hr⟩)
  · split at h
    · cases h; exact cl_nil rfl
    · cases h
  · split at h
    · cases h; exact cl_nil rfl
    · cases h
  · cases h

theorem q_ld (hR : Rel C ρ κ M w) (hE : EnvRel ρ κ e n a) (o : Oper) (t : TypeId) (x : Operand) (ho : o.op = .load t x)
    (hg : aggT C.P t = some false) (v : V) (h : vld C M ((compX x).ev e) = some v) :
    QOut ρ κ M.length w ((execOp a.eval o).run C.P w) v := by
  unfold vld at h
  split at h
  · rename_i b off hx
    have hr := ev_real hE x (by rw [hx]; simp)
    rw [hx] at hr
    obtain ⟨y, hy, hyv⟩ := hR.cell h
    refine ⟨y, ?_, hyv, hR.cell_cl h⟩
    simp only [execOp, ho, hr, V.real]
    refine exec_value ?_
    simp only [Instr.loadAt, Instr.sureAddr, Sem.run_bind, Sem.run_pure, Result.andThen_ok, loadVar, aggT_run hg]
    simp [hy]
  · rename_i ad hx
    split at h
    · rename_i u hext
      cases h
      have hr := ev_real hE x (by rw [hx]; simp)
      rw [hx] at hr
      refine QOut.known ?_ (cl_nil (V.refs_ofVal u))
      simp only [execOp, ho, hr, V.real, V.real_ofVal]
      refine exec_value ?_
      simp only [Instr.loadAt, Instr.sureAddr, Sem.run_bind, Sem.run_pure, Result.andThen_ok, loadVar, aggT_run hg]
      simp [(hR.ext _ _ hext).1]
    · cases h
  · cases h

theorem getElem?_drop_take {α : Type} (xs : List α) (o n j : Nat) : ((xs.drop o).take n)[j]? = if j < n then xs[o + j]? else none := by
  rw [List.getElem?_take]
  split
  · rw [List.getElem?_drop]
  · rfl

theorem Rel.range (hR : Rel C ρ κ M w) {b o n : Nat} {v : V} (h : M.range b o n = some v) :
    v.cl M.length ∧ v ≠ .undef ∧ ∃ vs : List Value, v.real ρ κ = .agg vs.toArray ∧ vs.length = n ∧ ∀ (j : Nat) u, vs[j]? = some u → w.cell? ⟨ρ b, o + j, none⟩ = some u := by
  unfold Mem.range at h
  split at h
  · rename_i cs T hM
    split at h
    · rename_i hle
      simp only at h
      split at h
      · rename_i hk
        cases h
        obtain ⟨cells, hc, _, hg⟩ := hR.blk b _ hM
        refine ⟨?_, by simp, V.reals ρ κ ((cs.drop o).take n), rfl, by simp [V.reals_map]; omega, ?_⟩
        · intro r hr
          obtain ⟨u, hu, hr⟩ := V.mem_refsL.1 hr
          exact hR.cl b _ hM r (by simp only [Blk.refs]; exact V.mem_refsL.2 ⟨u, List.mem_of_mem_drop (List.mem_of_mem_take hu), hr⟩)
        · intro j u hj
          rw [V.reals_map, List.getElem?_map] at hj
          cases hq : ((cs.drop o).take n)[j]? with
          | none => rw [hq] at hj; cases hj
          | some q =>
            rw [hq] at hj
            cases hj
            rw [cell_of_block hc]
            have hqk : q.known = true := (List.all_eq_true.1 hk) q (List.mem_of_getElem? hq)
            rw [getElem?_drop_take] at hq
            split at hq
            · exact hg (o + j) q hq (known_ne hqk)
            · cases hq
      · cases h
    · cases h
  · rename_i k xs T hM
    have hc := hR.blk b _ hM
    split at h
    · rename_i hh
      obtain ⟨rfl, rfl⟩ := hh
      cases h
      refine ⟨cl_nil rfl, by simp, intVals k xs, rfl, by simp [intVals], ?_⟩
      intro j u hj
      rw [cell_of_block hc]
      simpa using hj
    · split at h
      · cases h
        refine ⟨cl_nil rfl, by simp, intVals k ((xs.drop o).take n), rfl, by simp [intVals]; omega, ?_⟩
        intro j u hj
        rw [intVals_get, getElem?_drop_take] at hj
        split at hj
        · rw [cell_of_block hc]; simpa [intVals] using hj
        · cases hj
      · cases h
  · rename_i k xs T hM
    split at h
    · rename_i hle
      cases h
      refine ⟨cl_nil rfl, by simp, intVals k ((xs.drop o).take n), rfl, by simp [intVals]; omega, ?_⟩
      intro j u hj
      rw [intVals_get, getElem?_drop_take] at hj
      split at hj
      · rename_i hj2
        rcases hR.blk b _ hM with ⟨_, hnil⟩ | ⟨c, cells, hk, hc, hl, _, hs, ht⟩
        · subst hnil; simp at hj
        · rw [cell_of_block hc]
          have h2 : (cells.toList.take xs.length)[o + j]? = (intVals k xs)[o + j]? := by rw [ht]
          rw [List.getElem?_take, if_pos (by omega), intVals_get, hj] at h2
          simpa using h2
      · cases hj
    · cases h
  · cases h

theorem q_ldA (hR : Rel C ρ κ M w) (hE : EnvRel ρ κ e n a) (o : Oper) (t : TypeId) (x : Operand) (ho : o.op = .load t x) (sz : Nat)
    (hg : aggT C.P t = some true) (hz : sizeT C.P t = some sz) (b off : Nat) (hx : (compX x).ev e = .ptr b off) (v : V) (h : M.range b off sz = some v) :
    QOut ρ κ M.length w ((execOp a.eval o).run C.P w) v := by
  have hr := ev_real hE x (by rw [hx]; simp)
  rw [hx] at hr
  obtain ⟨hc, _, vs, hv, hl, hcells⟩ := hR.range h
  refine QOut.known ?_ hc
  simp only [execOp, ho, hr, V.real]
  refine exec_value ?_
  simp only [Instr.loadAt, Instr.sureAddr, Sem.run_bind, Sem.run_pure, Result.andThen_ok, loadVar, aggT_run hg, if_true, sizeT_run hz]
  subst hl
  rw [run_loadCells_list (P := C.P) w ⟨ρ b, off, none⟩ vs (fun j u hj => by rw [Addr.add_lit]; exact hcells j u hj)]
  simp [hv]

theorem q_tupx (hE : EnvRel ρ κ e n a) (hcl : EnvCl M.length e) (o : Oper) (x : Operand) (i : Nat) (ho : o.op = .extract x i) (vs : List V) (hx : (compX x).ev e = .tup vs) (v : V)
    (h : vs[i]? = some v) : QOut ρ κ M.length w ((execOp a.eval o).run C.P w) v := by
  have hr := ev_real hE x (by rw [hx]; simp)
  have hcx := ev_cl hcl x
  rw [hx] at hr hcx
  refine QOut.known ?_ (fun r hr => hcx r (by simp only [V.refs]; exact V.mem_refsL.2 ⟨v, List.mem_of_getElem? h, hr⟩))
  simp only [execOp, ho, hr, V.real]
  refine exec_value ?_
  simp [Instr.extract, V.reals_map, h]

theorem run_part {P : Program} (w : World) (t : TypeId) (g : Bool) (sz off : Nat) (hg : aggT P t = some g) (hz : sizeT P t = some sz) (x v : V) (vs : List Value)
    (hx : x.real ρ κ = .agg vs.toArray) (h : vpart g off sz x = some v) : (part t vs.toArray off).run P w = .ok (v.real ρ κ) w ∧ (∀ r ∈ v.refs, r ∈ x.refs) := by
  unfold vpart at h
  split at h
  · rename_i k xs
    simp only [V.real, Value.agg.injEq] at hx
    have hvs : vs = intVals k xs := (List.toArray_inj hx).symm
    subst hvs
    cases g with
    | true =>
      simp only [if_true] at h
      split at h
      · cases h
        refine ⟨?_, by simp [V.refs]⟩
        simp only [part, Sem.run_bind, aggT_run hg, Result.andThen_ok, if_true, sizeT_run hz, Sem.run_pure, V.real]
        congr 2
        apply Array.ext'
        simp [intVals, Nat.add_sub_cancel_left]
      · cases h
    | false =>
      simp only [Bool.false_eq_true, if_false] at h
      split at h
      · rename_i m hm
        cases h
        refine ⟨?_, by simp [V.refs]⟩
        simp [part, aggT_run hg, intVals, hm, V.real]
      · cases h
  · rename_i cs
    simp only [V.real, Value.agg.injEq] at hx
    have hvs : vs = V.reals ρ κ cs := (List.toArray_inj hx).symm
    subst hvs
    cases g with
    | true =>
      simp only [if_true] at h
      split at h
      · cases h
        refine ⟨?_, ?_⟩
        · simp only [part, Sem.run_bind, aggT_run hg, Result.andThen_ok, if_true, sizeT_run hz, Sem.run_pure, V.real]
          congr 2
          apply Array.ext'
          simp [V.reals_map, Nat.add_sub_cancel_left]
        · intro r hr
          obtain ⟨u, hu, hr⟩ := V.mem_refsL.1 hr
          exact V.mem_refsL.2 ⟨u, List.mem_of_mem_drop (List.mem_of_mem_take hu), hr⟩
      · cases h
    | false =>
      simp only [Bool.false_eq_true, if_false] at h
      refine ⟨?_, ?_⟩
      · simp [part, aggT_run hg, V.reals_map, h]
      · intro r hr
        exact V.mem_refsL.2 ⟨v, List.mem_of_getElem? h, hr⟩
  · cases h

theorem agg_of_part {g : Bool} {off sz : Nat} {x v : V} (h : vpart g off sz x = some v) : x ≠ .undef ∧ ∃ vs : List Value, x.real ρ κ = .agg vs.toArray := by
  unfold vpart at h
  split at h
  · exact ⟨by simp, _, rfl⟩
  · exact ⟨by simp, _, rfl⟩
  · cases h

theorem q_part (hE : EnvRel ρ κ e n a) (hcl : EnvCl M.length e) (o : Oper) (t : TypeId) (x : Operand) (f : Nat) (ho : o.op = .field t x f) (fs : Array Field) (fd : Field) (g : Bool) (sz : Nat)
    (hs : C.P.underlying t = some (.struct fs)) (hf : fs[f]? = some fd) (hg : aggT C.P fd.type = some g) (hz : sizeT C.P fd.type = some sz) (v : V)
    (h : vpart g fd.offset sz ((compX x).ev e) = some v) : QOut ρ κ M.length w ((execOp a.eval o).run C.P w) v := by
  obtain ⟨hu, vs, hx⟩ := agg_of_part (ρ := ρ) (κ := κ) h
  have hr := ev_real hE x hu
  obtain ⟨hrun, hrefs⟩ := run_part (P := C.P) w fd.type g sz fd.offset hg hz _ v vs hx h
  refine QOut.known ?_ (fun r hr => ev_cl hcl x r (hrefs r hr))
  simp only [execOp, ho, hr, hx]
  refine exec_value ?_
  simp only [Instr.field, Sem.run_bind, run_underlying hs, Result.andThen_ok, hf, asAgg, Sem.run_pure, hrun]

theorem q_idxV (hE : EnvRel ρ κ e n a) (hcl : EnvCl M.length e) (o : Oper) (t : TypeId) (x i : Operand) (ho : o.op = .index t x i) (len el : Nat) (g : Bool) (sz : Nat)
    (hs : C.P.underlying t = some (.array len el)) (hg : aggT C.P el = some g) (hz : sizeT C.P el = some sz) (v : V)
    (h : vidxV g len sz ((compX x).ev e) ((compX i).ev e) = some v) : QOut ρ κ M.length w ((execOp a.eval o).run C.P w) v := by
  unfold vidxV at h
  split at h
  · rename_i k j hi
    split at h
    · rename_i hb
      obtain ⟨hu, vs, hx⟩ := agg_of_part (ρ := ρ) (κ := κ) h
      have hr := ev_real hE x hu
      have hri := ev_real hE i (by rw [hi]; simp)
      rw [hi] at hri
      obtain ⟨hrun, hrefs⟩ := run_part (P := C.P) w el g sz (j.toNat * sz) hg hz _ v vs hx h
      refine QOut.known ?_ (fun r hr => ev_cl hcl x r (hrefs r hr))
      simp only [execOp, ho, hr, hri, hx, V.real]
      refine exec_value ?_
      simp only [Instr.index, asIntOf, Sem.run_bind, Sem.run_pure, Result.andThen_ok, run_underlying hs, hb.1, hb.2, and_self, if_true, sizeT_run hz, hrun]
    · cases h
  · cases h

theorem run_len {P : Program} (o : Oper) (x : Operand) (t : TypeId) (ho : o.op = .call { callee := .builtin .len, args := #[x], argTypes := #[t] }) (xv : Value) (m : Nat)
    (hx : a.eval x = xv) (hrun : (Builtin.len_ #[t] o.type #[xv]).run P w = .ok (.int .i64 m) w) : (execOp a.eval o).run P w = .ok (.value (.int .i64 m)) w := by
  simp only [execOp, ho, resolve, invoke, builtin, Sem.run_bind, Sem.run_pure, Result.andThen_ok, List.map_toArray, List.map_cons, List.map_nil, hx, hrun]

theorem q_len (hR : Rel C ρ κ M w) (hE : EnvRel ρ κ e n a) (o : Oper) (x : Operand) (t el : TypeId)
    (ho : o.op = .call { callee := .builtin .len, args := #[x], argTypes := #[t] }) (hs : C.P.underlying t = some (.slice el))
    (v : V) (h : vlen M ((compX x).ev e) = some v) : QOut ρ κ M.length w ((execOp a.eval o).run C.P w) v := by
  unfold vlen at h
  split at h
  · rename_i b off len cap hx
    cases h
    have hr := ev_real hE x (by rw [hx]; simp)
    rw [hx] at hr
    exact QOut.known (run_len o x t ho _ len hr (by simp [Builtin.len_, run_underlying hs, V.real, goInt])) (cl_nil rfl)
  · rename_i hx
    cases h
    have hr := ev_real hE x (by rw [hx]; simp)
    rw [hx] at hr
    exact QOut.known (run_len o x t ho _ 0 hr (by simp [Builtin.len_, run_underlying hs, V.real, goInt])) (cl_nil rfl)
  · rename_i b len hx
    split at h
    · rename_i k xs T hM
      split at h
      · rename_i hl
        cases h
        have hr := ev_real hE x (by rw [hx]; simp)
        rw [hx] at hr
        refine QOut.known (run_len o x t ho _ len hr ?_) (cl_nil rfl)
        rcases hR.blk b _ hM with ⟨hk, hnil⟩ | ⟨c, cells, hk, _⟩
        · subst hnil
          simp at hl
          subst hl
          simp [Builtin.len_, run_underlying hs, V.real, hk, goInt]
        · simp [Builtin.len_, run_underlying hs, V.real, hk, goInt]
      · cases h
    · cases h
  · rename_i ad len cap hx
    cases h
    have hr := ev_real hE x (by rw [hx]; simp)
    rw [hx] at hr
    exact QOut.known (run_len o x t ho _ len hr (by simp [Builtin.len_, run_underlying hs, V.real, goInt])) (cl_nil rfl)
  · cases h

theorem q_lenS (hE : EnvRel ρ κ e n a) (o : Oper) (x : Operand) (t : TypeId)
    (ho : o.op = .call { callee := .builtin .len, args := #[x], argTypes := #[t] }) (hs : C.P.underlying t = some .string) (s : ByteArray) (hx : (compX x).ev e = .str s) :
    QOut ρ κ M.length w ((execOp a.eval o).run C.P w) (.int .i64 s.size) := by
  have hr := ev_real hE x (by rw [hx]; simp)
  rw [hx] at hr
  exact QOut.known (run_len o x t ho _ s.size hr (by simp [Builtin.len_, run_underlying hs, V.real, goInt])) (cl_nil rfl)

theorem q_lenA (o : Oper) (x : Operand) (t : TypeId) (len el : Nat) (ho : o.op = .call { callee := .builtin .len, args := #[x], argTypes := #[t] }) (hs : C.P.underlying t = some (.array len el)) :
    QOut ρ κ M.length w ((execOp a.eval o).run C.P w) (.int .i64 len) := by
  exact QOut.known (run_len o x t ho _ len rfl (by simp [Builtin.len_, run_underlying hs, goInt])) (cl_nil rfl)

theorem q_mkfn (hE : EnvRel ρ κ e n a) (hcl : EnvCl M.length e) (o : Oper) (f : FuncId) (first cap : Array Operand) (hfirst : first.isEmpty = true) (ho : o.op = .makeFunc (.func f) first cap)
    (hk : ((cap.toList.map compX).map (X.ev e)).all V.known = true) :
    QOut ρ κ M.length w ((execOp a.eval o).run C.P w) (.fn f ((cap.toList.map compX).map (X.ev e))) := by
  have hf : first = #[] := by simpa using hfirst
  subst hf
  refine QOut.known ?_ ?_
  · simp only [execOp, ho, V.real]
    refine exec_value ?_
    have hm : cap.map a.eval = (((cap.toList.map compX).map (X.ev e)).map (V.real ρ κ)).toArray := by
      apply Array.ext'
      simp only [Array.toList_map, List.map_map]
      apply List.map_congr_left
      intro x hx
      have := List.all_eq_true.1 hk ((compX x).ev e) (by simp only [List.map_map]; exact List.mem_map.2 ⟨x, hx, rfl⟩)
      exact ev_real hE x (known_ne this)
    simp [Instr.makeFunc, V.reals_map, hm]
  · intro r hr
    obtain ⟨u, hu, hr⟩ := V.mem_refsL.1 hr
    simp only [List.map_map] at hu
    obtain ⟨x, _, rfl⟩ := List.mem_map.1 hu
    exact ev_cl hcl x r hr

end
end Go.VM
