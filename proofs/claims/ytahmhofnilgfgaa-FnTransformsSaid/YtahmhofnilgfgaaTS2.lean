/-
  A part of a small machine over the model, or of a walk by it, proved right against the model. Proved outright, under no condition but what each theorem names.
-/
import Derived.Test.YtahmhofnilgfgaaTS
import Derived.Tactics2
import Derived.Orders
import Derived.BigRegion
import Derived.WalkKit
import Derived.Laws.StructEq
namespace Go.VM
open Go Go.Proofs Go.RowKit
theorem run_pass {β : Type} (f : Nat → β → Sem (ForInStep β)) (b : β) : ∀ (l : List Nat) (w : World), (∀ i ∈ l, ∀ w, (f i b).run Try.prog w = .ok (.yield b) w) → (forIn l b f : Sem β).run Try.prog w = .ok b w
  | [], w, _ => by simp [List.forIn_nil]
  | i :: l, w, h => by
    simp only [List.forIn_cons, Sem.run_bind, h i (by simp), Result.andThen_ok]
    exact run_pass f b l w (fun j hj => h j (by simp [hj]))

theorem eq64 {ys : List Int} (hy : ys.length = 64) (w : World) : (Op.equal 23 (.agg (intVals .i32 ys).toArray) (.agg (intVals .i32 ys).toArray)).run Try.prog w = .ok true w := by
  rw [Op.equal, show Op.maxDepth = 9999 + 1 from rfl, Op.equalIn]
  simp only [Sem.run_bind, run_underlying Try.underlying23, Result.andThen_ok]
  simp only [Std.Legacy.Range.forIn_eq_forIn_range', sizeT_run (P := Try.prog) (t := 21) (s := 1) (by kernel_rfl), Result.andThen_ok]
  rw [run_pass]
  · rfl
  · intro i hi w
    have hlt : i < 64 := by
      simp [Std.Legacy.Range.size] at hi
      exact hi
    have hix : i < ys.length := by omega
    have hp : ∀ w, (part 21 (intVals .i32 ys).toArray (i * 1)).run Try.prog w = .ok (.int .i32 ys[i]) w := by
      intro w
      simp [part, aggT_run (P := Try.prog) (t := 21) (b := false) (by kernel_rfl), intVals, hix]
    have he : (Op.equalIn 9999 21 (.int .i32 ys[i]) (.int .i32 ys[i])).run Try.prog w = .ok (ys[i] == ys[i]) w := run_equalIn_int w 9998 21 .i32 .i32 _ _ Try.underlying21
    simp only [Sem.run_bind, hp, Result.andThen_ok, he]
    simp

theorem wp_value {P : Program} {o : Oper} {a : Act} {w w' : World} {v : Value} {next : Act → World → Prop} {Q : Exit → Act → World → Prop} (h : (execOp a.eval o).run P w = .ok (.value v) w') (hn : next (a.put o.dst v) w') : Oper.wp P o a w next Q := by
  unfold Oper.wp; rw [h]; exact hn

theorem wp_enter {P : Program} {o : Oper} {a : Act} {w : World} {f : Nat} {args : Array Value} {v : Value} {next : Act → World → Prop} {Q : Exit → Act → World → Prop} (h : (execOp a.eval o).run P w = .ok (.enter f args) w)
    (hc : Calls P f args w fun e w' => e = .returned v ∧ Below w.heap.size w w') (hn : ∀ w', Below w.heap.size w w' → next (a.put o.dst v) w') : Oper.wp P o a w next Q := by
  unfold Oper.wp; rw [h, Oper.upon_enter]
  refine hc.mono ?_
  rintro e w' ⟨rfl, hb⟩
  exact hn w' hb

theorem exec_load64 {b : Nat} {ys : List Int} {W : World} {ev : Operand → Value} (o : Oper) (ho : o.op = .load 23 (.tmp 5)) (h5 : ev (.tmp 5) = .pointer (some ⟨b, 0, none⟩)) (H : Sem.run Try.prog (loadCells ⟨b, 0, none⟩ 64) W = .ok (intVals .i32 ys).toArray W) :
    (execOp ev o).run Try.prog W = .ok (.value (.agg (intVals .i32 ys).toArray)) W := by
  simp only [execOp, ho, h5]
  refine exec_value ?_
  simp only [Instr.loadAt, Instr.sureAddr, Sem.run_bind, Sem.run_pure, Result.andThen_ok, loadVar, aggT_run (P := Try.prog) (t := 23) (b := true) (by kernel_rfl), if_true, sizeT_run (P := Try.prog) (t := 23) (s := 64) (by kernel_rfl), H]

theorem exec_eq64 {ys : List Int} (hy : ys.length = 64) {W : World} {ev : Operand → Value} (o : Oper) (x y : Nat) (ho : o.op = .binOp .eql 23 (.tmp x) (.tmp y) 23) (hx : ev (.tmp x) = .agg (intVals .i32 ys).toArray) (hv : ev (.tmp y) = .agg (intVals .i32 ys).toArray) :
    (execOp ev o).run Try.prog W = .ok (.value (.bool true)) W := by
  have hg : Try.prog.eqGuardType Try.prog.depth 23 = false := by kernel_rfl
  simp only [execOp, ho, hx, hv]
  refine exec_value ?_
  simp [eqGuard, binOp, hg, eq64 hy]

theorem exec_move' {W : World} {ev : Operand → Value} (o : Oper) (x : Operand) (ho : o.op = .move x ∨ o.op = .assign x) : (execOp ev o).run Try.prog W = .ok (.value (ev x)) W := by
  rcases ho with ho | ho <;> (simp only [execOp, ho]; rfl)

theorem exec_pick' {W : World} {ev : Operand → Value} (o : Oper) (c x y : Operand) (ho : o.op = .pick c x y) (hc : ev c = .bool true) : (execOp ev o).run Try.prog W = .ok (.value (ev x)) W := by
  simp only [execOp, ho, hc]; rfl

theorem wp_enter1 {o : Oper} {a : Act} {w : World} {f : Nat} {x : Operand} {ts : Array TypeId} {arg v : Value} {next : Act → World → Prop} {Q : Exit → Act → World → Prop} (ho : o.op = .call { callee := .value (.func f), args := #[x], argTypes := ts })
    (hf : callable Try.prog f = true) (hx : a.eval x = arg) (hc : Calls Try.prog f #[arg] w fun e w' => e = .returned v ∧ Below w.heap.size w w') (hn : ∀ w', Below w.heap.size w w' → next (a.put o.dst v) w') : Oper.wp Try.prog o a w next Q := by
  refine wp_enter (exec_call ho hf w) (f := f) ?_ hn
  rw [show #[x].map a.eval = #[arg] by simp [hx]]
  exact hc

def opAt (ops : Array Oper) (i : Nat) : Oper := match ops[i]? with
  | some o => o
  | none => { dst := none, op := .move (.tmp 0), type := 0, pos := "", after := #[], guard := none }

theorem opAt_some {ops : Array Oper} {i : Nat} (h : (ops[i]?).isSome = true) : ops[i]? = some (opAt ops i) := by
  unfold opAt
  split
  · rename_i h'; exact h'
  · rename_i h'; rw [h'] at h; cases h

theorem st_value {ops : Array Oper} {Q : Exit → Act → World → Prop} {md : Region.Mode} {fuel : Nat} {listed listed' : Array Bool} {a a' : Act} {w : World} {i : Nat} {rs : List Nat} {v : Value} (h0 : (ops[i]?).isSome = true) (hw : Region.wanted (opAt ops i) (yielded ops a.tmps) = true)
    (hx : (execOp a.eval (opAt ops i)).run Try.prog w = .ok (.value v) w) (ha : a.put (opAt ops i).dst v = a') (hL : listed.setIfInBounds i true = listed') (hnext : wpAny Try.prog md ops Q fuel listed' a' w) (hs : AllReady Try.prog md ops Q fuel listed a w rs) : AllReady Try.prog md ops Q fuel listed a w (i :: rs) :=
  BigFrame.allReady_want (opAt_some h0) hw (fun K hK => wp_value hx (hK _ _ (by rw [ha, hL]; exact hnext))) hs

theorem st_call {ops : Array Oper} {Q : Exit → Act → World → Prop} {md : Region.Mode} {fuel : Nat} {listed listed' : Array Bool} {a a' : Act} {w : World} {i : Nat} {rs : List Nat} {f : Nat} {x : Operand} {ts : Array TypeId} {arg v : Value} (ho : (opAt ops i).op = .call { callee := .value (.func f), args := #[x], argTypes := ts }) (h0 : (ops[i]?).isSome = true) (hw : Region.wanted (opAt ops i) (yielded ops a.tmps) = true)
    (hf : callable Try.prog f = true) (hx : a.eval x = arg) (hc : Calls Try.prog f #[arg] w fun e w' => e = .returned v ∧ Below w.heap.size w w') (ha : a.put (opAt ops i).dst v = a') (hL : listed.setIfInBounds i true = listed')
    (hnext : ∀ w', Below w.heap.size w w' → wpAny Try.prog md ops Q fuel listed' a' w') (hs : AllReady Try.prog md ops Q fuel listed a w rs) : AllReady Try.prog md ops Q fuel listed a w (i :: rs) :=
  BigFrame.allReady_want (opAt_some h0) hw (fun K hK => wp_enter1 ho hf hx hc (fun w' hb => hK _ _ (by rw [ha, hL]; exact hnext w' hb))) hs
end Go.VM
