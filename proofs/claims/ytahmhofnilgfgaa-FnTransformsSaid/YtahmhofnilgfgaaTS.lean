/-
  A part of a small machine over the model, or of a walk by it, proved right against the model. Proved outright, under no condition but what each theorem names.
-/
import Derived.Test.YtahmhofnilgfgaaTQ
import Derived.Test.YtahmhofnilgfgaaVT
import Derived.Below
import Derived.Laws.CopyRow
namespace Go.VM
open Go Go.Proofs Go.RowKit

theorem Step.below {κ : Nat → Option Nat} {K ρ w ρ' κ' M' w'} (h : Step K ρ κ [] w ρ' κ' M' w') : Below w.heap.size w w' :=
  ⟨h.os, h.tape, h.output, h.size, fun k hk => h.keep k hk (fun i hi => absurd (alive_lt hi) (by simp))⟩

theorem pure_calls {f : Nat} {xs ys : List Int} (h : VCalls C0 f [.ints .i32 xs] [] [] (fun v M' => v = .ints .i32 ys ∧ M' = [])) (w : World) :
    Calls Try.prog f #[.agg (intVals .i32 xs).toArray] w fun e w' => e = .returned (.agg (intVals .i32 ys).toArray) ∧ Below w.heap.size w w' := by
  refine (h (fun _ => 0) (fun _ => none) w ⟨fun i b hb => by simp at hb, fun i j hi => absurd (alive_lt hi) (by simp), fun a v ha => by simp [C0] at ha, fun i b hb => by simp at hb⟩ (fun b hb => by simp [V.refsL, V.refs] at hb)).mono ?_
  rintro e w' ⟨ρ', κ', v, M', rfl, -, -, -, hs, rfl, rfl⟩
  exact ⟨rfl, hs.below⟩

noncomputable def oldC (w : World) : Ctx := { P := Try.prog, ext := fun a => if a.block < w.heap.size then w.cell? a else none }

theorem nums_of {w : World} {a : Option Addr} {len cap : Nat} {zs : List Int}
    (h : (a = none ∧ len = 0 ∧ cap = 0 ∧ zs = []) ∨ ∃ x, a = some x ∧ len ≤ cap ∧ cap ≤ maxLen ∧ zs.length = cap ∧ (∀ i, i < zs.length → w.cell? (x.add i) = some (.int .u32 (zs.getD i 0))) ∧ ∀ n ∈ zs, (Lit.int .u32 n).wf = true) :
    Nums (oldC w) (.raw (.slice a len cap)) len := by
  refine ⟨rfl, rfl, rfl, fun M => rfl, fun M i hi => ?_⟩
  rcases h with ⟨rfl, rfl, -, -⟩ | ⟨x, rfl, hl, -, hz, hc, -⟩
  · omega
  · refine ⟨.raw (.pointer (some (x.add i))), zs.getD i 0, ?_, ?_⟩
    · have h1 : (0 : Int) ≤ i := by omega
      have h2 : (i : Int) < len := by omega
      simp [vidxS, h1, h2]
    · have hcell := hc i (by omega)
      have hb : (x.add i).block < w.heap.size := by
        refine Classical.byContradiction fun hn => ?_
        have hh : w.heap[(x.add i).block]? = none := Array.getElem?_eq_none (by omega)
        simp [World.cell?, hh] at hcell
      simp only [vld, oldC]
      rw [if_pos hb, hcell]
      rfl

theorem blockOf_calls {w : World} {a : Option Addr} {len cap : Nat} {zs : List Int}
    (h : (a = none ∧ len = 0 ∧ cap = 0 ∧ zs = []) ∨ ∃ x, a = some x ∧ len ≤ cap ∧ cap ≤ maxLen ∧ zs.length = cap ∧ (∀ i, i < zs.length → w.cell? (x.add i) = some (.int .u32 (zs.getD i 0))) ∧ ∀ n ∈ zs, (Lit.int .u32 n).wf = true) (p : Bool) (W : World)
    (hW : W = w.alloc (.cells #[.slice a len cap, .int .i64 0] 27)) :
    Calls Try.prog 4 #[.pointer (some ⟨w.heap.size, 0, none⟩), .bool p] W fun e w' => ∃ ys : List Int, InB ys ∧ e = .returned (.agg (intVals .i32 ys).toArray) ∧ Below w.heap.size w w' := by
  subst hW
  have hsz : (w.alloc (.cells #[.slice a len cap, .int .i64 0] 27)).heap.size = w.heap.size + 1 := by simp
  have hbl : Below w.heap.size w (w.alloc (.cells #[.slice a len cap, .int .i64 0] 27)) := (Below.refl _ _).alloc (Nat.le_refl _) _
  refine (blockOf_spec (oldC w) rfl _ len (nums_of h) p (fun _ => w.heap.size) (fun _ => none) _ ⟨?_, ?_, ?_, ?_⟩ ?_).mono ?_
  · intro i b hb
    match i, hb with
    | 0, hb =>
      simp only [List.getElem?_cons_zero, Option.some.injEq] at hb
      subst hb
      refine ⟨#[.slice a len cap, .int .i64 0], ?_, rfl, fun j v hj _ => ?_⟩
      · show (w.heap.push _)[w.heap.size]? = _
        rw [Array.getElem?_push_size]
      · match j, hj with
        | 0, hj => simp only [List.getElem?_cons_zero, Option.some.injEq] at hj; subst hj; rfl
        | 1, hj => simp only [List.getElem?_cons_succ, List.getElem?_cons_zero, Option.some.injEq] at hj; subst hj; rfl
        | j + 2, hj => simp at hj
    | i + 1, hb => simp at hb
  · intro i j hi hj _
    have := alive_lt hi
    have := alive_lt hj
    simp at *
    omega
  · intro a' v ha
    simp only [oldC] at ha
    split at ha
    · rename_i hlt
      exact ⟨(hbl.cell hlt).trans ha, fun i _ => by omega⟩
    · cases ha
  · intro i b hb r hr
    match i, hb with
    | 0, hb =>
      simp only [List.getElem?_cons_zero, Option.some.injEq] at hb
      subst hb
      simp [mixer, Blk.refs, V.refsL, V.refs] at hr
    | i + 1, hb => simp at hb
  · intro b hb
    simp [V.refsL, V.refs] at hb
    simp [hb]
  · rintro e w' ⟨ρ', κ', v, M', rfl, -, -, -, hs, ys, k', hy, rfl, rfl⟩
    refine ⟨ys, hy, rfl, hs.os.trans hbl.os, hs.tape.trans hbl.tape, hs.output.trans hbl.output, Nat.le_trans hbl.size hs.size, fun k hk => ?_⟩
    rw [hs.keep k (by omega) (fun i _ => by omega), hbl.block k hk]

theorem intVals_length (k : IntKind) (ys : List Int) : (intVals k ys).length = ys.length := by simp [intVals]

theorem store64 {ys : List Int} (hy : ys.length = 64) (T : TypeId) (w : World) :
    Sem.run Try.prog (storeCells ⟨w.heap.size, 0, none⟩ (intVals .i32 ys)) (w.alloc (.cells (intVals .i32 (List.replicate 64 0)).toArray T)) = .ok () (w.alloc (.cells (intVals .i32 ys).toArray T)) := by
  have h := run_storeCells_at Try.prog w.heap.size 0 T (intVals .i32 ys) 0 (intVals .i32 (List.replicate 64 0)).toArray (w.alloc (.cells (intVals .i32 (List.replicate 64 0)).toArray T))
    (by show (w.heap.push _)[w.heap.size]? = _; rw [Array.getElem?_push_size]) (by simp [intVals, hy]) (by intro v hv; simp only [intVals, List.mem_map] at hv; obtain ⟨x, -, rfl⟩ := hv; rfl)
  rw [h]
  congr 1
  have e : ((intVals .i32 (List.replicate 64 0)).toArray.toList.take (0 + 0) ++ intVals .i32 ys ++ (intVals .i32 (List.replicate 64 0)).toArray.toList.drop (0 + 0 + (intVals .i32 ys).length)) = intVals .i32 ys := by
    rw [List.drop_eq_nil_of_le (by simp [intVals, hy])]; simp
  rw [e]
  have e2 : ∀ (A B : Array Obj) , A = B → ({ w with heap := A } : World) = { w with heap := B } := fun A B h => by rw [h]
  refine e2 _ _ (Array.ext_getElem? fun i => ?_)
  generalize (intVals .i32 (List.replicate 64 0)).toArray = Z
  show ((w.heap.push (.cells Z T)).modify w.heap.size _)[i]? = (w.heap.push (.cells (intVals .i32 ys).toArray T))[i]?
  rw [Array.getElem?_modify, Array.getElem?_push, Array.getElem?_push]
  by_cases hi : w.heap.size = i
  · subst hi; simp
  · have : ¬ i = w.heap.size := fun h => hi h.symm
    simp [hi, this]

theorem store64x {ys : List Int} (hy : ys.length = 64) (T : TypeId) (w : World) :
    Sem.run Try.prog (storeCells ⟨w.heap.size, 0, none⟩ (intVals .i32 ys)) (w.alloc (.cells #[Value.int IntKind.i32 0, Value.int IntKind.i32 0, Value.int IntKind.i32 0, Value.int IntKind.i32 0, Value.int IntKind.i32 0, Value.int IntKind.i32 0, Value.int IntKind.i32 0, Value.int IntKind.i32 0, Value.int IntKind.i32 0, Value.int IntKind.i32 0, Value.int IntKind.i32 0, Value.int IntKind.i32 0, Value.int IntKind.i32 0, Value.int IntKind.i32 0, Value.int IntKind.i32 0, Value.int IntKind.i32 0, Value.int IntKind.i32 0, Value.int IntKind.i32 0, Value.int IntKind.i32 0, Value.int IntKind.i32 0, Value.int IntKind.i32 0, Value.int IntKind.i32 0, Value.int IntKind.i32 0, Value.int IntKind.i32 0, Value.int IntKind.i32 0, Value.int IntKind.i32 0, Value.int IntKind.i32 0, Value.int IntKind.i32 0, Value.int IntKind.i32 0, Value.int IntKind.i32 0, Value.int IntKind.i32 0, Value.int IntKind.i32 0, Value.int IntKind.i32 0, Value.int IntKind.i32 0, Value.int IntKind.i32 0, Value.int IntKind.i32 0, Value.int IntKind.i32 0, Value.int IntKind.i32 0, Value.int IntKind.i32 0, Value.int IntKind.i32 0, Value.int IntKind.i32 0, Value.int IntKind.i32 0, Value.int IntKind.i32 0, Value.int IntKind.i32 0, Value.int IntKind.i32 0, Value.int IntKind.i32 0, Value.int IntKind.i32 0, Value.int IntKind.i32 0, Value.int IntKind.i32 0, Value.int IntKind.i32 0, Value.int IntKind.i32 0, Value.int IntKind.i32 0, Value.int IntKind.i32 0, Value.int IntKind.i32 0, Value.int IntKind.i32 0, Value.int IntKind.i32 0, Value.int IntKind.i32 0, Value.int IntKind.i32 0, Value.int IntKind.i32 0, Value.int IntKind.i32 0, Value.int IntKind.i32 0, Value.int IntKind.i32 0, Value.int IntKind.i32 0, Value.int IntKind.i32 0] T)) = .ok () (w.alloc (.cells (intVals .i32 ys).toArray T)) := store64 hy T w

theorem load64 {ys : List Int} (hy : ys.length = 64) {T : TypeId} {w : World} {b : Nat} (h : w.heap[b]? = some (.cells (intVals .i32 ys).toArray T)) :
    Sem.run Try.prog (loadCells ⟨b, 0, none⟩ 64) w = .ok (intVals .i32 ys).toArray w := by
  have := run_loadCells_list (P := Try.prog) w ⟨b, 0, none⟩ (intVals .i32 ys) (fun j v hj => by simp [World.cell?, h, Addr.add_lit, hj])
  rw [intVals_length, hy] at this
  exact this

end Go.VM
