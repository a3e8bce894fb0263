/-
  PROVED HERE: 'Rows.FnTransformsSaid': whatever slice of numbers and whatever truth value are handed to the law 'laws.FnTransforms', it returns true, and the slice that was handed in reads as it did. No further condition.
  The road: both transforms of the given code, the fast ones and the plain ones, are run on sixty-four unknown numbers by a small interpreter that is proved right against the model (the texts whose names end in two letters that begin with V), and the kernel finds the two results alike. The frame around the walk is the guide's own.
-/
import Derived.Test.YtahmhofnilgfgaaTS2
import Derived.BigRegion
import Derived.Test.YtahmhofnilgfgaaRows
import Derived.Tactics
import Derived.Tactics2
import Derived.Laws.Alloc2
import Derived.Laws.Append
import Derived.Laws.AppendOwn
import Derived.Laws.Bits
import Derived.Laws.Bits128
import Derived.Laws.Bits64
import Derived.Laws.Bits64b
import Derived.Laws.BitsAll
import Derived.Laws.BitsAllLaws
import Derived.Laws.BitsLemmas
import Derived.Laws.Build
import Derived.Laws.ByValue
import Derived.Laws.BytesString
import Derived.Laws.Cells
import Derived.Laws.Closers25
import Derived.Laws.Closers25b
import Derived.Laws.Concat
import Derived.Laws.CopyRow
import Derived.Laws.Entries
import Derived.Laws.Externs
import Derived.Laws.IdiomArrays
import Derived.Laws.IdiomMaps
import Derived.Laws.LoneSync
import Derived.Laws.MakeOwn
import Derived.Laws.MathBits
import Derived.Laws.NewBlocks
import Derived.Laws.NewDeep
import Derived.Laws.NewFold
import Derived.Laws.OwnMore
import Derived.Laws.Pointers
import Derived.Laws.RangeAny
import Derived.Laws.RangeString
import Derived.Laws.ResultCell
import Derived.Laws.Rows
import Derived.Laws.Runes
import Derived.Laws.Sem
import Derived.Laws.Shifts
import Derived.Laws.ShiftsVar
import Derived.Laws.ShiftsVarLaws
import Derived.Laws.Slices
import Derived.Laws.Small
import Derived.Laws.StandIn
import Derived.Laws.Strings
import Derived.Laws.Strings2
import Derived.Laws.Strings3
import Derived.Laws.StructEq
import Derived.Laws.Tables
import Derived.Laws.Unary
import Derived.Laws.World
import Derived.Laws.Wrap64
import Derived.Scope
import Derived.FnLit
import Derived.StillTactics
import Derived.RegionTactic
import Derived.LoopTactic
import Derived.ChangeAlike
import Derived.Laws.BytesArg
import Derived.Laws.IdiomCopy
import Derived.Laws.IdiomStrings
import Derived.Laws.IdiomRangeMap
import Derived.LoopN
import Derived.WalkMore
import Derived.ScopeJumps
import Derived.Outline
import Derived.RegionCalls
import Derived.Deep.RegionWith
import Derived.Deep.TreeCalls
import Derived.Deep.QuietTactic
import Derived.Deep.RegionWith
import Derived.Deep.Cut
import Derived.Deep.CutRange
import Derived.WalkKit
import Derived.ProofKit
import Derived.OpenShut
import Derived.ShutString
import Derived.ChangeOld
import Derived.Below
namespace Go.Proofs.Ytahmhofnilgfgaa.fnTransforms
open Go.VM Go.RowKit Go.BigFrame Go.ChangeShapes Go.WideShapes Go.ChangeAt Go.RowKit
open Go.ChangeMaps (open_string shut_string)
set_option linter.unusedVariables false

theorem own : ownKnob Try.prog.godebug = none := by kernel_rfl
theorem laidOut : laidOutB Try.prog = true := by kernel_rfl

/-- WHAT THE WALK IS TOLD OF A SLICE OF INTEGERS THAT CAME IN: it is nil; or it leads to a row of 'cap' cells, the numbers 'zs' (the first 'len' are its elements, the rest its spare room), each fitting its kind. -/
def IsRow (k : IntKind) (w : World) (a : Option Addr) (len cap : Nat) (zs : List Int) : Prop :=
  (a = none ∧ len = 0 ∧ cap = 0 ∧ zs = []) ∨
  ∃ x, a = some x ∧ len ≤ cap ∧ cap ≤ maxLen ∧ zs.length = cap ∧ (∀ i, i < zs.length → w.cell? (x.add i) = some (.int k (zs.getD i 0))) ∧ ∀ n ∈ zs, (Lit.int k n).wf = true

/-! ### STEP 1: THE WALK: the Go text returns true, AND WRITES NOTHING THAT WAS THERE: 'Below w.heap.size w w'' (Derived/Below.lean: '.refl', '.alloc', '.drew', '.setCell' at a new block, '.trans'). Open each 'IsRow' by 'rcases' AHEAD of 'go_enter'; part every test ahead of the walk. -/
set_option maxHeartbeats 4000000 in
set_option maxRecDepth 20000 in
theorem walk (a0 : Option Addr) (len0 cap0 : Nat) (z0 : List Int) (a1 : Bool) (w : World) (w0 : IsRow .u32 w a0 len0 cap0 z0) :
    Calls Try.prog 3 #[.slice a0 len0 cap0, .bool a1] w fun e w' => e = .returned (.bool true) ∧ Below w.heap.size w w' := by
  by_cases h1 : 2147483647 < (len0 : Int)
  · go_enter Try.func3, Try.ntmps3
    go_wp2_with fail
    go_ret
    exact ⟨rfl, Below.refl _ _⟩
  by_cases h2 : 100 < (len0 : Int)
  · go_enter Try.func3, Try.ntmps3
    go_wp2_with fail
    go_ret
    exact ⟨rfl, Below.refl _ _⟩
  have hc4 := fun W hW => Go.VM.blockOf_calls w0 a1 W hW
  go_enter Try.func3, Try.ntmps3
  go_wp2_with (go_at_call 4; refine (hc4 _ ?_).mono ?_; exact rfl; rintro e w1 ⟨ys, hy, rfl, hb⟩; have hl : (Go.VM.intVals .i32 ys).length = 64 := (Go.VM.intVals_length _ _).trans hy.1; have hs := Go.VM.store64x hy.1 23 w1)
  have hk : (w1.alloc (.cells (Go.VM.intVals .i32 ys).toArray 23)).heap[w1.heap.size]? = some (.cells (Go.VM.intVals .i32 ys).toArray 23) := by
    show (w1.heap.push _)[w1.heap.size]? = _
    rw [Array.getElem?_push_size]
  have hb2 : Below w.heap.size w (w1.alloc (.cells (Go.VM.intVals .i32 ys).toArray 23)) := hb.alloc hb.size _
  have hsz : w1.heap.size < (w1.alloc (.cells (Go.VM.intVals .i32 ys).toArray 23)).heap.size := by simp
  generalize w1.alloc (.cells (Go.VM.intVals .i32 ys).toArray 23) = w2 at hk hb2 hsz ⊢
  generalize w1.heap.size = b at hk hsz ⊢
  clear hs hb hc4
  have H : ∀ W, Below w2.heap.size w2 W → Sem.run Try.prog (loadCells ⟨b, 0, none⟩ 64) W = .ok (Go.VM.intVals .i32 ys).toArray W := fun W hW =>
    Go.VM.load64 hy.1 (by rw [hW.block b hsz]; exact hk)
  obtain ⟨zi, hzi, hi12, hi6⟩ := Go.VM.inverse_both ys hy.1
  obtain ⟨zf, hzf, hf16, hf8⟩ := Go.VM.forward_both ys hy.1
  have c5 := Go.VM.pure_calls (Go.VM.impl_inverse ys zi hy hzi hi12)
  have c6 := Go.VM.pure_calls hi6
  have c7 := Go.VM.pure_calls (Go.VM.impl_forward ys zf hy hzf hf16)
  have c8 := Go.VM.pure_calls hf8
  clear hi12 hi6 hf16 hf8
  have hB0 : Below w2.heap.size w2 w2.drew := (Below.refl _ _).drew
  have hl0 := H _ hB0
  rename_i K0 hK0
  have fin : ∀ W, Below w2.heap.size w2 W → K0 ⟨#[.slice a0 len0 cap0, .bool a1, undef, undef, .bool true, .pointer (some ⟨b, 0, none⟩), .slice a0 len0 cap0, .int .i64 (len0 : Nat), .bool false, .slice a0 len0 cap0, .int .i64 (len0 : Nat), .bool false, .slice a0 len0 cap0, .agg #[.slice a0 len0 cap0, .int .i64 0], .pointer (some ⟨w.heap.size, 0, none⟩), .bool a1, .agg (intVals .i32 ys).toArray, .agg (intVals .i32 ys).toArray, .agg (intVals .i32 zi).toArray, .agg (intVals .i32 ys).toArray, .agg (intVals .i32 zi).toArray, .bool true, .bool true, .agg (intVals .i32 ys).toArray, .agg (intVals .i32 zf).toArray, .agg (intVals .i32 ys).toArray, .agg (intVals .i32 zf).toArray, .bool true, .bool true], []⟩ W := by
    intro W hB
    refine hK0 _ _ ?_
    go_wp2_with fail
    go_ret
    exact ⟨rfl, hb2.trans (hB.mono hb2.size)⟩
  refine wp_region_any (by kernel_rfl) ?_
  change wpAny _ _ _ _ _ _ _ (World.drew _)
  refine wpAny_ready (rs := [0, 2]) (by kernel_rfl) (by simp) ?_
  refine st_value (a' := ⟨#[.slice a0 len0 cap0, .bool a1, undef, undef, .bool false, .pointer (some ⟨b, 0, none⟩), .slice a0 len0 cap0, .int .i64 (len0 : Nat), .bool false, .slice a0 len0 cap0, .int .i64 (len0 : Nat), .bool false, .slice a0 len0 cap0, .agg #[.slice a0 len0 cap0, .int .i64 0], .pointer (some ⟨w.heap.size, 0, none⟩), .bool a1, .agg (intVals .i32 ys).toArray, .agg (intVals .i32 ys).toArray, undef, undef, undef, undef, undef, undef, undef, undef, undef, undef, undef], []⟩) (listed' := #[true, false, false, false, false, false, false, false, false, false, false, false, false]) (by kernel_rfl) (by kernel_rfl) (exec_load64 _ (by kernel_rfl) (by kernel_rfl) (H _ hB0)) (by kernel_rfl) (by kernel_rfl) ?_ ?_
  · skip
    refine wpAny_ready (rs := [1, 2]) (by kernel_rfl) (by simp) ?_
    refine st_call (a' := ⟨#[.slice a0 len0 cap0, .bool a1, undef, undef, .bool false, .pointer (some ⟨b, 0, none⟩), .slice a0 len0 cap0, .int .i64 (len0 : Nat), .bool false, .slice a0 len0 cap0, .int .i64 (len0 : Nat), .bool false, .slice a0 len0 cap0, .agg #[.slice a0 len0 cap0, .int .i64 0], .pointer (some ⟨w.heap.size, 0, none⟩), .bool a1, .agg (intVals .i32 ys).toArray, .agg (intVals .i32 ys).toArray, .agg (intVals .i32 zi).toArray, undef, undef, undef, undef, undef, undef, undef, undef, undef, undef], []⟩) (listed' := #[true, true, false, false, false, false, false, false, false, false, false, false, false]) (f := 5) (x := .tmp 17) (ts := #[23]) (by kernel_rfl) (by kernel_rfl) (by kernel_rfl) (by kernel_rfl) (by kernel_rfl) (c5 _) (by kernel_rfl) (by kernel_rfl) (fun w2 hb2 => ?_) ?_
    · have hB2 := hB0.trans (hb2.mono hB0.size)
      refine wpAny_ready (rs := [2]) (by kernel_rfl) (by simp) ?_
      refine st_value (a' := ⟨#[.slice a0 len0 cap0, .bool a1, undef, undef, .bool false, .pointer (some ⟨b, 0, none⟩), .slice a0 len0 cap0, .int .i64 (len0 : Nat), .bool false, .slice a0 len0 cap0, .int .i64 (len0 : Nat), .bool false, .slice a0 len0 cap0, .agg #[.slice a0 len0 cap0, .int .i64 0], .pointer (some ⟨w.heap.size, 0, none⟩), .bool a1, .agg (intVals .i32 ys).toArray, .agg (intVals .i32 ys).toArray, .agg (intVals .i32 zi).toArray, .agg (intVals .i32 ys).toArray, undef, undef, undef, undef, undef, undef, undef, undef, undef], []⟩) (listed' := #[true, true, true, false, false, false, false, false, false, false, false, false, false]) (by kernel_rfl) (by kernel_rfl) (exec_load64 _ (by kernel_rfl) (by kernel_rfl) (H _ hB2)) (by kernel_rfl) (by kernel_rfl) ?_ ?_
      · skip
        refine wpAny_ready (rs := [3]) (by kernel_rfl) (by simp) ?_
        refine st_call (a' := ⟨#[.slice a0 len0 cap0, .bool a1, undef, undef, .bool false, .pointer (some ⟨b, 0, none⟩), .slice a0 len0 cap0, .int .i64 (len0 : Nat), .bool false, .slice a0 len0 cap0, .int .i64 (len0 : Nat), .bool false, .slice a0 len0 cap0, .agg #[.slice a0 len0 cap0, .int .i64 0], .pointer (some ⟨w.heap.size, 0, none⟩), .bool a1, .agg (intVals .i32 ys).toArray, .agg (intVals .i32 ys).toArray, .agg (intVals .i32 zi).toArray, .agg (intVals .i32 ys).toArray, .agg (intVals .i32 zi).toArray, undef, undef, undef, undef, undef, undef, undef, undef], []⟩) (listed' := #[true, true, true, true, false, false, false, false, false, false, false, false, false]) (f := 6) (x := .tmp 19) (ts := #[23]) (by kernel_rfl) (by kernel_rfl) (by kernel_rfl) (by kernel_rfl) (by kernel_rfl) (c6 _) (by kernel_rfl) (by kernel_rfl) (fun w4 hb4 => ?_) ?_
        · have hB4 := hB2.trans (hb4.mono hB2.size)
          refine wpAny_ready (rs := [4]) (by kernel_rfl) (by simp) ?_
          refine st_value (a' := ⟨#[.slice a0 len0 cap0, .bool a1, undef, undef, .bool false, .pointer (some ⟨b, 0, none⟩), .slice a0 len0 cap0, .int .i64 (len0 : Nat), .bool false, .slice a0 len0 cap0, .int .i64 (len0 : Nat), .bool false, .slice a0 len0 cap0, .agg #[.slice a0 len0 cap0, .int .i64 0], .pointer (some ⟨w.heap.size, 0, none⟩), .bool a1, .agg (intVals .i32 ys).toArray, .agg (intVals .i32 ys).toArray, .agg (intVals .i32 zi).toArray, .agg (intVals .i32 ys).toArray, .agg (intVals .i32 zi).toArray, .bool true, undef, undef, undef, undef, undef, undef, undef], []⟩) (listed' := #[true, true, true, true, true, false, false, false, false, false, false, false, false]) (by kernel_rfl) (by kernel_rfl) (exec_eq64 hzi _ 18 20 (by kernel_rfl) (by kernel_rfl) (by kernel_rfl)) (by kernel_rfl) (by kernel_rfl) ?_ ?_
          · skip
            refine wpAny_ready (rs := [5]) (by kernel_rfl) (by simp) ?_
            refine st_value (a' := ⟨#[.slice a0 len0 cap0, .bool a1, undef, undef, .bool false, .pointer (some ⟨b, 0, none⟩), .slice a0 len0 cap0, .int .i64 (len0 : Nat), .bool false, .slice a0 len0 cap0, .int .i64 (len0 : Nat), .bool false, .slice a0 len0 cap0, .agg #[.slice a0 len0 cap0, .int .i64 0], .pointer (some ⟨w.heap.size, 0, none⟩), .bool a1, .agg (intVals .i32 ys).toArray, .agg (intVals .i32 ys).toArray, .agg (intVals .i32 zi).toArray, .agg (intVals .i32 ys).toArray, .agg (intVals .i32 zi).toArray, .bool true, .bool true, undef, undef, undef, undef, undef, undef], []⟩) (listed' := #[true, true, true, true, true, true, false, false, false, false, false, false, false]) (by kernel_rfl) (by kernel_rfl) (exec_move' _ (.tmp 21) (.inl (by kernel_rfl))) (by kernel_rfl) (by kernel_rfl) ?_ ?_
            · skip
              refine wpAny_ready (rs := [6, 8]) (by kernel_rfl) (by simp) ?_
              refine st_value (a' := ⟨#[.slice a0 len0 cap0, .bool a1, undef, undef, .bool false, .pointer (some ⟨b, 0, none⟩), .slice a0 len0 cap0, .int .i64 (len0 : Nat), .bool false, .slice a0 len0 cap0, .int .i64 (len0 : Nat), .bool false, .slice a0 len0 cap0, .agg #[.slice a0 len0 cap0, .int .i64 0], .pointer (some ⟨w.heap.size, 0, none⟩), .bool a1, .agg (intVals .i32 ys).toArray, .agg (intVals .i32 ys).toArray, .agg (intVals .i32 zi).toArray, .agg (intVals .i32 ys).toArray, .agg (intVals .i32 zi).toArray, .bool true, .bool true, .agg (intVals .i32 ys).toArray, undef, undef, undef, undef, undef], []⟩) (listed' := #[true, true, true, true, true, true, true, false, false, false, false, false, false]) (by kernel_rfl) (by kernel_rfl) (exec_load64 _ (by kernel_rfl) (by kernel_rfl) (H _ hB4)) (by kernel_rfl) (by kernel_rfl) ?_ ?_
              · skip
                refine wpAny_ready (rs := [7, 8]) (by kernel_rfl) (by simp) ?_
                refine st_call (a' := ⟨#[.slice a0 len0 cap0, .bool a1, undef, undef, .bool false, .pointer (some ⟨b, 0, none⟩), .slice a0 len0 cap0, .int .i64 (len0 : Nat), .bool false, .slice a0 len0 cap0, .int .i64 (len0 : Nat), .bool false, .slice a0 len0 cap0, .agg #[.slice a0 len0 cap0, .int .i64 0], .pointer (some ⟨w.heap.size, 0, none⟩), .bool a1, .agg (intVals .i32 ys).toArray, .agg (intVals .i32 ys).toArray, .agg (intVals .i32 zi).toArray, .agg (intVals .i32 ys).toArray, .agg (intVals .i32 zi).toArray, .bool true, .bool true, .agg (intVals .i32 ys).toArray, .agg (intVals .i32 zf).toArray, undef, undef, undef, undef], []⟩) (listed' := #[true, true, true, true, true, true, true, true, false, false, false, false, false]) (f := 7) (x := .tmp 23) (ts := #[23]) (by kernel_rfl) (by kernel_rfl) (by kernel_rfl) (by kernel_rfl) (by kernel_rfl) (c7 _) (by kernel_rfl) (by kernel_rfl) (fun w8 hb8 => ?_) ?_
                · have hB8 := hB4.trans (hb8.mono hB4.size)
                  refine wpAny_ready (rs := [8]) (by kernel_rfl) (by simp) ?_
                  refine st_value (a' := ⟨#[.slice a0 len0 cap0, .bool a1, undef, undef, .bool false, .pointer (some ⟨b, 0, none⟩), .slice a0 len0 cap0, .int .i64 (len0 : Nat), .bool false, .slice a0 len0 cap0, .int .i64 (len0 : Nat), .bool false, .slice a0 len0 cap0, .agg #[.slice a0 len0 cap0, .int .i64 0], .pointer (some ⟨w.heap.size, 0, none⟩), .bool a1, .agg (intVals .i32 ys).toArray, .agg (intVals .i32 ys).toArray, .agg (intVals .i32 zi).toArray, .agg (intVals .i32 ys).toArray, .agg (intVals .i32 zi).toArray, .bool true, .bool true, .agg (intVals .i32 ys).toArray, .agg (intVals .i32 zf).toArray, .agg (intVals .i32 ys).toArray, undef, undef, undef], []⟩) (listed' := #[true, true, true, true, true, true, true, true, true, false, false, false, false]) (by kernel_rfl) (by kernel_rfl) (exec_load64 _ (by kernel_rfl) (by kernel_rfl) (H _ hB8)) (by kernel_rfl) (by kernel_rfl) ?_ ?_
                  · skip
                    refine wpAny_ready (rs := [9]) (by kernel_rfl) (by simp) ?_
                    refine st_call (a' := ⟨#[.slice a0 len0 cap0, .bool a1, undef, undef, .bool false, .pointer (some ⟨b, 0, none⟩), .slice a0 len0 cap0, .int .i64 (len0 : Nat), .bool false, .slice a0 len0 cap0, .int .i64 (len0 : Nat), .bool false, .slice a0 len0 cap0, .agg #[.slice a0 len0 cap0, .int .i64 0], .pointer (some ⟨w.heap.size, 0, none⟩), .bool a1, .agg (intVals .i32 ys).toArray, .agg (intVals .i32 ys).toArray, .agg (intVals .i32 zi).toArray, .agg (intVals .i32 ys).toArray, .agg (intVals .i32 zi).toArray, .bool true, .bool true, .agg (intVals .i32 ys).toArray, .agg (intVals .i32 zf).toArray, .agg (intVals .i32 ys).toArray, .agg (intVals .i32 zf).toArray, undef, undef], []⟩) (listed' := #[true, true, true, true, true, true, true, true, true, true, false, false, false]) (f := 8) (x := .tmp 25) (ts := #[23]) (by kernel_rfl) (by kernel_rfl) (by kernel_rfl) (by kernel_rfl) (by kernel_rfl) (c8 _) (by kernel_rfl) (by kernel_rfl) (fun w10 hb10 => ?_) ?_
                    · have hB10 := hB8.trans (hb10.mono hB8.size)
                      refine wpAny_ready (rs := [10]) (by kernel_rfl) (by simp) ?_
                      refine st_value (a' := ⟨#[.slice a0 len0 cap0, .bool a1, undef, undef, .bool false, .pointer (some ⟨b, 0, none⟩), .slice a0 len0 cap0, .int .i64 (len0 : Nat), .bool false, .slice a0 len0 cap0, .int .i64 (len0 : Nat), .bool false, .slice a0 len0 cap0, .agg #[.slice a0 len0 cap0, .int .i64 0], .pointer (some ⟨w.heap.size, 0, none⟩), .bool a1, .agg (intVals .i32 ys).toArray, .agg (intVals .i32 ys).toArray, .agg (intVals .i32 zi).toArray, .agg (intVals .i32 ys).toArray, .agg (intVals .i32 zi).toArray, .bool true, .bool true, .agg (intVals .i32 ys).toArray, .agg (intVals .i32 zf).toArray, .agg (intVals .i32 ys).toArray, .agg (intVals .i32 zf).toArray, .bool true, undef], []⟩) (listed' := #[true, true, true, true, true, true, true, true, true, true, true, false, false]) (by kernel_rfl) (by kernel_rfl) (exec_eq64 hzf _ 24 26 (by kernel_rfl) (by kernel_rfl) (by kernel_rfl)) (by kernel_rfl) (by kernel_rfl) ?_ ?_
                      · skip
                        refine wpAny_ready (rs := [11]) (by kernel_rfl) (by simp) ?_
                        refine st_value (a' := ⟨#[.slice a0 len0 cap0, .bool a1, undef, undef, .bool false, .pointer (some ⟨b, 0, none⟩), .slice a0 len0 cap0, .int .i64 (len0 : Nat), .bool false, .slice a0 len0 cap0, .int .i64 (len0 : Nat), .bool false, .slice a0 len0 cap0, .agg #[.slice a0 len0 cap0, .int .i64 0], .pointer (some ⟨w.heap.size, 0, none⟩), .bool a1, .agg (intVals .i32 ys).toArray, .agg (intVals .i32 ys).toArray, .agg (intVals .i32 zi).toArray, .agg (intVals .i32 ys).toArray, .agg (intVals .i32 zi).toArray, .bool true, .bool true, .agg (intVals .i32 ys).toArray, .agg (intVals .i32 zf).toArray, .agg (intVals .i32 ys).toArray, .agg (intVals .i32 zf).toArray, .bool true, .bool true], []⟩) (listed' := #[true, true, true, true, true, true, true, true, true, true, true, true, false]) (by kernel_rfl) (by kernel_rfl) (exec_pick' _ (.tmp 22) (.tmp 27) (.const (.bool false)) (by kernel_rfl) (by kernel_rfl)) (by kernel_rfl) (by kernel_rfl) ?_ ?_
                        · skip
                          refine wpAny_ready (rs := [12]) (by kernel_rfl) (by simp) ?_
                          refine st_value (a' := ⟨#[.slice a0 len0 cap0, .bool a1, undef, undef, .bool true, .pointer (some ⟨b, 0, none⟩), .slice a0 len0 cap0, .int .i64 (len0 : Nat), .bool false, .slice a0 len0 cap0, .int .i64 (len0 : Nat), .bool false, .slice a0 len0 cap0, .agg #[.slice a0 len0 cap0, .int .i64 0], .pointer (some ⟨w.heap.size, 0, none⟩), .bool a1, .agg (intVals .i32 ys).toArray, .agg (intVals .i32 ys).toArray, .agg (intVals .i32 zi).toArray, .agg (intVals .i32 ys).toArray, .agg (intVals .i32 zi).toArray, .bool true, .bool true, .agg (intVals .i32 ys).toArray, .agg (intVals .i32 zf).toArray, .agg (intVals .i32 ys).toArray, .agg (intVals .i32 zf).toArray, .bool true, .bool true], []⟩) (listed' := #[true, true, true, true, true, true, true, true, true, true, true, true, true]) (by kernel_rfl) (by kernel_rfl) (exec_move' _ (.tmp 28) (.inr (by kernel_rfl))) (by kernel_rfl) (by kernel_rfl) ?_ ?_
                          · skip
                            refine wpAny_done (by kernel_rfl) ?_ _
                            exact fin _ hB10
                          exact AllReady.nil
                        exact AllReady.nil
                      exact AllReady.nil
                    exact AllReady.nil
                  exact AllReady.nil
                refine st_value (a' := ⟨#[.slice a0 len0 cap0, .bool a1, undef, undef, .bool false, .pointer (some ⟨b, 0, none⟩), .slice a0 len0 cap0, .int .i64 (len0 : Nat), .bool false, .slice a0 len0 cap0, .int .i64 (len0 : Nat), .bool false, .slice a0 len0 cap0, .agg #[.slice a0 len0 cap0, .int .i64 0], .pointer (some ⟨w.heap.size, 0, none⟩), .bool a1, .agg (intVals .i32 ys).toArray, .agg (intVals .i32 ys).toArray, .agg (intVals .i32 zi).toArray, .agg (intVals .i32 ys).toArray, .agg (intVals .i32 zi).toArray, .bool true, .bool true, .agg (intVals .i32 ys).toArray, undef, .agg (intVals .i32 ys).toArray, undef, undef, undef], []⟩) (listed' := #[true, true, true, true, true, true, true, false, true, false, false, false, false]) (by kernel_rfl) (by kernel_rfl) (exec_load64 _ (by kernel_rfl) (by kernel_rfl) (H _ hB4)) (by kernel_rfl) (by kernel_rfl) ?_ ?_
                · skip
                  refine wpAny_ready (rs := [7]) (by kernel_rfl) (by simp) ?_
                  refine st_call (a' := ⟨#[.slice a0 len0 cap0, .bool a1, undef, undef, .bool false, .pointer (some ⟨b, 0, none⟩), .slice a0 len0 cap0, .int .i64 (len0 : Nat), .bool false, .slice a0 len0 cap0, .int .i64 (len0 : Nat), .bool false, .slice a0 len0 cap0, .agg #[.slice a0 len0 cap0, .int .i64 0], .pointer (some ⟨w.heap.size, 0, none⟩), .bool a1, .agg (intVals .i32 ys).toArray, .agg (intVals .i32 ys).toArray, .agg (intVals .i32 zi).toArray, .agg (intVals .i32 ys).toArray, .agg (intVals .i32 zi).toArray, .bool true, .bool true, .agg (intVals .i32 ys).toArray, .agg (intVals .i32 zf).toArray, .agg (intVals .i32 ys).toArray, undef, undef, undef], []⟩) (listed' := #[true, true, true, true, true, true, true, true, true, false, false, false, false]) (f := 7) (x := .tmp 23) (ts := #[23]) (by kernel_rfl) (by kernel_rfl) (by kernel_rfl) (by kernel_rfl) (by kernel_rfl) (c7 _) (by kernel_rfl) (by kernel_rfl) (fun w9 hb9 => ?_) ?_
                  · have hB9 := hB4.trans (hb9.mono hB4.size)
                    refine wpAny_ready (rs := [9]) (by kernel_rfl) (by simp) ?_
                    refine st_call (a' := ⟨#[.slice a0 len0 cap0, .bool a1, undef, undef, .bool false, .pointer (some ⟨b, 0, none⟩), .slice a0 len0 cap0, .int .i64 (len0 : Nat), .bool false, .slice a0 len0 cap0, .int .i64 (len0 : Nat), .bool false, .slice a0 len0 cap0, .agg #[.slice a0 len0 cap0, .int .i64 0], .pointer (some ⟨w.heap.size, 0, none⟩), .bool a1, .agg (intVals .i32 ys).toArray, .agg (intVals .i32 ys).toArray, .agg (intVals .i32 zi).toArray, .agg (intVals .i32 ys).toArray, .agg (intVals .i32 zi).toArray, .bool true, .bool true, .agg (intVals .i32 ys).toArray, .agg (intVals .i32 zf).toArray, .agg (intVals .i32 ys).toArray, .agg (intVals .i32 zf).toArray, undef, undef], []⟩) (listed' := #[true, true, true, true, true, true, true, true, true, true, false, false, false]) (f := 8) (x := .tmp 25) (ts := #[23]) (by kernel_rfl) (by kernel_rfl) (by kernel_rfl) (by kernel_rfl) (by kernel_rfl) (c8 _) (by kernel_rfl) (by kernel_rfl) (fun w10 hb10 => ?_) ?_
                    · have hB10 := hB9.trans (hb10.mono hB9.size)
                      refine wpAny_ready (rs := [10]) (by kernel_rfl) (by simp) ?_
                      refine st_value (a' := ⟨#[.slice a0 len0 cap0, .bool a1, undef, undef, .bool false, .pointer (some ⟨b, 0, none⟩), .slice a0 len0 cap0, .int .i64 (len0 : Nat), .bool false, .slice a0 len0 cap0, .int .i64 (len0 : Nat), .bool false, .slice a0 len0 cap0, .agg #[.slice a0 len0 cap0, .int .i64 0], .pointer (some ⟨w.heap.size, 0, none⟩), .bool a1, .agg (intVals .i32 ys).toArray, .agg (intVals .i32 ys).toArray, .agg (intVals .i32 zi).toArray, .agg (intVals .i32 ys).toArray, .agg (intVals .i32 zi).toArray, .bool true, .bool true, .agg (intVals .i32 ys).toArray, .agg (intVals .i32 zf).toArray, .agg (intVals .i32 ys).toArray, .agg (intVals .i32 zf).toArray, .bool true, undef], []⟩) (listed' := #[true, true, true, true, true, true, true, true, true, true, true, false, false]) (by kernel_rfl) (by kernel_rfl) (exec_eq64 hzf _ 24 26 (by kernel_rfl) (by kernel_rfl) (by kernel_rfl)) (by kernel_rfl) (by kernel_rfl) ?_ ?_
                      · skip
                        refine wpAny_ready (rs := [11]) (by kernel_rfl) (by simp) ?_
                        refine st_value (a' := ⟨#[.slice a0 len0 cap0, .bool a1, undef, undef, .bool false, .pointer (some ⟨b, 0, none⟩), .slice a0 len0 cap0, .int .i64 (len0 : Nat), .bool false, .slice a0 len0 cap0, .int .i64 (len0 : Nat), .bool false, .slice a0 len0 cap0, .agg #[.slice a0 len0 cap0, .int .i64 0], .pointer (some ⟨w.heap.size, 0, none⟩), .bool a1, .agg (intVals .i32 ys).toArray, .agg (intVals .i32 ys).toArray, .agg (intVals .i32 zi).toArray, .agg (intVals .i32 ys).toArray, .agg (intVals .i32 zi).toArray, .bool true, .bool true, .agg (intVals .i32 ys).toArray, .agg (intVals .i32 zf).toArray, .agg (intVals .i32 ys).toArray, .agg (intVals .i32 zf).toArray, .bool true, .bool true], []⟩) (listed' := #[true, true, true, true, true, true, true, true, true, true, true, true, false]) (by kernel_rfl) (by kernel_rfl) (exec_pick' _ (.tmp 22) (.tmp 27) (.const (.bool false)) (by kernel_rfl) (by kernel_rfl)) (by kernel_rfl) (by kernel_rfl) ?_ ?_
                        · skip
                          refine wpAny_ready (rs := [12]) (by kernel_rfl) (by simp) ?_
                          refine st_value (a' := ⟨#[.slice a0 len0 cap0, .bool a1, undef, undef, .bool true, .pointer (some ⟨b, 0, none⟩), .slice a0 len0 cap0, .int .i64 (len0 : Nat), .bool false, .slice a0 len0 cap0, .int .i64 (len0 : Nat), .bool false, .slice a0 len0 cap0, .agg #[.slice a0 len0 cap0, .int .i64 0], .pointer (some ⟨w.heap.size, 0, none⟩), .bool a1, .agg (intVals .i32 ys).toArray, .agg (intVals .i32 ys).toArray, .agg (intVals .i32 zi).toArray, .agg (intVals .i32 ys).toArray, .agg (intVals .i32 zi).toArray, .bool true, .bool true, .agg (intVals .i32 ys).toArray, .agg (intVals .i32 zf).toArray, .agg (intVals .i32 ys).toArray, .agg (intVals .i32 zf).toArray, .bool true, .bool true], []⟩) (listed' := #[true, true, true, true, true, true, true, true, true, true, true, true, true]) (by kernel_rfl) (by kernel_rfl) (exec_move' _ (.tmp 28) (.inr (by kernel_rfl))) (by kernel_rfl) (by kernel_rfl) ?_ ?_
                          · skip
                            refine wpAny_done (by kernel_rfl) ?_ _
                            exact fin _ hB10
                          exact AllReady.nil
                        exact AllReady.nil
                      exact AllReady.nil
                    exact AllReady.nil
                  exact AllReady.nil
                exact AllReady.nil
              refine st_value (a' := ⟨#[.slice a0 len0 cap0, .bool a1, undef, undef, .bool false, .pointer (some ⟨b, 0, none⟩), .slice a0 len0 cap0, .int .i64 (len0 : Nat), .bool false, .slice a0 len0 cap0, .int .i64 (len0 : Nat), .bool false, .slice a0 len0 cap0, .agg #[.slice a0 len0 cap0, .int .i64 0], .pointer (some ⟨w.heap.size, 0, none⟩), .bool a1, .agg (intVals .i32 ys).toArray, .agg (intVals .i32 ys).toArray, .agg (intVals .i32 zi).toArray, .agg (intVals .i32 ys).toArray, .agg (intVals .i32 zi).toArray, .bool true, .bool true, undef, undef, .agg (intVals .i32 ys).toArray, undef, undef, undef], []⟩) (listed' := #[true, true, true, true, true, true, false, false, true, false, false, false, false]) (by kernel_rfl) (by kernel_rfl) (exec_load64 _ (by kernel_rfl) (by kernel_rfl) (H _ hB4)) (by kernel_rfl) (by kernel_rfl) ?_ ?_
              · skip
                refine wpAny_ready (rs := [6]) (by kernel_rfl) (by simp) ?_
                refine st_value (a' := ⟨#[.slice a0 len0 cap0, .bool a1, undef, undef, .bool false, .pointer (some ⟨b, 0, none⟩), .slice a0 len0 cap0, .int .i64 (len0 : Nat), .bool false, .slice a0 len0 cap0, .int .i64 (len0 : Nat), .bool false, .slice a0 len0 cap0, .agg #[.slice a0 len0 cap0, .int .i64 0], .pointer (some ⟨w.heap.size, 0, none⟩), .bool a1, .agg (intVals .i32 ys).toArray, .agg (intVals .i32 ys).toArray, .agg (intVals .i32 zi).toArray, .agg (intVals .i32 ys).toArray, .agg (intVals .i32 zi).toArray, .bool true, .bool true, .agg (intVals .i32 ys).toArray, undef, .agg (intVals .i32 ys).toArray, undef, undef, undef], []⟩) (listed' := #[true, true, true, true, true, true, true, false, true, false, false, false, false]) (by kernel_rfl) (by kernel_rfl) (exec_load64 _ (by kernel_rfl) (by kernel_rfl) (H _ hB4)) (by kernel_rfl) (by kernel_rfl) ?_ ?_
                · skip
                  refine wpAny_ready (rs := [7]) (by kernel_rfl) (by simp) ?_
                  refine st_call (a' := ⟨#[.slice a0 len0 cap0, .bool a1, undef, undef, .bool false, .pointer (some ⟨b, 0, none⟩), .slice a0 len0 cap0, .int .i64 (len0 : Nat), .bool false, .slice a0 len0 cap0, .int .i64 (len0 : Nat), .bool false, .slice a0 len0 cap0, .agg #[.slice a0 len0 cap0, .int .i64 0], .pointer (some ⟨w.heap.size, 0, none⟩), .bool a1, .agg (intVals .i32 ys).toArray, .agg (intVals .i32 ys).toArray, .agg (intVals .i32 zi).toArray, .agg (intVals .i32 ys).toArray, .agg (intVals .i32 zi).toArray, .bool true, .bool true, .agg (intVals .i32 ys).toArray, .agg (intVals .i32 zf).toArray, .agg (intVals .i32 ys).toArray, undef, undef, undef], []⟩) (listed' := #[true, true, true, true, true, true, true, true, true, false, false, false, false]) (f := 7) (x := .tmp 23) (ts := #[23]) (by kernel_rfl) (by kernel_rfl) (by kernel_rfl) (by kernel_rfl) (by kernel_rfl) (c7 _) (by kernel_rfl) (by kernel_rfl) (fun w9 hb9 => ?_) ?_
                  · have hB9 := hB4.trans (hb9.mono hB4.size)
                    refine wpAny_ready (rs := [9]) (by kernel_rfl) (by simp) ?_
                    refine st_call (a' := ⟨#[.slice a0 len0 cap0, .bool a1, undef, undef, .bool false, .pointer (some ⟨b, 0, none⟩), .slice a0 len0 cap0, .int .i64 (len0 : Nat), .bool false, .slice a0 len0 cap0, .int .i64 (len0 : Nat), .bool false, .slice a0 len0 cap0, .agg #[.slice a0 len0 cap0, .int .i64 0], .pointer (some ⟨w.heap.size, 0, none⟩), .bool a1, .agg (intVals .i32 ys).toArray, .agg (intVals .i32 ys).toArray, .agg (intVals .i32 zi).toArray, .agg (intVals .i32 ys).toArray, .agg (intVals .i32 zi).toArray, .bool true, .bool true, .agg (intVals .i32 ys).toArray, .agg (intVals .i32 zf).toArray, .agg (intVals .i32 ys).toArray, .agg (intVals .i32 zf).toArray, undef, undef], []⟩) (listed' := #[true, true, true, true, true, true, true, true, true, true, false, false, false]) (f := 8) (x := .tmp 25) (ts := #[23]) (by kernel_rfl) (by kernel_rfl) (by kernel_rfl) (by kernel_rfl) (by kernel_rfl) (c8 _) (by kernel_rfl) (by kernel_rfl) (fun w10 hb10 => ?_) ?_
                    · have hB10 := hB9.trans (hb10.mono hB9.size)
                      refine wpAny_ready (rs := [10]) (by kernel_rfl) (by simp) ?_
                      refine st_value (a' := ⟨#[.slice a0 len0 cap0, .bool a1, undef, undef, .bool false, .pointer (some ⟨b, 0, none⟩), .slice a0 len0 cap0, .int .i64 (len0 : Nat), .bool false, .slice a0 len0 cap0, .int .i64 (len0 : Nat), .bool false, .slice a0 len0 cap0, .agg #[.slice a0 len0 cap0, .int .i64 0], .pointer (some ⟨w.heap.size, 0, none⟩), .bool a1, .agg (intVals .i32 ys).toArray, .agg (intVals .i32 ys).toArray, .agg (intVals .i32 zi).toArray, .agg (intVals .i32 ys).toArray, .agg (intVals .i32 zi).toArray, .bool true, .bool true, .agg (intVals .i32 ys).toArray, .agg (intVals .i32 zf).toArray, .agg (intVals .i32 ys).toArray, .agg (intVals .i32 zf).toArray, .bool true, undef], []⟩) (listed' := #[true, true, true, true, true, true, true, true, true, true, true, false, false]) (by kernel_rfl) (by kernel_rfl) (exec_eq64 hzf _ 24 26 (by kernel_rfl) (by kernel_rfl) (by kernel_rfl)) (by kernel_rfl) (by kernel_rfl) ?_ ?_
                      · skip
                        refine wpAny_ready (rs := [11]) (by kernel_rfl) (by simp) ?_
                        refine st_value (a' := ⟨#[.slice a0 len0 cap0, .bool a1, undef, undef, .bool false, .pointer (some ⟨b, 0, none⟩), .slice a0 len0 cap0, .int .i64 (len0 : Nat), .bool false, .slice a0 len0 cap0, .int .i64 (len0 : Nat), .bool false, .slice a0 len0 cap0, .agg #[.slice a0 len0 cap0, .int .i64 0], .pointer (some ⟨w.heap.size, 0, none⟩), .bool a1, .agg (intVals .i32 ys).toArray, .agg (intVals .i32 ys).toArray, .agg (intVals .i32 zi).toArray, .agg (intVals .i32 ys).toArray, .agg (intVals .i32 zi).toArray, .bool true, .bool true, .agg (intVals .i32 ys).toArray, .agg (intVals .i32 zf).toArray, .agg (intVals .i32 ys).toArray, .agg (intVals .i32 zf).toArray, .bool true, .bool true], []⟩) (listed' := #[true, true, true, true, true, true, true, true, true, true, true, true, false]) (by kernel_rfl) (by kernel_rfl) (exec_pick' _ (.tmp 22) (.tmp 27) (.const (.bool false)) (by kernel_rfl) (by kernel_rfl)) (by kernel_rfl) (by kernel_rfl) ?_ ?_
                        · skip
                          refine wpAny_ready (rs := [12]) (by kernel_rfl) (by simp) ?_
                          refine st_value (a' := ⟨#[.slice a0 len0 cap0, .bool a1, undef, undef, .bool true, .pointer (some ⟨b, 0, none⟩), .slice a0 len0 cap0, .int .i64 (len0 : Nat), .bool false, .slice a0 len0 cap0, .int .i64 (len0 : Nat), .bool false, .slice a0 len0 cap0, .agg #[.slice a0 len0 cap0, .int .i64 0], .pointer (some ⟨w.heap.size, 0, none⟩), .bool a1, .agg (intVals .i32 ys).toArray, .agg (intVals .i32 ys).toArray, .agg (intVals .i32 zi).toArray, .agg (intVals .i32 ys).toArray, .agg (intVals .i32 zi).toArray, .bool true, .bool true, .agg (intVals .i32 ys).toArray, .agg (intVals .i32 zf).toArray, .agg (intVals .i32 ys).toArray, .agg (intVals .i32 zf).toArray, .bool true, .bool true], []⟩) (listed' := #[true, true, true, true, true, true, true, true, true, true, true, true, true]) (by kernel_rfl) (by kernel_rfl) (exec_move' _ (.tmp 28) (.inr (by kernel_rfl))) (by kernel_rfl) (by kernel_rfl) ?_ ?_
                          · skip
                            refine wpAny_done (by kernel_rfl) ?_ _
                            exact fin _ hB10
                          exact AllReady.nil
                        exact AllReady.nil
                      exact AllReady.nil
                    exact AllReady.nil
                  exact AllReady.nil
                exact AllReady.nil
              exact AllReady.nil
            exact AllReady.nil
          exact AllReady.nil
        exact AllReady.nil
      exact AllReady.nil
    refine st_value (a' := ⟨#[.slice a0 len0 cap0, .bool a1, undef, undef, .bool false, .pointer (some ⟨b, 0, none⟩), .slice a0 len0 cap0, .int .i64 (len0 : Nat), .bool false, .slice a0 len0 cap0, .int .i64 (len0 : Nat), .bool false, .slice a0 len0 cap0, .agg #[.slice a0 len0 cap0, .int .i64 0], .pointer (some ⟨w.heap.size, 0, none⟩), .bool a1, .agg (intVals .i32 ys).toArray, .agg (intVals .i32 ys).toArray, undef, .agg (intVals .i32 ys).toArray, undef, undef, undef, undef, undef, undef, undef, undef, undef], []⟩) (listed' := #[true, false, true, false, false, false, false, false, false, false, false, false, false]) (by kernel_rfl) (by kernel_rfl) (exec_load64 _ (by kernel_rfl) (by kernel_rfl) (H _ hB0)) (by kernel_rfl) (by kernel_rfl) ?_ ?_
    · skip
      refine wpAny_ready (rs := [1]) (by kernel_rfl) (by simp) ?_
      refine st_call (a' := ⟨#[.slice a0 len0 cap0, .bool a1, undef, undef, .bool false, .pointer (some ⟨b, 0, none⟩), .slice a0 len0 cap0, .int .i64 (len0 : Nat), .bool false, .slice a0 len0 cap0, .int .i64 (len0 : Nat), .bool false, .slice a0 len0 cap0, .agg #[.slice a0 len0 cap0, .int .i64 0], .pointer (some ⟨w.heap.size, 0, none⟩), .bool a1, .agg (intVals .i32 ys).toArray, .agg (intVals .i32 ys).toArray, .agg (intVals .i32 zi).toArray, .agg (intVals .i32 ys).toArray, undef, undef, undef, undef, undef, undef, undef, undef, undef], []⟩) (listed' := #[true, true, true, false, false, false, false, false, false, false, false, false, false]) (f := 5) (x := .tmp 17) (ts := #[23]) (by kernel_rfl) (by kernel_rfl) (by kernel_rfl) (by kernel_rfl) (by kernel_rfl) (c5 _) (by kernel_rfl) (by kernel_rfl) (fun w3 hb3 => ?_) ?_
      · have hB3 := hB0.trans (hb3.mono hB0.size)
        refine wpAny_ready (rs := [3]) (by kernel_rfl) (by simp) ?_
        refine st_call (a' := ⟨#[.slice a0 len0 cap0, .bool a1, undef, undef, .bool false, .pointer (some ⟨b, 0, none⟩), .slice a0 len0 cap0, .int .i64 (len0 : Nat), .bool false, .slice a0 len0 cap0, .int .i64 (len0 : Nat), .bool false, .slice a0 len0 cap0, .agg #[.slice a0 len0 cap0, .int .i64 0], .pointer (some ⟨w.heap.size, 0, none⟩), .bool a1, .agg (intVals .i32 ys).toArray, .agg (intVals .i32 ys).toArray, .agg (intVals .i32 zi).toArray, .agg (intVals .i32 ys).toArray, .agg (intVals .i32 zi).toArray, undef, undef, undef, undef, undef, undef, undef, undef], []⟩) (listed' := #[true, true, true, true, false, false, false, false, false, false, false, false, false]) (f := 6) (x := .tmp 19) (ts := #[23]) (by kernel_rfl) (by kernel_rfl) (by kernel_rfl) (by kernel_rfl) (by kernel_rfl) (c6 _) (by kernel_rfl) (by kernel_rfl) (fun w4 hb4 => ?_) ?_
        · have hB4 := hB3.trans (hb4.mono hB3.size)
          refine wpAny_ready (rs := [4]) (by kernel_rfl) (by simp) ?_
          refine st_value (a' := ⟨#[.slice a0 len0 cap0, .bool a1, undef, undef, .bool false, .pointer (some ⟨b, 0, none⟩), .slice a0 len0 cap0, .int .i64 (len0 : Nat), .bool false, .slice a0 len0 cap0, .int .i64 (len0 : Nat), .bool false, .slice a0 len0 cap0, .agg #[.slice a0 len0 cap0, .int .i64 0], .pointer (some ⟨w.heap.size, 0, none⟩), .bool a1, .agg (intVals .i32 ys).toArray, .agg (intVals .i32 ys).toArray, .agg (intVals .i32 zi).toArray, .agg (intVals .i32 ys).toArray, .agg (intVals .i32 zi).toArray, .bool true, undef, undef, undef, undef, undef, undef, undef], []⟩) (listed' := #[true, true, true, true, true, false, false, false, false, false, false, false, false]) (by kernel_rfl) (by kernel_rfl) (exec_eq64 hzi _ 18 20 (by kernel_rfl) (by kernel_rfl) (by kernel_rfl)) (by kernel_rfl) (by kernel_rfl) ?_ ?_
          · skip
            refine wpAny_ready (rs := [5]) (by kernel_rfl) (by simp) ?_
            refine st_value (a' := ⟨#[.slice a0 len0 cap0, .bool a1, undef, undef, .bool false, .pointer (some ⟨b, 0, none⟩), .slice a0 len0 cap0, .int .i64 (len0 : Nat), .bool false, .slice a0 len0 cap0, .int .i64 (len0 : Nat), .bool false, .slice a0 len0 cap0, .agg #[.slice a0 len0 cap0, .int .i64 0], .pointer (some ⟨w.heap.size, 0, none⟩), .bool a1, .agg (intVals .i32 ys).toArray, .agg (intVals .i32 ys).toArray, .agg (intVals .i32 zi).toArray, .agg (intVals .i32 ys).toArray, .agg (intVals .i32 zi).toArray, .bool true, .bool true, undef, undef, undef, undef, undef, undef], []⟩) (listed' := #[true, true, true, true, true, true, false, false, false, false, false, false, false]) (by kernel_rfl) (by kernel_rfl) (exec_move' _ (.tmp 21) (.inl (by kernel_rfl))) (by kernel_rfl) (by kernel_rfl) ?_ ?_
            · skip
              refine wpAny_ready (rs := [6, 8]) (by kernel_rfl) (by simp) ?_
              refine st_value (a' := ⟨#[.slice a0 len0 cap0, .bool a1, undef, undef, .bool false, .pointer (some ⟨b, 0, none⟩), .slice a0 len0 cap0, .int .i64 (len0 : Nat), .bool false, .slice a0 len0 cap0, .int .i64 (len0 : Nat), .bool false, .slice a0 len0 cap0, .agg #[.slice a0 len0 cap0, .int .i64 0], .pointer (some ⟨w.heap.size, 0, none⟩), .bool a1, .agg (intVals .i32 ys).toArray, .agg (intVals .i32 ys).toArray, .agg (intVals .i32 zi).toArray, .agg (intVals .i32 ys).toArray, .agg (intVals .i32 zi).toArray, .bool true, .bool true, .agg (intVals .i32 ys).toArray, undef, undef, undef, undef, undef], []⟩) (listed' := #[true, true, true, true, true, true, true, false, false, false, false, false, false]) (by kernel_rfl) (by kernel_rfl) (exec_load64 _ (by kernel_rfl) (by kernel_rfl) (H _ hB4)) (by kernel_rfl) (by kernel_rfl) ?_ ?_
              · skip
                refine wpAny_ready (rs := [7, 8]) (by kernel_rfl) (by simp) ?_
                refine st_call (a' := ⟨#[.slice a0 len0 cap0, .bool a1, undef, undef, .bool false, .pointer (some ⟨b, 0, none⟩), .slice a0 len0 cap0, .int .i64 (len0 : Nat), .bool false, .slice a0 len0 cap0, .int .i64 (len0 : Nat), .bool false, .slice a0 len0 cap0, .agg #[.slice a0 len0 cap0, .int .i64 0], .pointer (some ⟨w.heap.size, 0, none⟩), .bool a1, .agg (intVals .i32 ys).toArray, .agg (intVals .i32 ys).toArray, .agg (intVals .i32 zi).toArray, .agg (intVals .i32 ys).toArray, .agg (intVals .i32 zi).toArray, .bool true, .bool true, .agg (intVals .i32 ys).toArray, .agg (intVals .i32 zf).toArray, undef, undef, undef, undef], []⟩) (listed' := #[true, true, true, true, true, true, true, true, false, false, false, false, false]) (f := 7) (x := .tmp 23) (ts := #[23]) (by kernel_rfl) (by kernel_rfl) (by kernel_rfl) (by kernel_rfl) (by kernel_rfl) (c7 _) (by kernel_rfl) (by kernel_rfl) (fun w8 hb8 => ?_) ?_
                · have hB8 := hB4.trans (hb8.mono hB4.size)
                  refine wpAny_ready (rs := [8]) (by kernel_rfl) (by simp) ?_
                  refine st_value (a' := ⟨#[.slice a0 len0 cap0, .bool a1, undef, undef, .bool false, .pointer (some ⟨b, 0, none⟩), .slice a0 len0 cap0, .int .i64 (len0 : Nat), .bool false, .slice a0 len0 cap0, .int .i64 (len0 : Nat), .bool false, .slice a0 len0 cap0, .agg #[.slice a0 len0 cap0, .int .i64 0], .pointer (some ⟨w.heap.size, 0, none⟩), .bool a1, .agg (intVals .i32 ys).toArray, .agg (intVals .i32 ys).toArray, .agg (intVals .i32 zi).toArray, .agg (intVals .i32 ys).toArray, .agg (intVals .i32 zi).toArray, .bool true, .bool true, .agg (intVals .i32 ys).toArray, .agg (intVals .i32 zf).toArray, .agg (intVals .i32 ys).toArray, undef, undef, undef], []⟩) (listed' := #[true, true, true, true, true, true, true, true, true, false, false, false, false]) (by kernel_rfl) (by kernel_rfl) (exec_load64 _ (by kernel_rfl) (by kernel_rfl) (H _ hB8)) (by kernel_rfl) (by kernel_rfl) ?_ ?_
                  · skip
                    refine wpAny_ready (rs := [9]) (by kernel_rfl) (by simp) ?_
                    refine st_call (a' := ⟨#[.slice a0 len0 cap0, .bool a1, undef, undef, .bool false, .pointer (some ⟨b, 0, none⟩), .slice a0 len0 cap0, .int .i64 (len0 : Nat), .bool false, .slice a0 len0 cap0, .int .i64 (len0 : Nat), .bool false, .slice a0 len0 cap0, .agg #[.slice a0 len0 cap0, .int .i64 0], .pointer (some ⟨w.heap.size, 0, none⟩), .bool a1, .agg (intVals .i32 ys).toArray, .agg (intVals .i32 ys).toArray, .agg (intVals .i32 zi).toArray, .agg (intVals .i32 ys).toArray, .agg (intVals .i32 zi).toArray, .bool true, .bool true, .agg (intVals .i32 ys).toArray, .agg (intVals .i32 zf).toArray, .agg (intVals .i32 ys).toArray, .agg (intVals .i32 zf).toArray, undef, undef], []⟩) (listed' := #[true, true, true, true, true, true, true, true, true, true, false, false, false]) (f := 8) (x := .tmp 25) (ts := #[23]) (by kernel_rfl) (by kernel_rfl) (by kernel_rfl) (by kernel_rfl) (by kernel_rfl) (c8 _) (by kernel_rfl) (by kernel_rfl) (fun w10 hb10 => ?_) ?_
                    · have hB10 := hB8.trans (hb10.mono hB8.size)
                      refine wpAny_ready (rs := [10]) (by kernel_rfl) (by simp) ?_
                      refine st_value (a' := ⟨#[.slice a0 len0 cap0, .bool a1, undef, undef, .bool false, .pointer (some ⟨b, 0, none⟩), .slice a0 len0 cap0, .int .i64 (len0 : Nat), .bool false, .slice a0 len0 cap0, .int .i64 (len0 : Nat), .bool false, .slice a0 len0 cap0, .agg #[.slice a0 len0 cap0, .int .i64 0], .pointer (some ⟨w.heap.size, 0, none⟩), .bool a1, .agg (intVals .i32 ys).toArray, .agg (intVals .i32 ys).toArray, .agg (intVals .i32 zi).toArray, .agg (intVals .i32 ys).toArray, .agg (intVals .i32 zi).toArray, .bool true, .bool true, .agg (intVals .i32 ys).toArray, .agg (intVals .i32 zf).toArray, .agg (intVals .i32 ys).toArray, .agg (intVals .i32 zf).toArray, .bool true, undef], []⟩) (listed' := #[true, true, true, true, true, true, true, true, true, true, true, false, false]) (by kernel_rfl) (by kernel_rfl) (exec_eq64 hzf _ 24 26 (by kernel_rfl) (by kernel_rfl) (by kernel_rfl)) (by kernel_rfl) (by kernel_rfl) ?_ ?_
                      · skip
                        refine wpAny_ready (rs := [11]) (by kernel_rfl) (by simp) ?_
                        refine st_value (a' := ⟨#[.slice a0 len0 cap0, .bool a1, undef, undef, .bool false, .pointer (some ⟨b, 0, none⟩), .slice a0 len0 cap0, .int .i64 (len0 : Nat), .bool false, .slice a0 len0 cap0, .int .i64 (len0 : Nat), .bool false, .slice a0 len0 cap0, .agg #[.slice a0 len0 cap0, .int .i64 0], .pointer (some ⟨w.heap.size, 0, none⟩), .bool a1, .agg (intVals .i32 ys).toArray, .agg (intVals .i32 ys).toArray, .agg (intVals .i32 zi).toArray, .agg (intVals .i32 ys).toArray, .agg (intVals .i32 zi).toArray, .bool true, .bool true, .agg (intVals .i32 ys).toArray, .agg (intVals .i32 zf).toArray, .agg (intVals .i32 ys).toArray, .agg (intVals .i32 zf).toArray, .bool true, .bool true], []⟩) (listed' := #[true, true, true, true, true, true, true, true, true, true, true, true, false]) (by kernel_rfl) (by kernel_rfl) (exec_pick' _ (.tmp 22) (.tmp 27) (.const (.bool false)) (by kernel_rfl) (by kernel_rfl)) (by kernel_rfl) (by kernel_rfl) ?_ ?_
                        · skip
                          refine wpAny_ready (rs := [12]) (by kernel_rfl) (by simp) ?_
                          refine st_value (a' := ⟨#[.slice a0 len0 cap0, .bool a1, undef, undef, .bool true, .pointer (some ⟨b, 0, none⟩), .slice a0 len0 cap0, .int .i64 (len0 : Nat), .bool false, .slice a0 len0 cap0, .int .i64 (len0 : Nat), .bool false, .slice a0 len0 cap0, .agg #[.slice a0 len0 cap0, .int .i64 0], .pointer (some ⟨w.heap.size, 0, none⟩), .bool a1, .agg (intVals .i32 ys).toArray, .agg (intVals .i32 ys).toArray, .agg (intVals .i32 zi).toArray, .agg (intVals .i32 ys).toArray, .agg (intVals .i32 zi).toArray, .bool true, .bool true, .agg (intVals .i32 ys).toArray, .agg (intVals .i32 zf).toArray, .agg (intVals .i32 ys).toArray, .agg (intVals .i32 zf).toArray, .bool true, .bool true], []⟩) (listed' := #[true, true, true, true, true, true, true, true, true, true, true, true, true]) (by kernel_rfl) (by kernel_rfl) (exec_move' _ (.tmp 28) (.inr (by kernel_rfl))) (by kernel_rfl) (by kernel_rfl) ?_ ?_
                          · skip
                            refine wpAny_done (by kernel_rfl) ?_ _
                            exact fin _ hB10
                          exact AllReady.nil
                        exact AllReady.nil
                      exact AllReady.nil
                    exact AllReady.nil
                  exact AllReady.nil
                refine st_value (a' := ⟨#[.slice a0 len0 cap0, .bool a1, undef, undef, .bool false, .pointer (some ⟨b, 0, none⟩), .slice a0 len0 cap0, .int .i64 (len0 : Nat), .bool false, .slice a0 len0 cap0, .int .i64 (len0 : Nat), .bool false, .slice a0 len0 cap0, .agg #[.slice a0 len0 cap0, .int .i64 0], .pointer (some ⟨w.heap.size, 0, none⟩), .bool a1, .agg (intVals .i32 ys).toArray, .agg (intVals .i32 ys).toArray, .agg (intVals .i32 zi).toArray, .agg (intVals .i32 ys).toArray, .agg (intVals .i32 zi).toArray, .bool true, .bool true, .agg (intVals .i32 ys).toArray, undef, .agg (intVals .i32 ys).toArray, undef, undef, undef], []⟩) (listed' := #[true, true, true, true, true, true, true, false, true, false, false, false, false]) (by kernel_rfl) (by kernel_rfl) (exec_load64 _ (by kernel_rfl) (by kernel_rfl) (H _ hB4)) (by kernel_rfl) (by kernel_rfl) ?_ ?_
                · skip
                  refine wpAny_ready (rs := [7]) (by kernel_rfl) (by simp) ?_
                  refine st_call (a' := ⟨#[.slice a0 len0 cap0, .bool a1, undef, undef, .bool false, .pointer (some ⟨b, 0, none⟩), .slice a0 len0 cap0, .int .i64 (len0 : Nat), .bool false, .slice a0 len0 cap0, .int .i64 (len0 : Nat), .bool false, .slice a0 len0 cap0, .agg #[.slice a0 len0 cap0, .int .i64 0], .pointer (some ⟨w.heap.size, 0, none⟩), .bool a1, .agg (intVals .i32 ys).toArray, .agg (intVals .i32 ys).toArray, .agg (intVals .i32 zi).toArray, .agg (intVals .i32 ys).toArray, .agg (intVals .i32 zi).toArray, .bool true, .bool true, .agg (intVals .i32 ys).toArray, .agg (intVals .i32 zf).toArray, .agg (intVals .i32 ys).toArray, undef, undef, undef], []⟩) (listed' := #[true, true, true, true, true, true, true, true, true, false, false, false, false]) (f := 7) (x := .tmp 23) (ts := #[23]) (by kernel_rfl) (by kernel_rfl) (by kernel_rfl) (by kernel_rfl) (by kernel_rfl) (c7 _) (by kernel_rfl) (by kernel_rfl) (fun w9 hb9 => ?_) ?_
                  · have hB9 := hB4.trans (hb9.mono hB4.size)
                    refine wpAny_ready (rs := [9]) (by kernel_rfl) (by simp) ?_
                    refine st_call (a' := ⟨#[.slice a0 len0 cap0, .bool a1, undef, undef, .bool false, .pointer (some ⟨b, 0, none⟩), .slice a0 len0 cap0, .int .i64 (len0 : Nat), .bool false, .slice a0 len0 cap0, .int .i64 (len0 : Nat), .bool false, .slice a0 len0 cap0, .agg #[.slice a0 len0 cap0, .int .i64 0], .pointer (some ⟨w.heap.size, 0, none⟩), .bool a1, .agg (intVals .i32 ys).toArray, .agg (intVals .i32 ys).toArray, .agg (intVals .i32 zi).toArray, .agg (intVals .i32 ys).toArray, .agg (intVals .i32 zi).toArray, .bool true, .bool true, .agg (intVals .i32 ys).toArray, .agg (intVals .i32 zf).toArray, .agg (intVals .i32 ys).toArray, .agg (intVals .i32 zf).toArray, undef, undef], []⟩) (listed' := #[true, true, true, true, true, true, true, true, true, true, false, false, false]) (f := 8) (x := .tmp 25) (ts := #[23]) (by kernel_rfl) (by kernel_rfl) (by kernel_rfl) (by kernel_rfl) (by kernel_rfl) (c8 _) (by kernel_rfl) (by kernel_rfl) (fun w10 hb10 => ?_) ?_
                    · have hB10 := hB9.trans (hb10.mono hB9.size)
                      refine wpAny_ready (rs := [10]) (by kernel_rfl) (by simp) ?_
                      refine st_value (a' := ⟨#[.slice a0 len0 cap0, .bool a1, undef, undef, .bool false, .pointer (some ⟨b, 0, none⟩), .slice a0 len0 cap0, .int .i64 (len0 : Nat), .bool false, .slice a0 len0 cap0, .int .i64 (len0 : Nat), .bool false, .slice a0 len0 cap0, .agg #[.slice a0 len0 cap0, .int .i64 0], .pointer (some ⟨w.heap.size, 0, none⟩), .bool a1, .agg (intVals .i32 ys).toArray, .agg (intVals .i32 ys).toArray, .agg (intVals .i32 zi).toArray, .agg (intVals .i32 ys).toArray, .agg (intVals .i32 zi).toArray, .bool true, .bool true, .agg (intVals .i32 ys).toArray, .agg (intVals .i32 zf).toArray, .agg (intVals .i32 ys).toArray, .agg (intVals .i32 zf).toArray, .bool true, undef], []⟩) (listed' := #[true, true, true, true, true, true, true, true, true, true, true, false, false]) (by kernel_rfl) (by kernel_rfl) (exec_eq64 hzf _ 24 26 (by kernel_rfl) (by kernel_rfl) (by kernel_rfl)) (by kernel_rfl) (by kernel_rfl) ?_ ?_
                      · skip
                        refine wpAny_ready (rs := [11]) (by kernel_rfl) (by simp) ?_
                        refine st_value (a' := ⟨#[.slice a0 len0 cap0, .bool a1, undef, undef, .bool false, .pointer (some ⟨b, 0, none⟩), .slice a0 len0 cap0, .int .i64 (len0 : Nat), .bool false, .slice a0 len0 cap0, .int .i64 (len0 : Nat), .bool false, .slice a0 len0 cap0, .agg #[.slice a0 len0 cap0, .int .i64 0], .pointer (some ⟨w.heap.size, 0, none⟩), .bool a1, .agg (intVals .i32 ys).toArray, .agg (intVals .i32 ys).toArray, .agg (intVals .i32 zi).toArray, .agg (intVals .i32 ys).toArray, .agg (intVals .i32 zi).toArray, .bool true, .bool true, .agg (intVals .i32 ys).toArray, .agg (intVals .i32 zf).toArray, .agg (intVals .i32 ys).toArray, .agg (intVals .i32 zf).toArray, .bool true, .bool true], []⟩) (listed' := #[true, true, true, true, true, true, true, true, true, true, true, true, false]) (by kernel_rfl) (by kernel_rfl) (exec_pick' _ (.tmp 22) (.tmp 27) (.const (.bool false)) (by kernel_rfl) (by kernel_rfl)) (by kernel_rfl) (by kernel_rfl) ?_ ?_
                        · skip
                          refine wpAny_ready (rs := [12]) (by kernel_rfl) (by simp) ?_
                          refine st_value (a' := ⟨#[.slice a0 len0 cap0, .bool a1, undef, undef, .bool true, .pointer (some ⟨b, 0, none⟩), .slice a0 len0 cap0, .int .i64 (len0 : Nat), .bool false, .slice a0 len0 cap0, .int .i64 (len0 : Nat), .bool false, .slice a0 len0 cap0, .agg #[.slice a0 len0 cap0, .int .i64 0], .pointer (some ⟨w.heap.size, 0, none⟩), .bool a1, .agg (intVals .i32 ys).toArray, .agg (intVals .i32 ys).toArray, .agg (intVals .i32 zi).toArray, .agg (intVals .i32 ys).toArray, .agg (intVals .i32 zi).toArray, .bool true, .bool true, .agg (intVals .i32 ys).toArray, .agg (intVals .i32 zf).toArray, .agg (intVals .i32 ys).toArray, .agg (intVals .i32 zf).toArray, .bool true, .bool true], []⟩) (listed' := #[true, true, true, true, true, true, true, true, true, true, true, true, true]) (by kernel_rfl) (by kernel_rfl) (exec_move' _ (.tmp 28) (.inr (by kernel_rfl))) (by kernel_rfl) (by kernel_rfl) ?_ ?_
                          · skip
                            refine wpAny_done (by kernel_rfl) ?_ _
                            exact fin _ hB10
                          exact AllReady.nil
                        exact AllReady.nil
                      exact AllReady.nil
                    exact AllReady.nil
                  exact AllReady.nil
                exact AllReady.nil
              refine st_value (a' := ⟨#[.slice a0 len0 cap0, .bool a1, undef, undef, .bool false, .pointer (some ⟨b, 0, none⟩), .slice a0 len0 cap0, .int .i64 (len0 : Nat), .bool false, .slice a0 len0 cap0, .int .i64 (len0 : Nat), .bool false, .slice a0 len0 cap0, .agg #[.slice a0 len0 cap0, .int .i64 0], .pointer (some ⟨w.heap.size, 0, none⟩), .bool a1, .agg (intVals .i32 ys).toArray, .agg (intVals .i32 ys).toArray, .agg (intVals .i32 zi).toArray, .agg (intVals .i32 ys).toArray, .agg (intVals .i32 zi).toArray, .bool true, .bool true, undef, undef, .agg (intVals .i32 ys).toArray, undef, undef, undef], []⟩) (listed' := #[true, true, true, true, true, true, false, false, true, false, false, false, false]) (by kernel_rfl) (by kernel_rfl) (exec_load64 _ (by kernel_rfl) (by kernel_rfl) (H _ hB4)) (by kernel_rfl) (by kernel_rfl) ?_ ?_
              · skip
                refine wpAny_ready (rs := [6]) (by kernel_rfl) (by simp) ?_
                refine st_value (a' := ⟨#[.slice a0 len0 cap0, .bool a1, undef, undef, .bool false, .pointer (some ⟨b, 0, none⟩), .slice a0 len0 cap0, .int .i64 (len0 : Nat), .bool false, .slice a0 len0 cap0, .int .i64 (len0 : Nat), .bool false, .slice a0 len0 cap0, .agg #[.slice a0 len0 cap0, .int .i64 0], .pointer (some ⟨w.heap.size, 0, none⟩), .bool a1, .agg (intVals .i32 ys).toArray, .agg (intVals .i32 ys).toArray, .agg (intVals .i32 zi).toArray, .agg (intVals .i32 ys).toArray, .agg (intVals .i32 zi).toArray, .bool true, .bool true, .agg (intVals .i32 ys).toArray, undef, .agg (intVals .i32 ys).toArray, undef, undef, undef], []⟩) (listed' := #[true, true, true, true, true, true, true, false, true, false, false, false, false]) (by kernel_rfl) (by kernel_rfl) (exec_load64 _ (by kernel_rfl) (by kernel_rfl) (H _ hB4)) (by kernel_rfl) (by kernel_rfl) ?_ ?_
                · skip
                  refine wpAny_ready (rs := [7]) (by kernel_rfl) (by simp) ?_
                  refine st_call (a' := ⟨#[.slice a0 len0 cap0, .bool a1, undef, undef, .bool false, .pointer (some ⟨b, 0, none⟩), .slice a0 len0 cap0, .int .i64 (len0 : Nat), .bool false, .slice a0 len0 cap0, .int .i64 (len0 : Nat), .bool false, .slice a0 len0 cap0, .agg #[.slice a0 len0 cap0, .int .i64 0], .pointer (some ⟨w.heap.size, 0, none⟩), .bool a1, .agg (intVals .i32 ys).toArray, .agg (intVals .i32 ys).toArray, .agg (intVals .i32 zi).toArray, .agg (intVals .i32 ys).toArray, .agg (intVals .i32 zi).toArray, .bool true, .bool true, .agg (intVals .i32 ys).toArray, .agg (intVals .i32 zf).toArray, .agg (intVals .i32 ys).toArray, undef, undef, undef], []⟩) (listed' := #[true, true, true, true, true, true, true, true, true, false, false, false, false]) (f := 7) (x := .tmp 23) (ts := #[23]) (by kernel_rfl) (by kernel_rfl) (by kernel_rfl) (by kernel_rfl) (by kernel_rfl) (c7 _) (by kernel_rfl) (by kernel_rfl) (fun w9 hb9 => ?_) ?_
                  · have hB9 := hB4.trans (hb9.mono hB4.size)
                    refine wpAny_ready (rs := [9]) (by kernel_rfl) (by simp) ?_
                    refine st_call (a' := ⟨#[.slice a0 len0 cap0, .bool a1, undef, undef, .bool false, .pointer (some ⟨b, 0, none⟩), .slice a0 len0 cap0, .int .i64 (len0 : Nat), .bool false, .slice a0 len0 cap0, .int .i64 (len0 : Nat), .bool false, .slice a0 len0 cap0, .agg #[.slice a0 len0 cap0, .int .i64 0], .pointer (some ⟨w.heap.size, 0, none⟩), .bool a1, .agg (intVals .i32 ys).toArray, .agg (intVals .i32 ys).toArray, .agg (intVals .i32 zi).toArray, .agg (intVals .i32 ys).toArray, .agg (intVals .i32 zi).toArray, .bool true, .bool true, .agg (intVals .i32 ys).toArray, .agg (intVals .i32 zf).toArray, .agg (intVals .i32 ys).toArray, .agg (intVals .i32 zf).toArray, undef, undef], []⟩) (listed' := #[true, true, true, true, true, true, true, true, true, true, false, false, false]) (f := 8) (x := .tmp 25) (ts := #[23]) (by kernel_rfl) (by kernel_rfl) (by kernel_rfl) (by kernel_rfl) (by kernel_rfl) (c8 _) (by kernel_rfl) (by kernel_rfl) (fun w10 hb10 => ?_) ?_
                    · have hB10 := hB9.trans (hb10.mono hB9.size)
                      refine wpAny_ready (rs := [10]) (by kernel_rfl) (by simp) ?_
                      refine st_value (a' := ⟨#[.slice a0 len0 cap0, .bool a1, undef, undef, .bool false, .pointer (some ⟨b, 0, none⟩), .slice a0 len0 cap0, .int .i64 (len0 : Nat), .bool false, .slice a0 len0 cap0, .int .i64 (len0 : Nat), .bool false, .slice a0 len0 cap0, .agg #[.slice a0 len0 cap0, .int .i64 0], .pointer (some ⟨w.heap.size, 0, none⟩), .bool a1, .agg (intVals .i32 ys).toArray, .agg (intVals .i32 ys).toArray, .agg (intVals .i32 zi).toArray, .agg (intVals .i32 ys).toArray, .agg (intVals .i32 zi).toArray, .bool true, .bool true, .agg (intVals .i32 ys).toArray, .agg (intVals .i32 zf).toArray, .agg (intVals .i32 ys).toArray, .agg (intVals .i32 zf).toArray, .bool true, undef], []⟩) (listed' := #[true, true, true, true, true, true, true, true, true, true, true, false, false]) (by kernel_rfl) (by kernel_rfl) (exec_eq64 hzf _ 24 26 (by kernel_rfl) (by kernel_rfl) (by kernel_rfl)) (by kernel_rfl) (by kernel_rfl) ?_ ?_
                      · skip
                        refine wpAny_ready (rs := [11]) (by kernel_rfl) (by simp) ?_
                        refine st_value (a' := ⟨#[.slice a0 len0 cap0, .bool a1, undef, undef, .bool false, .pointer (some ⟨b, 0, none⟩), .slice a0 len0 cap0, .int .i64 (len0 : Nat), .bool false, .slice a0 len0 cap0, .int .i64 (len0 : Nat), .bool false, .slice a0 len0 cap0, .agg #[.slice a0 len0 cap0, .int .i64 0], .pointer (some ⟨w.heap.size, 0, none⟩), .bool a1, .agg (intVals .i32 ys).toArray, .agg (intVals .i32 ys).toArray, .agg (intVals .i32 zi).toArray, .agg (intVals .i32 ys).toArray, .agg (intVals .i32 zi).toArray, .bool true, .bool true, .agg (intVals .i32 ys).toArray, .agg (intVals .i32 zf).toArray, .agg (intVals .i32 ys).toArray, .agg (intVals .i32 zf).toArray, .bool true, .bool true], []⟩) (listed' := #[true, true, true, true, true, true, true, true, true, true, true, true, false]) (by kernel_rfl) (by kernel_rfl) (exec_pick' _ (.tmp 22) (.tmp 27) (.const (.bool false)) (by kernel_rfl) (by kernel_rfl)) (by kernel_rfl) (by kernel_rfl) ?_ ?_
                        · skip
                          refine wpAny_ready (rs := [12]) (by kernel_rfl) (by simp) ?_
                          refine st_value (a' := ⟨#[.slice a0 len0 cap0, .bool a1, undef, undef, .bool true, .pointer (some ⟨b, 0, none⟩), .slice a0 len0 cap0, .int .i64 (len0 : Nat), .bool false, .slice a0 len0 cap0, .int .i64 (len0 : Nat), .bool false, .slice a0 len0 cap0, .agg #[.slice a0 len0 cap0, .int .i64 0], .pointer (some ⟨w.heap.size, 0, none⟩), .bool a1, .agg (intVals .i32 ys).toArray, .agg (intVals .i32 ys).toArray, .agg (intVals .i32 zi).toArray, .agg (intVals .i32 ys).toArray, .agg (intVals .i32 zi).toArray, .bool true, .bool true, .agg (intVals .i32 ys).toArray, .agg (intVals .i32 zf).toArray, .agg (intVals .i32 ys).toArray, .agg (intVals .i32 zf).toArray, .bool true, .bool true], []⟩) (listed' := #[true, true, true, true, true, true, true, true, true, true, true, true, true]) (by kernel_rfl) (by kernel_rfl) (exec_move' _ (.tmp 28) (.inr (by kernel_rfl))) (by kernel_rfl) (by kernel_rfl) ?_ ?_
                          · skip
                            refine wpAny_done (by kernel_rfl) ?_ _
                            exact fin _ hB10
                          exact AllReady.nil
                        exact AllReady.nil
                      exact AllReady.nil
                    exact AllReady.nil
                  exact AllReady.nil
                exact AllReady.nil
              exact AllReady.nil
            exact AllReady.nil
          exact AllReady.nil
        exact AllReady.nil
      exact AllReady.nil
    exact AllReady.nil
  refine st_value (a' := ⟨#[.slice a0 len0 cap0, .bool a1, undef, undef, .bool false, .pointer (some ⟨b, 0, none⟩), .slice a0 len0 cap0, .int .i64 (len0 : Nat), .bool false, .slice a0 len0 cap0, .int .i64 (len0 : Nat), .bool false, .slice a0 len0 cap0, .agg #[.slice a0 len0 cap0, .int .i64 0], .pointer (some ⟨w.heap.size, 0, none⟩), .bool a1, .agg (intVals .i32 ys).toArray, undef, undef, .agg (intVals .i32 ys).toArray, undef, undef, undef, undef, undef, undef, undef, undef, undef], []⟩) (listed' := #[false, false, true, false, false, false, false, false, false, false, false, false, false]) (by kernel_rfl) (by kernel_rfl) (exec_load64 _ (by kernel_rfl) (by kernel_rfl) (H _ hB0)) (by kernel_rfl) (by kernel_rfl) ?_ ?_
  · skip
    refine wpAny_ready (rs := [0]) (by kernel_rfl) (by simp) ?_
    refine st_value (a' := ⟨#[.slice a0 len0 cap0, .bool a1, undef, undef, .bool false, .pointer (some ⟨b, 0, none⟩), .slice a0 len0 cap0, .int .i64 (len0 : Nat), .bool false, .slice a0 len0 cap0, .int .i64 (len0 : Nat), .bool false, .slice a0 len0 cap0, .agg #[.slice a0 len0 cap0, .int .i64 0], .pointer (some ⟨w.heap.size, 0, none⟩), .bool a1, .agg (intVals .i32 ys).toArray, .agg (intVals .i32 ys).toArray, undef, .agg (intVals .i32 ys).toArray, undef, undef, undef, undef, undef, undef, undef, undef, undef], []⟩) (listed' := #[true, false, true, false, false, false, false, false, false, false, false, false, false]) (by kernel_rfl) (by kernel_rfl) (exec_load64 _ (by kernel_rfl) (by kernel_rfl) (H _ hB0)) (by kernel_rfl) (by kernel_rfl) ?_ ?_
    · skip
      refine wpAny_ready (rs := [1]) (by kernel_rfl) (by simp) ?_
      refine st_call (a' := ⟨#[.slice a0 len0 cap0, .bool a1, undef, undef, .bool false, .pointer (some ⟨b, 0, none⟩), .slice a0 len0 cap0, .int .i64 (len0 : Nat), .bool false, .slice a0 len0 cap0, .int .i64 (len0 : Nat), .bool false, .slice a0 len0 cap0, .agg #[.slice a0 len0 cap0, .int .i64 0], .pointer (some ⟨w.heap.size, 0, none⟩), .bool a1, .agg (intVals .i32 ys).toArray, .agg (intVals .i32 ys).toArray, .agg (intVals .i32 zi).toArray, .agg (intVals .i32 ys).toArray, undef, undef, undef, undef, undef, undef, undef, undef, undef], []⟩) (listed' := #[true, true, true, false, false, false, false, false, false, false, false, false, false]) (f := 5) (x := .tmp 17) (ts := #[23]) (by kernel_rfl) (by kernel_rfl) (by kernel_rfl) (by kernel_rfl) (by kernel_rfl) (c5 _) (by kernel_rfl) (by kernel_rfl) (fun w3 hb3 => ?_) ?_
      · have hB3 := hB0.trans (hb3.mono hB0.size)
        refine wpAny_ready (rs := [3]) (by kernel_rfl) (by simp) ?_
        refine st_call (a' := ⟨#[.slice a0 len0 cap0, .bool a1, undef, undef, .bool false, .pointer (some ⟨b, 0, none⟩), .slice a0 len0 cap0, .int .i64 (len0 : Nat), .bool false, .slice a0 len0 cap0, .int .i64 (len0 : Nat), .bool false, .slice a0 len0 cap0, .agg #[.slice a0 len0 cap0, .int .i64 0], .pointer (some ⟨w.heap.size, 0, none⟩), .bool a1, .agg (intVals .i32 ys).toArray, .agg (intVals .i32 ys).toArray, .agg (intVals .i32 zi).toArray, .agg (intVals .i32 ys).toArray, .agg (intVals .i32 zi).toArray, undef, undef, undef, undef, undef, undef, undef, undef], []⟩) (listed' := #[true, true, true, true, false, false, false, false, false, false, false, false, false]) (f := 6) (x := .tmp 19) (ts := #[23]) (by kernel_rfl) (by kernel_rfl) (by kernel_rfl) (by kernel_rfl) (by kernel_rfl) (c6 _) (by kernel_rfl) (by kernel_rfl) (fun w4 hb4 => ?_) ?_
        · have hB4 := hB3.trans (hb4.mono hB3.size)
          refine wpAny_ready (rs := [4]) (by kernel_rfl) (by simp) ?_
          refine st_value (a' := ⟨#[.slice a0 len0 cap0, .bool a1, undef, undef, .bool false, .pointer (some ⟨b, 0, none⟩), .slice a0 len0 cap0, .int .i64 (len0 : Nat), .bool false, .slice a0 len0 cap0, .int .i64 (len0 : Nat), .bool false, .slice a0 len0 cap0, .agg #[.slice a0 len0 cap0, .int .i64 0], .pointer (some ⟨w.heap.size, 0, none⟩), .bool a1, .agg (intVals .i32 ys).toArray, .agg (intVals .i32 ys).toArray, .agg (intVals .i32 zi).toArray, .agg (intVals .i32 ys).toArray, .agg (intVals .i32 zi).toArray, .bool true, undef, undef, undef, undef, undef, undef, undef], []⟩) (listed' := #[true, true, true, true, true, false, false, false, false, false, false, false, false]) (by kernel_rfl) (by kernel_rfl) (exec_eq64 hzi _ 18 20 (by kernel_rfl) (by kernel_rfl) (by kernel_rfl)) (by kernel_rfl) (by kernel_rfl) ?_ ?_
          · skip
            refine wpAny_ready (rs := [5]) (by kernel_rfl) (by simp) ?_
            refine st_value (a' := ⟨#[.slice a0 len0 cap0, .bool a1, undef, undef, .bool false, .pointer (some ⟨b, 0, none⟩), .slice a0 len0 cap0, .int .i64 (len0 : Nat), .bool false, .slice a0 len0 cap0, .int .i64 (len0 : Nat), .bool false, .slice a0 len0 cap0, .agg #[.slice a0 len0 cap0, .int .i64 0], .pointer (some ⟨w.heap.size, 0, none⟩), .bool a1, .agg (intVals .i32 ys).toArray, .agg (intVals .i32 ys).toArray, .agg (intVals .i32 zi).toArray, .agg (intVals .i32 ys).toArray, .agg (intVals .i32 zi).toArray, .bool true, .bool true, undef, undef, undef, undef, undef, undef], []⟩) (listed' := #[true, true, true, true, true, true, false, false, false, false, false, false, false]) (by kernel_rfl) (by kernel_rfl) (exec_move' _ (.tmp 21) (.inl (by kernel_rfl))) (by kernel_rfl) (by kernel_rfl) ?_ ?_
            · skip
              refine wpAny_ready (rs := [6, 8]) (by kernel_rfl) (by simp) ?_
              refine st_value (a' := ⟨#[.slice a0 len0 cap0, .bool a1, undef, undef, .bool false, .pointer (some ⟨b, 0, none⟩), .slice a0 len0 cap0, .int .i64 (len0 : Nat), .bool false, .slice a0 len0 cap0, .int .i64 (len0 : Nat), .bool false, .slice a0 len0 cap0, .agg #[.slice a0 len0 cap0, .int .i64 0], .pointer (some ⟨w.heap.size, 0, none⟩), .bool a1, .agg (intVals .i32 ys).toArray, .agg (intVals .i32 ys).toArray, .agg (intVals .i32 zi).toArray, .agg (intVals .i32 ys).toArray, .agg (intVals .i32 zi).toArray, .bool true, .bool true, .agg (intVals .i32 ys).toArray, undef, undef, undef, undef, undef], []⟩) (listed' := #[true, true, true, true, true, true, true, false, false, false, false, false, false]) (by kernel_rfl) (by kernel_rfl) (exec_load64 _ (by kernel_rfl) (by kernel_rfl) (H _ hB4)) (by kernel_rfl) (by kernel_rfl) ?_ ?_
              · skip
                refine wpAny_ready (rs := [7, 8]) (by kernel_rfl) (by simp) ?_
                refine st_call (a' := ⟨#[.slice a0 len0 cap0, .bool a1, undef, undef, .bool false, .pointer (some ⟨b, 0, none⟩), .slice a0 len0 cap0, .int .i64 (len0 : Nat), .bool false, .slice a0 len0 cap0, .int .i64 (len0 : Nat), .bool false, .slice a0 len0 cap0, .agg #[.slice a0 len0 cap0, .int .i64 0], .pointer (some ⟨w.heap.size, 0, none⟩), .bool a1, .agg (intVals .i32 ys).toArray, .agg (intVals .i32 ys).toArray, .agg (intVals .i32 zi).toArray, .agg (intVals .i32 ys).toArray, .agg (intVals .i32 zi).toArray, .bool true, .bool true, .agg (intVals .i32 ys).toArray, .agg (intVals .i32 zf).toArray, undef, undef, undef, undef], []⟩) (listed' := #[true, true, true, true, true, true, true, true, false, false, false, false, false]) (f := 7) (x := .tmp 23) (ts := #[23]) (by kernel_rfl) (by kernel_rfl) (by kernel_rfl) (by kernel_rfl) (by kernel_rfl) (c7 _) (by kernel_rfl) (by kernel_rfl) (fun w8 hb8 => ?_) ?_
                · have hB8 := hB4.trans (hb8.mono hB4.size)
                  refine wpAny_ready (rs := [8]) (by kernel_rfl) (by simp) ?_
                  refine st_value (a' := ⟨#[.slice a0 len0 cap0, .bool a1, undef, undef, .bool false, .pointer (some ⟨b, 0, none⟩), .slice a0 len0 cap0, .int .i64 (len0 : Nat), .bool false, .slice a0 len0 cap0, .int .i64 (len0 : Nat), .bool false, .slice a0 len0 cap0, .agg #[.slice a0 len0 cap0, .int .i64 0], .pointer (some ⟨w.heap.size, 0, none⟩), .bool a1, .agg (intVals .i32 ys).toArray, .agg (intVals .i32 ys).toArray, .agg (intVals .i32 zi).toArray, .agg (intVals .i32 ys).toArray, .agg (intVals .i32 zi).toArray, .bool true, .bool true, .agg (intVals .i32 ys).toArray, .agg (intVals .i32 zf).toArray, .agg (intVals .i32 ys).toArray, undef, undef, undef], []⟩) (listed' := #[true, true, true, true, true, true, true, true, true, false, false, false, false]) (by kernel_rfl) (by kernel_rfl) (exec_load64 _ (by kernel_rfl) (by kernel_rfl) (H _ hB8)) (by kernel_rfl) (by kernel_rfl) ?_ ?_
                  · skip
                    refine wpAny_ready (rs := [9]) (by kernel_rfl) (by simp) ?_
                    refine st_call (a' := ⟨#[.slice a0 len0 cap0, .bool a1, undef, undef, .bool false, .pointer (some ⟨b, 0, none⟩), .slice a0 len0 cap0, .int .i64 (len0 : Nat), .bool false, .slice a0 len0 cap0, .int .i64 (len0 : Nat), .bool false, .slice a0 len0 cap0, .agg #[.slice a0 len0 cap0, .int .i64 0], .pointer (some ⟨w.heap.size, 0, none⟩), .bool a1, .agg (intVals .i32 ys).toArray, .agg (intVals .i32 ys).toArray, .agg (intVals .i32 zi).toArray, .agg (intVals .i32 ys).toArray, .agg (intVals .i32 zi).toArray, .bool true, .bool true, .agg (intVals .i32 ys).toArray, .agg (intVals .i32 zf).toArray, .agg (intVals .i32 ys).toArray, .agg (intVals .i32 zf).toArray, undef, undef], []⟩) (listed' := #[true, true, true, true, true, true, true, true, true, true, false, false, false]) (f := 8) (x := .tmp 25) (ts := #[23]) (by kernel_rfl) (by kernel_rfl) (by kernel_rfl) (by kernel_rfl) (by kernel_rfl) (c8 _) (by kernel_rfl) (by kernel_rfl) (fun w10 hb10 => ?_) ?_
                    · have hB10 := hB8.trans (hb10.mono hB8.size)
                      refine wpAny_ready (rs := [10]) (by kernel_rfl) (by simp) ?_
                      refine st_value (a' := ⟨#[.slice a0 len0 cap0, .bool a1, undef, undef, .bool false, .pointer (some ⟨b, 0, none⟩), .slice a0 len0 cap0, .int .i64 (len0 : Nat), .bool false, .slice a0 len0 cap0, .int .i64 (len0 : Nat), .bool false, .slice a0 len0 cap0, .agg #[.slice a0 len0 cap0, .int .i64 0], .pointer (some ⟨w.heap.size, 0, none⟩), .bool a1, .agg (intVals .i32 ys).toArray, .agg (intVals .i32 ys).toArray, .agg (intVals .i32 zi).toArray, .agg (intVals .i32 ys).toArray, .agg (intVals .i32 zi).toArray, .bool true, .bool true, .agg (intVals .i32 ys).toArray, .agg (intVals .i32 zf).toArray, .agg (intVals .i32 ys).toArray, .agg (intVals .i32 zf).toArray, .bool true, undef], []⟩) (listed' := #[true, true, true, true, true, true, true, true, true, true, true, false, false]) (by kernel_rfl) (by kernel_rfl) (exec_eq64 hzf _ 24 26 (by kernel_rfl) (by kernel_rfl) (by kernel_rfl)) (by kernel_rfl) (by kernel_rfl) ?_ ?_
                      · skip
                        refine wpAny_ready (rs := [11]) (by kernel_rfl) (by simp) ?_
                        refine st_value (a' := ⟨#[.slice a0 len0 cap0, .bool a1, undef, undef, .bool false, .pointer (some ⟨b, 0, none⟩), .slice a0 len0 cap0, .int .i64 (len0 : Nat), .bool false, .slice a0 len0 cap0, .int .i64 (len0 : Nat), .bool false, .slice a0 len0 cap0, .agg #[.slice a0 len0 cap0, .int .i64 0], .pointer (some ⟨w.heap.size, 0, none⟩), .bool a1, .agg (intVals .i32 ys).toArray, .agg (intVals .i32 ys).toArray, .agg (intVals .i32 zi).toArray, .agg (intVals .i32 ys).toArray, .agg (intVals .i32 zi).toArray, .bool true, .bool true, .agg (intVals .i32 ys).toArray, .agg (intVals .i32 zf).toArray, .agg (intVals .i32 ys).toArray, .agg (intVals .i32 zf).toArray, .bool true, .bool true], []⟩) (listed' := #[true, true, true, true, true, true, true, true, true, true, true, true, false]) (by kernel_rfl) (by kernel_rfl) (exec_pick' _ (.tmp 22) (.tmp 27) (.const (.bool false)) (by kernel_rfl) (by kernel_rfl)) (by kernel_rfl) (by kernel_rfl) ?_ ?_
                        · skip
                          refine wpAny_ready (rs := [12]) (by kernel_rfl) (by simp) ?_
                          refine st_value (a' := ⟨#[.slice a0 len0 cap0, .bool a1, undef, undef, .bool true, .pointer (some ⟨b, 0, none⟩), .slice a0 len0 cap0, .int .i64 (len0 : Nat), .bool false, .slice a0 len0 cap0, .int .i64 (len0 : Nat), .bool false, .slice a0 len0 cap0, .agg #[.slice a0 len0 cap0, .int .i64 0], .pointer (some ⟨w.heap.size, 0, none⟩), .bool a1, .agg (intVals .i32 ys).toArray, .agg (intVals .i32 ys).toArray, .agg (intVals .i32 zi).toArray, .agg (intVals .i32 ys).toArray, .agg (intVals .i32 zi).toArray, .bool true, .bool true, .agg (intVals .i32 ys).toArray, .agg (intVals .i32 zf).toArray, .agg (intVals .i32 ys).toArray, .agg (intVals .i32 zf).toArray, .bool true, .bool true], []⟩) (listed' := #[true, true, true, true, true, true, true, true, true, true, true, true, true]) (by kernel_rfl) (by kernel_rfl) (exec_move' _ (.tmp 28) (.inr (by kernel_rfl))) (by kernel_rfl) (by kernel_rfl) ?_ ?_
                          · skip
                            refine wpAny_done (by kernel_rfl) ?_ _
                            exact fin _ hB10
                          exact AllReady.nil
                        exact AllReady.nil
                      exact AllReady.nil
                    exact AllReady.nil
                  exact AllReady.nil
                refine st_value (a' := ⟨#[.slice a0 len0 cap0, .bool a1, undef, undef, .bool false, .pointer (some ⟨b, 0, none⟩), .slice a0 len0 cap0, .int .i64 (len0 : Nat), .bool false, .slice a0 len0 cap0, .int .i64 (len0 : Nat), .bool false, .slice a0 len0 cap0, .agg #[.slice a0 len0 cap0, .int .i64 0], .pointer (some ⟨w.heap.size, 0, none⟩), .bool a1, .agg (intVals .i32 ys).toArray, .agg (intVals .i32 ys).toArray, .agg (intVals .i32 zi).toArray, .agg (intVals .i32 ys).toArray, .agg (intVals .i32 zi).toArray, .bool true, .bool true, .agg (intVals .i32 ys).toArray, undef, .agg (intVals .i32 ys).toArray, undef, undef, undef], []⟩) (listed' := #[true, true, true, true, true, true, true, false, true, false, false, false, false]) (by kernel_rfl) (by kernel_rfl) (exec_load64 _ (by kernel_rfl) (by kernel_rfl) (H _ hB4)) (by kernel_rfl) (by kernel_rfl) ?_ ?_
                · skip
                  refine wpAny_ready (rs := [7]) (by kernel_rfl) (by simp) ?_
                  refine st_call (a' := ⟨#[.slice a0 len0 cap0, .bool a1, undef, undef, .bool false, .pointer (some ⟨b, 0, none⟩), .slice a0 len0 cap0, .int .i64 (len0 : Nat), .bool false, .slice a0 len0 cap0, .int .i64 (len0 : Nat), .bool false, .slice a0 len0 cap0, .agg #[.slice a0 len0 cap0, .int .i64 0], .pointer (some ⟨w.heap.size, 0, none⟩), .bool a1, .agg (intVals .i32 ys).toArray, .agg (intVals .i32 ys).toArray, .agg (intVals .i32 zi).toArray, .agg (intVals .i32 ys).toArray, .agg (intVals .i32 zi).toArray, .bool true, .bool true, .agg (intVals .i32 ys).toArray, .agg (intVals .i32 zf).toArray, .agg (intVals .i32 ys).toArray, undef, undef, undef], []⟩) (listed' := #[true, true, true, true, true, true, true, true, true, false, false, false, false]) (f := 7) (x := .tmp 23) (ts := #[23]) (by kernel_rfl) (by kernel_rfl) (by kernel_rfl) (by kernel_rfl) (by kernel_rfl) (c7 _) (by kernel_rfl) (by kernel_rfl) (fun w9 hb9 => ?_) ?_
                  · have hB9 := hB4.trans (hb9.mono hB4.size)
                    refine wpAny_ready (rs := [9]) (by kernel_rfl) (by simp) ?_
                    refine st_call (a' := ⟨#[.slice a0 len0 cap0, .bool a1, undef, undef, .bool false, .pointer (some ⟨b, 0, none⟩), .slice a0 len0 cap0, .int .i64 (len0 : Nat), .bool false, .slice a0 len0 cap0, .int .i64 (len0 : Nat), .bool false, .slice a0 len0 cap0, .agg #[.slice a0 len0 cap0, .int .i64 0], .pointer (some ⟨w.heap.size, 0, none⟩), .bool a1, .agg (intVals .i32 ys).toArray, .agg (intVals .i32 ys).toArray, .agg (intVals .i32 zi).toArray, .agg (intVals .i32 ys).toArray, .agg (intVals .i32 zi).toArray, .bool true, .bool true, .agg (intVals .i32 ys).toArray, .agg (intVals .i32 zf).toArray, .agg (intVals .i32 ys).toArray, .agg (intVals .i32 zf).toArray, undef, undef], []⟩) (listed' := #[true, true, true, true, true, true, true, true, true, true, false, false, false]) (f := 8) (x := .tmp 25) (ts := #[23]) (by kernel_rfl) (by kernel_rfl) (by kernel_rfl) (by kernel_rfl) (by kernel_rfl) (c8 _) (by kernel_rfl) (by kernel_rfl) (fun w10 hb10 => ?_) ?_
                    · have hB10 := hB9.trans (hb10.mono hB9.size)
                      refine wpAny_ready (rs := [10]) (by kernel_rfl) (by simp) ?_
                      refine st_value (a' := ⟨#[.slice a0 len0 cap0, .bool a1, undef, undef, .bool false, .pointer (some ⟨b, 0, none⟩), .slice a0 len0 cap0, .int .i64 (len0 : Nat), .bool false, .slice a0 len0 cap0, .int .i64 (len0 : Nat), .bool false, .slice a0 len0 cap0, .agg #[.slice a0 len0 cap0, .int .i64 0], .pointer (some ⟨w.heap.size, 0, none⟩), .bool a1, .agg (intVals .i32 ys).toArray, .agg (intVals .i32 ys).toArray, .agg (intVals .i32 zi).toArray, .agg (intVals .i32 ys).toArray, .agg (intVals .i32 zi).toArray, .bool true, .bool true, .agg (intVals .i32 ys).toArray, .agg (intVals .i32 zf).toArray, .agg (intVals .i32 ys).toArray, .agg (intVals .i32 zf).toArray, .bool true, undef], []⟩) (listed' := #[true, true, true, true, true, true, true, true, true, true, true, false, false]) (by kernel_rfl) (by kernel_rfl) (exec_eq64 hzf _ 24 26 (by kernel_rfl) (by kernel_rfl) (by kernel_rfl)) (by kernel_rfl) (by kernel_rfl) ?_ ?_
                      · skip
                        refine wpAny_ready (rs := [11]) (by kernel_rfl) (by simp) ?_
                        refine st_value (a' := ⟨#[.slice a0 len0 cap0, .bool a1, undef, undef, .bool false, .pointer (some ⟨b, 0, none⟩), .slice a0 len0 cap0, .int .i64 (len0 : Nat), .bool false, .slice a0 len0 cap0, .int .i64 (len0 : Nat), .bool false, .slice a0 len0 cap0, .agg #[.slice a0 len0 cap0, .int .i64 0], .pointer (some ⟨w.heap.size, 0, none⟩), .bool a1, .agg (intVals .i32 ys).toArray, .agg (intVals .i32 ys).toArray, .agg (intVals .i32 zi).toArray, .agg (intVals .i32 ys).toArray, .agg (intVals .i32 zi).toArray, .bool true, .bool true, .agg (intVals .i32 ys).toArray, .agg (intVals .i32 zf).toArray, .agg (intVals .i32 ys).toArray, .agg (intVals .i32 zf).toArray, .bool true, .bool true], []⟩) (listed' := #[true, true, true, true, true, true, true, true, true, true, true, true, false]) (by kernel_rfl) (by kernel_rfl) (exec_pick' _ (.tmp 22) (.tmp 27) (.const (.bool false)) (by kernel_rfl) (by kernel_rfl)) (by kernel_rfl) (by kernel_rfl) ?_ ?_
                        · skip
                          refine wpAny_ready (rs := [12]) (by kernel_rfl) (by simp) ?_
                          refine st_value (a' := ⟨#[.slice a0 len0 cap0, .bool a1, undef, undef, .bool true, .pointer (some ⟨b, 0, none⟩), .slice a0 len0 cap0, .int .i64 (len0 : Nat), .bool false, .slice a0 len0 cap0, .int .i64 (len0 : Nat), .bool false, .slice a0 len0 cap0, .agg #[.slice a0 len0 cap0, .int .i64 0], .pointer (some ⟨w.heap.size, 0, none⟩), .bool a1, .agg (intVals .i32 ys).toArray, .agg (intVals .i32 ys).toArray, .agg (intVals .i32 zi).toArray, .agg (intVals .i32 ys).toArray, .agg (intVals .i32 zi).toArray, .bool true, .bool true, .agg (intVals .i32 ys).toArray, .agg (intVals .i32 zf).toArray, .agg (intVals .i32 ys).toArray, .agg (intVals .i32 zf).toArray, .bool true, .bool true], []⟩) (listed' := #[true, true, true, true, true, true, true, true, true, true, true, true, true]) (by kernel_rfl) (by kernel_rfl) (exec_move' _ (.tmp 28) (.inr (by kernel_rfl))) (by kernel_rfl) (by kernel_rfl) ?_ ?_
                          · skip
                            refine wpAny_done (by kernel_rfl) ?_ _
                            exact fin _ hB10
                          exact AllReady.nil
                        exact AllReady.nil
                      exact AllReady.nil
                    exact AllReady.nil
                  exact AllReady.nil
                exact AllReady.nil
              refine st_value (a' := ⟨#[.slice a0 len0 cap0, .bool a1, undef, undef, .bool false, .pointer (some ⟨b, 0, none⟩), .slice a0 len0 cap0, .int .i64 (len0 : Nat), .bool false, .slice a0 len0 cap0, .int .i64 (len0 : Nat), .bool false, .slice a0 len0 cap0, .agg #[.slice a0 len0 cap0, .int .i64 0], .pointer (some ⟨w.heap.size, 0, none⟩), .bool a1, .agg (intVals .i32 ys).toArray, .agg (intVals .i32 ys).toArray, .agg (intVals .i32 zi).toArray, .agg (intVals .i32 ys).toArray, .agg (intVals .i32 zi).toArray, .bool true, .bool true, undef, undef, .agg (intVals .i32 ys).toArray, undef, undef, undef], []⟩) (listed' := #[true, true, true, true, true, true, false, false, true, false, false, false, false]) (by kernel_rfl) (by kernel_rfl) (exec_load64 _ (by kernel_rfl) (by kernel_rfl) (H _ hB4)) (by kernel_rfl) (by kernel_rfl) ?_ ?_
              · skip
                refine wpAny_ready (rs := [6]) (by kernel_rfl) (by simp) ?_
                refine st_value (a' := ⟨#[.slice a0 len0 cap0, .bool a1, undef, undef, .bool false, .pointer (some ⟨b, 0, none⟩), .slice a0 len0 cap0, .int .i64 (len0 : Nat), .bool false, .slice a0 len0 cap0, .int .i64 (len0 : Nat), .bool false, .slice a0 len0 cap0, .agg #[.slice a0 len0 cap0, .int .i64 0], .pointer (some ⟨w.heap.size, 0, none⟩), .bool a1, .agg (intVals .i32 ys).toArray, .agg (intVals .i32 ys).toArray, .agg (intVals .i32 zi).toArray, .agg (intVals .i32 ys).toArray, .agg (intVals .i32 zi).toArray, .bool true, .bool true, .agg (intVals .i32 ys).toArray, undef, .agg (intVals .i32 ys).toArray, undef, undef, undef], []⟩) (listed' := #[true, true, true, true, true, true, true, false, true, false, false, false, false]) (by kernel_rfl) (by kernel_rfl) (exec_load64 _ (by kernel_rfl) (by kernel_rfl) (H _ hB4)) (by kernel_rfl) (by kernel_rfl) ?_ ?_
                · skip
                  refine wpAny_ready (rs := [7]) (by kernel_rfl) (by simp) ?_
                  refine st_call (a' := ⟨#[.slice a0 len0 cap0, .bool a1, undef, undef, .bool false, .pointer (some ⟨b, 0, none⟩), .slice a0 len0 cap0, .int .i64 (len0 : Nat), .bool false, .slice a0 len0 cap0, .int .i64 (len0 : Nat), .bool false, .slice a0 len0 cap0, .agg #[.slice a0 len0 cap0, .int .i64 0], .pointer (some ⟨w.heap.size, 0, none⟩), .bool a1, .agg (intVals .i32 ys).toArray, .agg (intVals .i32 ys).toArray, .agg (intVals .i32 zi).toArray, .agg (intVals .i32 ys).toArray, .agg (intVals .i32 zi).toArray, .bool true, .bool true, .agg (intVals .i32 ys).toArray, .agg (intVals .i32 zf).toArray, .agg (intVals .i32 ys).toArray, undef, undef, undef], []⟩) (listed' := #[true, true, true, true, true, true, true, true, true, false, false, false, false]) (f := 7) (x := .tmp 23) (ts := #[23]) (by kernel_rfl) (by kernel_rfl) (by kernel_rfl) (by kernel_rfl) (by kernel_rfl) (c7 _) (by kernel_rfl) (by kernel_rfl) (fun w9 hb9 => ?_) ?_
                  · have hB9 := hB4.trans (hb9.mono hB4.size)
                    refine wpAny_ready (rs := [9]) (by kernel_rfl) (by simp) ?_
                    refine st_call (a' := ⟨#[.slice a0 len0 cap0, .bool a1, undef, undef, .bool false, .pointer (some ⟨b, 0, none⟩), .slice a0 len0 cap0, .int .i64 (len0 : Nat), .bool false, .slice a0 len0 cap0, .int .i64 (len0 : Nat), .bool false, .slice a0 len0 cap0, .agg #[.slice a0 len0 cap0, .int .i64 0], .pointer (some ⟨w.heap.size, 0, none⟩), .bool a1, .agg (intVals .i32 ys).toArray, .agg (intVals .i32 ys).toArray, .agg (intVals .i32 zi).toArray, .agg (intVals .i32 ys).toArray, .agg (intVals .i32 zi).toArray, .bool true, .bool true, .agg (intVals .i32 ys).toArray, .agg (intVals .i32 zf).toArray, .agg (intVals .i32 ys).toArray, .agg (intVals .i32 zf).toArray, undef, undef], []⟩) (listed' := #[true, true, true, true, true, true, true, true, true, true, false, false, false]) (f := 8) (x := .tmp 25) (ts := #[23]) (by kernel_rfl) (by kernel_rfl) (by kernel_rfl) (by kernel_rfl) (by kernel_rfl) (c8 _) (by kernel_rfl) (by kernel_rfl) (fun w10 hb10 => ?_) ?_
                    · have hB10 := hB9.trans (hb10.mono hB9.size)
                      refine wpAny_ready (rs := [10]) (by kernel_rfl) (by simp) ?_
                      refine st_value (a' := ⟨#[.slice a0 len0 cap0, .bool a1, undef, undef, .bool false, .pointer (some ⟨b, 0, none⟩), .slice a0 len0 cap0, .int .i64 (len0 : Nat), .bool false, .slice a0 len0 cap0, .int .i64 (len0 : Nat), .bool false, .slice a0 len0 cap0, .agg #[.slice a0 len0 cap0, .int .i64 0], .pointer (some ⟨w.heap.size, 0, none⟩), .bool a1, .agg (intVals .i32 ys).toArray, .agg (intVals .i32 ys).toArray, .agg (intVals .i32 zi).toArray, .agg (intVals .i32 ys).toArray, .agg (intVals .i32 zi).toArray, .bool true, .bool true, .agg (intVals .i32 ys).toArray, .agg (intVals .i32 zf).toArray, .agg (intVals .i32 ys).toArray, .agg (intVals .i32 zf).toArray, .bool true, undef], []⟩) (listed' := #[true, true, true, true, true, true, true, true, true, true, true, false, false]) (by kernel_rfl) (by kernel_rfl) (exec_eq64 hzf _ 24 26 (by kernel_rfl) (by kernel_rfl) (by kernel_rfl)) (by kernel_rfl) (by kernel_rfl) ?_ ?_
                      · skip
                        refine wpAny_ready (rs := [11]) (by kernel_rfl) (by simp) ?_
                        refine st_value (a' := ⟨#[.slice a0 len0 cap0, .bool a1, undef, undef, .bool false, .pointer (some ⟨b, 0, none⟩), .slice a0 len0 cap0, .int .i64 (len0 : Nat), .bool false, .slice a0 len0 cap0, .int .i64 (len0 : Nat), .bool false, .slice a0 len0 cap0, .agg #[.slice a0 len0 cap0, .int .i64 0], .pointer (some ⟨w.heap.size, 0, none⟩), .bool a1, .agg (intVals .i32 ys).toArray, .agg (intVals .i32 ys).toArray, .agg (intVals .i32 zi).toArray, .agg (intVals .i32 ys).toArray, .agg (intVals .i32 zi).toArray, .bool true, .bool true, .agg (intVals .i32 ys).toArray, .agg (intVals .i32 zf).toArray, .agg (intVals .i32 ys).toArray, .agg (intVals .i32 zf).toArray, .bool true, .bool true], []⟩) (listed' := #[true, true, true, true, true, true, true, true, true, true, true, true, false]) (by kernel_rfl) (by kernel_rfl) (exec_pick' _ (.tmp 22) (.tmp 27) (.const (.bool false)) (by kernel_rfl) (by kernel_rfl)) (by kernel_rfl) (by kernel_rfl) ?_ ?_
                        · skip
                          refine wpAny_ready (rs := [12]) (by kernel_rfl) (by simp) ?_
                          refine st_value (a' := ⟨#[.slice a0 len0 cap0, .bool a1, undef, undef, .bool true, .pointer (some ⟨b, 0, none⟩), .slice a0 len0 cap0, .int .i64 (len0 : Nat), .bool false, .slice a0 len0 cap0, .int .i64 (len0 : Nat), .bool false, .slice a0 len0 cap0, .agg #[.slice a0 len0 cap0, .int .i64 0], .pointer (some ⟨w.heap.size, 0, none⟩), .bool a1, .agg (intVals .i32 ys).toArray, .agg (intVals .i32 ys).toArray, .agg (intVals .i32 zi).toArray, .agg (intVals .i32 ys).toArray, .agg (intVals .i32 zi).toArray, .bool true, .bool true, .agg (intVals .i32 ys).toArray, .agg (intVals .i32 zf).toArray, .agg (intVals .i32 ys).toArray, .agg (intVals .i32 zf).toArray, .bool true, .bool true], []⟩) (listed' := #[true, true, true, true, true, true, true, true, true, true, true, true, true]) (by kernel_rfl) (by kernel_rfl) (exec_move' _ (.tmp 28) (.inr (by kernel_rfl))) (by kernel_rfl) (by kernel_rfl) ?_ ?_
                          · skip
                            refine wpAny_done (by kernel_rfl) ?_ _
                            exact fin _ hB10
                          exact AllReady.nil
                        exact AllReady.nil
                      exact AllReady.nil
                    exact AllReady.nil
                  exact AllReady.nil
                exact AllReady.nil
              exact AllReady.nil
            exact AllReady.nil
          exact AllReady.nil
        exact AllReady.nil
      exact AllReady.nil
    exact AllReady.nil
  exact AllReady.nil
/-! ### THE ROW's STEP: WRITTEN OUT: LEAVE IT -/
set_option maxRecDepth 100000 in
theorem lifted (os : Os) (started : os.Started) (H : Type) (enc : TypeId × Value → H) :
    ReturnsInHanded {} Try.checked os 3 .any (Rows.fnTransformsSpec.pre6 enc Try.prog Try.f3 Rows.fnTransformsRow.domain false) (Rows.fnTransformsSpec.post enc Try.prog Try.f3 false true false false) := by
  refine returnsInHanded_of_change (C := Try.checked) own started (by kernel_rfl) Try.func3
    (ChangeSpec.witness6 (enc := enc) (C := Try.checked) false ⟨#[], #[.slice none 0 0, .bool false], []⟩ 8 (by kernel_rfl) (by kernel_rfl) (by kernel_rfl) (by kernel_rfl)) ?_
  intro W base args ds gs before hval0 hW hcnd _
  have hval : ∀ (j : Nat) t v, Try.f3.params[j]? = some t → args[j]? = some v → Value.okWide Try.prog W .any base t v := hval0
  have hW' := hW
  obtain ⟨p, q, hA0, hV, rfl, hfz, hnd⟩ := hW
  have hA : DataW.TrodAll enc Try.prog W 0 (fun _ => true) true Try.f3.params.toList args.toList ds p := hA0
  rw [Try.params3] at hA hval
  obtain ⟨v0, vs0, d0, ds0, p0, q0, hargs, rfl, rfl, h0, r0⟩ := trodAll_cons hA
  obtain ⟨v1, vs1, d1, ds1, p1, q1, rfl, rfl, rfl, h1, r1⟩ := trodAll_cons r0
  obtain ⟨rfl, rfl, rfl⟩ := trodAll_nil r1
  obtain rfl : args = #[v0, v1] := by cases args; simp_all
  obtain ⟨rfl, rfl⟩ := trodVars_none hV
  obtain ⟨a0, len0, cap0, rfl⟩ := okWide_slice Try.underlying22 (hval 0 22 v0 rfl rfl)
  have k0 := h0
  have lt0 : ∀ x ∈ p0, x.block < W.heap.size := by obtain ⟨m, hm⟩ := k0; exact DataW.trod_lt m _ _ _ hm
  obtain ⟨z0, w0⟩ : ∃ zs, IsRow .u32 W a0 len0 cap0 zs := by
    obtain ⟨fuel, hf⟩ := h0
    rcases open_ints Try.underlying22 Try.underlying31 (by kernel_rfl) hf with ⟨hcs, _⟩ | ⟨x, l, c, zs, hcs, _, hl, hm, hz, _, hcell, hwz⟩
    · simp [Value.cells] at hcs
      obtain ⟨rfl, rfl, rfl⟩ := hcs
      exact ⟨[], .inl ⟨rfl, rfl, rfl, rfl⟩⟩
    · simp [Value.cells] at hcs
      obtain ⟨rfl, rfl, rfl⟩ := hcs
      exact ⟨zs, .inr ⟨_, rfl, hl, hm, by simpa using hz, hcell, hwz⟩⟩
  obtain ⟨a1, rfl, rfl, rfl⟩ := open_bool Try.underlying4 (hval 1 4 v1 rfl rfl) h1
  clear hA0 hval0
  refine (walk a0 len0 cap0 z0 a1 W w0).mono fun e W' ⟨he, bel⟩ => ?_
  subst he
  exact ⟨_, rfl, _, _, _, [], _, [], hW', trodAll_mk1 (shut_bool Try.underlying4 _), (trodAll_cons_mk (Below.trod laidOut (by kernel_rfl) (of_decide_eq_true (by kernel_rfl)) k0 bel lt0) (trodAll_cons_mk (shut_bool Try.underlying4 _) trodAll_mk0)), rfl, bel.frame _, fun h => by cases h⟩

theorem over : Rows.fnTransformsRow.holds Try.pinned (OpenSpec.ofChange Rows.fnTransformsSpec) :=
  OpenClaim.holds_of_wide 3 Try.f3 rfl rfl rfl rfl rfl rfl rfl ⟨rfl, rfl, rfl, rfl, rfl⟩ rfl rfl rfl rfl rfl (by kernel_rfl) Try.func3 (by kernel_rfl)
    (of_decide_eq_true (by kernel_rfl)) (by unfold Func.isWrapper; first | (rw [if_pos (by decide +kernel)]; kernel_rfl) | (rw [if_neg (by decide +kernel)]; exact ⟨rfl, rfl⟩))
    (fun os started H enc _ => lifted os started H enc)

end Go.Proofs.Ytahmhofnilgfgaa.fnTransforms

namespace Go.Proofs.Ytahmhofnilgfgaa
/-- The statement. -/
theorem fnTransforms_holds : Rows.FnTransformsSaid := fnTransforms.over
#print axioms fnTransforms_holds
end Go.Proofs.Ytahmhofnilgfgaa
