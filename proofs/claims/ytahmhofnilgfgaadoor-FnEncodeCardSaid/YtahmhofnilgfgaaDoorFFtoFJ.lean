/-
  A part of a machine over the model and of a walk by it, proved right against the model; proved outright, under no condition but what each theorem names.
-/
import Derived.Test.YtahmhofnilgfgaaDoorEXtoFI3
import Derived.Test.YtahmhofnilgfgaaDoorVWtoBB
import Derived.Test.YtahmhofnilgfgaaDoorETtoFG
import Derived.Test.YtahmhofnilgfgaaDoorFI4
set_option linter.unusedVariables false
set_option linter.unusedSimpArgs false
section
set_option linter.unusedSimpArgs false
namespace Go.VM
open Go Go.Proofs

/-! The signs that are not among some: spec.rest. -/
theorem i64_and15 (n : Int) : Go.bits .and .i64 n 15 = n % 16 := by
  have h255 : (BitVec.ofInt 64 15).toNat = 2 ^ 4 - 1 := by decide
  have key : (BitVec.ofInt 64 n &&& BitVec.ofInt 64 15).toNat = (n % ((2 ^ 64 : Nat) : Int)).toNat % 2 ^ 4 := by
    rw [BitVec.toNat_and, BitVec.toNat_ofInt, h255, Nat.and_two_pow_sub_one_eq_mod]
  show IntKind.i64.wrap ((BitVec.ofInt 64 n &&& BitVec.ofInt 64 15).toNat : Nat) = n % 16
  rw [key, IntKind.wrap_i64]
  omega

def restKeep (s : Nat) : Bool := !(decide (s % 16 = 0) && !decide (s = 0) && !decide (s = 240)) && !decide (10 < s % 16)
def restFrom (l : List Int) : Nat → Nat → List Int → List Int
  | 0, _, acc => acc
  | d + 1, s, acc => restFrom l d (s + 1) (if restKeep s && !l.contains (s : Int) then acc ++ [(s : Int)] else acc)
def restP (l : List Int) : List Int := restFrom l 256 0 []

theorem keep_get (e : Env) : ∀ (ks : List Nat) (j : Nat), (e.keep ks).get j = .undef ∨ (e.keep ks).get j = e.get j
  | [], j => .inl rfl
  | k :: ks, j => by
    simp only [keep_cons, get_cons]
    split
    · rename_i h; subst h; exact .inr rfl
    · exact keep_get e ks j
/-- what is no more read is forgotten -/
theorem VRounds_sel {n0 : Nat} {F} {d : Nat} {e : Env} {M : Mem} {Q : VX → Env → Mem → Prop} (ks : List Nat) (h : VRounds n0 F (d + 1) (e.keep ks) M Q) : VRounds n0 F (d + 1) e M Q :=
  VRounds_adj (.weak e M _ (keep_get e ks)) h

section
variable (C : Ctx) (l : List Int) (hl : l.length < 1000)

include hl
theorem rest_in (acc : List Int) (s : Nat) (Q : VX → Env → Mem → Prop) : ∀ (todo done : List Int) (e : Env), l = done ++ todo → e.get 28 = .vec 0 l.length → e.get 29 = .int .i64 l.length → e.get 30 = .int .i64 done.length →
    e.get 5 = .bool (done.contains (s : Int)) → e.get 4 = .int .i64 s → e.get 0 = .vec 0 l.length → e.get 3 = .vec 1 acc.length → e.get 9 = .int .i64 s →
    (∀ e' : Env, e'.get 5 = .bool (l.contains (s : Int)) → e'.get 4 = .int .i64 s → e'.get 0 = .vec 0 l.length → e'.get 3 = .vec 1 acc.length → e'.get 9 = .int .i64 s → Q (.exit 2) e' [.vec .i64 l 3, .vec .i64 acc 3]) →
    VRounds 1 (VWp C 1 [] c50l0) (todo.length + 1) e [.vec .i64 l 3, .vec .i64 acc 3] Q := by
  intro todo
  induction todo with
  | nil =>
    intro done e hd g28 g29 g30 g5 g4 g0 g3 g9 hQ
    refine round_gen fun K1 hK1 => ?_
    have hd' : done = l := by simpa using hd.symm
    subst hd'
    have hlt : decide ((done.length : Int) < done.length) = false := by simp
    simp -implicitDefEqProofs only [vms, ↓reduceIte, Nat.reduceEqDiff, reduceCtorEq, c50l0, g28, g29, g30, g5, g4, g0, g3, g9, hlt]
    rw [hK1]
    refine hQ _ ?_ ?_ ?_ ?_ ?_ <;> simp -implicitDefEqProofs only [vms, ↓reduceIte, Nat.reduceEqDiff, reduceCtorEq]
  | cons x todo ih =>
    intro done e hd g28 g29 g30 g5 g4 g0 g3 g9 hQ
    refine round_gen fun K1 hK1 => ?_
    have hll : l.length = done.length + (todo.length + 1) := by rw [hd]; simp
    have hlt : decide ((done.length : Int) < l.length) = true := by simp; omega
    have hix : vidxS [.vec .i64 l 3, .vec .i64 acc 3] 1 (.vec 0 l.length) (.int .i64 (done.length : Int)) = some (.ptr 0 done.length) := by
      rw [vidxS_vec rfl rfl (by omega) (by omega)]; simp
    have hx : l[done.length]? = some x := by rw [hd, List.getElem?_append_right (by omega)]; simp
    have hld : cellB (some (.vec .i64 l 3)) done.length = some (.int .i64 x) := cellB_vec hx
    have hw : IntKind.i64.wrap ((done.length : Int) + 1) = ((done ++ [x]).length : Int) := by rw [wrap_i64_id (by omega) (by omega)]; simp
    have go := fun e' h1 h2 h3 h4 h5 h6 h7 h8 => ih (done ++ [x]) e' (by rw [hd]; simp) h1 h2 h3 h4 h5 h6 h7 h8 hQ
    by_cases hc : done.contains (s : Int) = true
    · rw [hc] at g5
      simp -implicitDefEqProofs only [vms, ↓reduceIte, Nat.reduceEqDiff, reduceCtorEq, c50l0, g28, g29, g30, g5, g4, g0, g3, g9, hlt, hix, hld, hw]
      rw [hK1, roundK_normal]
      refine go _ ?_ ?_ ?_ ?_ ?_ ?_ ?_ ?_
      · simp -implicitDefEqProofs only [vms, ↓reduceIte, Nat.reduceEqDiff, reduceCtorEq]
      · simp -implicitDefEqProofs only [vms, ↓reduceIte, Nat.reduceEqDiff, reduceCtorEq]
      · simp -implicitDefEqProofs only [vms, ↓reduceIte, Nat.reduceEqDiff, reduceCtorEq]
      · have : (done ++ [x]).contains (s : Int) = true := by simp at hc ⊢; exact .inl hc
        simp -implicitDefEqProofs only [vms, ↓reduceIte, Nat.reduceEqDiff, reduceCtorEq, this]
      all_goals simp -implicitDefEqProofs only [vms, ↓reduceIte, Nat.reduceEqDiff, reduceCtorEq]
    · have hc' : done.contains (s : Int) = false := by simpa using hc
      rw [hc'] at g5
      simp -implicitDefEqProofs only [vms, ↓reduceIte, Nat.reduceEqDiff, reduceCtorEq, c50l0, g28, g29, g30, g5, g4, g0, g3, g9, hlt, hix, hld, hw]
      rw [hK1, roundK_normal]
      refine go _ ?_ ?_ ?_ ?_ ?_ ?_ ?_ ?_
      · simp -implicitDefEqProofs only [vms, ↓reduceIte, Nat.reduceEqDiff, reduceCtorEq]
      · simp -implicitDefEqProofs only [vms, ↓reduceIte, Nat.reduceEqDiff, reduceCtorEq]
      · simp -implicitDefEqProofs only [vms, ↓reduceIte, Nat.reduceEqDiff, reduceCtorEq]
      · have : (done ++ [x]).contains (s : Int) = decide (x = (s : Int)) := by
          simp at hc' ⊢
          simp [hc', eq_comm]
        simp -implicitDefEqProofs only [vms, ↓reduceIte, Nat.reduceEqDiff, reduceCtorEq, this]
      all_goals simp -implicitDefEqProofs only [vms, ↓reduceIte, Nat.reduceEqDiff, reduceCtorEq]

theorem rest_out (Q : VX → Env → Mem → Prop) : ∀ (d s : Nat) (acc : List Int) (e : Env), s + d = 256 → acc.length ≤ s → e.get 0 = .vec 0 l.length → e.get 3 = .vec 1 acc.length → e.get 9 = .int .i64 s →
    (∀ e' : Env, e'.get 3 = .vec 1 (restFrom l d s acc).length → Q (.exit 0) e' [.vec .i64 l 3, .vec .i64 (restFrom l d s acc) 3]) →
    VRounds 1 (VWp C 1 [] c50l1) (d + 1) e [.vec .i64 l 3, .vec .i64 acc 3] Q := by
  intro d
  induction d with
  | zero =>
    intro s acc e hs ha g0 g3 g9 hQ
    refine round_gen fun K1 hK1 => ?_
    have hs' : s = 256 := by omega
    subst hs'
    have hlt : decide (((256 : Nat) : Int) < 256) = false := by decide
    simp -implicitDefEqProofs only [vms, ↓reduceIte, Nat.reduceEqDiff, reduceCtorEq, c50l1, g0, g3, g9, hlt]
    rw [hK1]
    refine hQ _ ?_
    simp -implicitDefEqProofs only [vms, ↓reduceIte, Nat.reduceEqDiff, reduceCtorEq]
    rfl
  | succ d ih =>
    intro s acc e hs ha g0 g3 g9 hQ
    refine round_gen fun K1 hK1 => ?_
    have hlt : decide ((s : Int) < 256) = true := by simp; omega
    have hw : IntKind.i64.wrap ((s : Int) + 1) = ((s + 1 : Nat) : Int) := by rw [wrap_i64_id (by omega) (by omega)]; simp
    have hrf : ∀ b : Bool, (restKeep s && !l.contains (s : Int)) = b → restFrom l (d + 1) s acc = restFrom l d (s + 1) (if b then acc ++ [(s : Int)] else acc) := by
      intro b hb; simp only [restFrom, hb]
    have d16 : ∀ k : Nat, ((s : Int) % 16 = (k : Int)) = (s % 16 = k) := by intro k; apply propext; omega
    -- what is behind the test
    have tail : ∀ e' : Env, e'.get 0 = .vec 0 l.length → e'.get 3 = .vec 1 acc.length → e'.get 9 = .int .i64 s → e'.get 4 = .int .i64 s → restKeep s = true →
        VWp C 1 [] c50t e' [.vec .i64 l 3, .vec .i64 acc 3] (blockK 1 (seqV C 1 [] (VC.reg [.op none (some 47) (.bin .add (.t 9) (.c (.int .i64 1))),
    .op none (some 9) (.mov (.t 47))] [0, 3, 9, 16, 17, 20, 21, 24, 25, 26, 36, 37, 38]) K1)) := by
      intro e' g0 g3 g9 g4 hk
      have hlen : lenB (some (.vec .i64 l 3)) l.length = some (.int .i64 l.length) := lenB_vec rfl
      simp -implicitDefEqProofs only [vms, ↓reduceIte, Nat.reduceEqDiff, reduceCtorEq, c50t, g0, g3, g9, g4, hlen]
      apply VWp_loop_of (k := l.length + 1)
      refine rest_in C l hl acc s _ l [] _ rfl ?_ ?_ ?_ ?_ ?_ ?_ ?_ ?_ ?_
      · simp -implicitDefEqProofs only [vms, ↓reduceIte, Nat.reduceEqDiff, reduceCtorEq]
      · simp -implicitDefEqProofs only [vms, ↓reduceIte, Nat.reduceEqDiff, reduceCtorEq]
      · (simp -implicitDefEqProofs only [vms, ↓reduceIte, Nat.reduceEqDiff, reduceCtorEq]; try rfl)
      · (simp -implicitDefEqProofs only [vms, ↓reduceIte, Nat.reduceEqDiff, reduceCtorEq]; try rfl)
      · simp -implicitDefEqProofs only [vms, ↓reduceIte, Nat.reduceEqDiff, reduceCtorEq]
      · simp -implicitDefEqProofs only [vms, ↓reduceIte, reduceCtorEq]
      · simp -implicitDefEqProofs only [vms, ↓reduceIte, Nat.reduceEqDiff, reduceCtorEq]
      · simp -implicitDefEqProofs only [vms, ↓reduceIte, Nat.reduceEqDiff, reduceCtorEq]
      intro e1 k5 k4 k0 k3 k9
      by_cases hc : l.contains (s : Int) = true
      · rw [hc] at k5
        simp -implicitDefEqProofs only [vms, ↓reduceIte, Nat.reduceEqDiff, reduceCtorEq, k5, k4, k0, k3, k9, hw]
        rw [hK1, roundK_normal]
        refine ih (s + 1) acc _ (by omega) (by omega) ?_ ?_ ?_ ?_
        · simp -implicitDefEqProofs only [vms, ↓reduceIte, reduceCtorEq]
        · simp -implicitDefEqProofs only [vms, ↓reduceIte, Nat.reduceEqDiff, reduceCtorEq]
        · simp -implicitDefEqProofs only [vms, ↓reduceIte, Nat.reduceEqDiff, reduceCtorEq]
        · have := hrf false (by rw [hc]; simp)
          rw [this] at hQ
          exact hQ
      · have hc' : l.contains (s : Int) = false := by simpa using hc
        rw [hc'] at k5
        have hel : ∀ A B : Blk, elems [A, B, .vec .i64 [(s : Int)] 3] .i64 (.vec 2 1) = some [(s : Int)] := fun A B => elems_vec rfl rfl
        simp -implicitDefEqProofs only [vms, ↓reduceIte, Nat.reduceEqDiff, Nat.reduceAdd, reduceCtorEq, Nat.reduceLeDiff, k5, k4, k0, k3, k9]
        refine app_of rfl rfl (.inl (by omega)) (hel _ _) (by simp; omega) ?_
        simp -implicitDefEqProofs only [vms, ↓reduceIte, Nat.reduceEqDiff, reduceCtorEq, callC, Nat.reduceBEq, hw]
        rw [hK1, roundK_normal]
        refine VRounds_sel [0, 3, 9] ?_
        simp -implicitDefEqProofs only [vms, ↓reduceIte, Nat.reduceEqDiff, reduceCtorEq]
        refine VRounds_adj (adj_take 2 (by omega) (by simp) rfl rfl) ?_
        refine ih (s + 1) (acc ++ [(s : Int)]) _ (by omega) (by simp; omega) ?_ ?_ ?_ ?_
        · simp -implicitDefEqProofs only [vms, ↓reduceIte, reduceCtorEq]
        · simp -implicitDefEqProofs only [vms, ↓reduceIte, Nat.reduceEqDiff, reduceCtorEq]; simp
        · simp -implicitDefEqProofs only [vms, ↓reduceIte, Nat.reduceEqDiff, reduceCtorEq]
        · have := hrf true (by rw [hc', hk]; rfl)
          rw [this] at hQ
          exact hQ
    have hn : ∀ k : Nat, ((s : Int) = (k : Int)) = (s = k) := by intro k; apply propext; omega
    have skip : restKeep s = false → ∀ e' : Env, e'.get 0 = .vec 0 l.length → e'.get 3 = .vec 1 acc.length → e'.get 9 = .int .i64 (s + 1 : Nat) → VRounds 1 (VWp C 1 [] c50l1) (d + 1) e' [.vec .i64 l 3, .vec .i64 acc 3] Q := by
      intro hk e' g0 g3 g9
      refine ih (s + 1) acc e' (by omega) (by omega) g0 g3 g9 ?_
      have := hrf false (by rw [hk]; rfl)
      rw [this] at hQ
      exact hQ
    by_cases h1 : s % 16 = 0
    · have t1 : decide ((s : Int) % 16 = 0) = true := by simp; omega
      by_cases h2 : s = 0
      · have t2 : decide ((s : Int) = 0) = true := by simp; omega
        have t4 : decide (10 < (s : Int) % 16) = false := by simp; omega
        simp -implicitDefEqProofs only [vms, ↓reduceIte, Nat.reduceEqDiff, reduceCtorEq, c50l1, g0, g3, g9, hlt, i64_and15, t1, t2, t4]
        refine tail _ ?_ ?_ ?_ ?_ ?_
        · simp -implicitDefEqProofs only [vms, ↓reduceIte, reduceCtorEq]
        · simp -implicitDefEqProofs only [vms, ↓reduceIte, Nat.reduceEqDiff, reduceCtorEq]
        · simp -implicitDefEqProofs only [vms, ↓reduceIte, Nat.reduceEqDiff, reduceCtorEq]
        · simp -implicitDefEqProofs only [vms, ↓reduceIte, Nat.reduceEqDiff, reduceCtorEq]
        · subst h2; rfl
      · have t2 : decide ((s : Int) = 0) = false := by simp; omega
        by_cases h3 : s = 240
        · have t3 : decide ((s : Int) = 240) = true := by simp; omega
          have t4 : decide (10 < (s : Int) % 16) = false := by simp; omega
          simp -implicitDefEqProofs only [vms, ↓reduceIte, Nat.reduceEqDiff, reduceCtorEq, c50l1, g0, g3, g9, hlt, i64_and15, t1, t2, t3, t4]
          refine tail _ ?_ ?_ ?_ ?_ ?_
          · simp -implicitDefEqProofs only [vms, ↓reduceIte, reduceCtorEq]
          · simp -implicitDefEqProofs only [vms, ↓reduceIte, Nat.reduceEqDiff, reduceCtorEq]
          · simp -implicitDefEqProofs only [vms, ↓reduceIte, Nat.reduceEqDiff, reduceCtorEq]
          · simp -implicitDefEqProofs only [vms, ↓reduceIte, Nat.reduceEqDiff, reduceCtorEq]
          · subst h3; rfl
        · have t3 : decide ((s : Int) = 240) = false := by simp; omega
          simp -implicitDefEqProofs only [vms, ↓reduceIte, Nat.reduceEqDiff, reduceCtorEq, c50l1, g0, g3, g9, hlt, i64_and15, t1, t2, t3, hw]
          rw [hK1, roundK_normal]
          refine skip (by simp [restKeep, h1, h2, h3]) _ ?_ ?_ ?_
          · simp -implicitDefEqProofs only [vms, ↓reduceIte, reduceCtorEq]
          · simp -implicitDefEqProofs only [vms, ↓reduceIte, Nat.reduceEqDiff, reduceCtorEq]
          · simp -implicitDefEqProofs only [vms, ↓reduceIte, Nat.reduceEqDiff, reduceCtorEq]
    · have t1 : decide ((s : Int) % 16 = 0) = false := by simp; omega
      by_cases h4 : 10 < s % 16
      · have t4 : decide (10 < (s : Int) % 16) = true := by simp; omega
        simp -implicitDefEqProofs only [vms, ↓reduceIte, Nat.reduceEqDiff, reduceCtorEq, c50l1, g0, g3, g9, hlt, i64_and15, t1, t4, hw]
        rw [hK1, roundK_normal]
        refine skip (by simp [restKeep, h4]) _ ?_ ?_ ?_
        · simp -implicitDefEqProofs only [vms, ↓reduceIte, reduceCtorEq]
        · simp -implicitDefEqProofs only [vms, ↓reduceIte, Nat.reduceEqDiff, reduceCtorEq]
        · simp -implicitDefEqProofs only [vms, ↓reduceIte, Nat.reduceEqDiff, reduceCtorEq]
      · have t4 : decide (10 < (s : Int) % 16) = false := by simp; omega
        simp -implicitDefEqProofs only [vms, ↓reduceIte, Nat.reduceEqDiff, reduceCtorEq, c50l1, g0, g3, g9, hlt, i64_and15, t1, t4]
        refine tail _ ?_ ?_ ?_ ?_ ?_
        · simp -implicitDefEqProofs only [vms, ↓reduceIte, reduceCtorEq]
        · simp -implicitDefEqProofs only [vms, ↓reduceIte, Nat.reduceEqDiff, reduceCtorEq]
        · simp -implicitDefEqProofs only [vms, ↓reduceIte, Nat.reduceEqDiff, reduceCtorEq]
        · simp -implicitDefEqProofs only [vms, ↓reduceIte, Nat.reduceEqDiff, reduceCtorEq]
        · simp [restKeep, h1]; omega

theorem rest_spec (hP : C.P = Tryd.prog) : VCalls C 50 [.vec 0 l.length] [.vec .i64 l 3] [] (fun v M' => v = .vec 1 (restP l).length ∧ M' = [.vec .i64 l 3, .vec .i64 (restP l) 3]) := by
  refine VCalls.of_fn (hs := kz c50) (F := F50) (by rw [hP]; exact is50) (by simp [F50]) ?_
  simp -implicitDefEqProofs only [vms, ↓reduceIte, Nat.reduceEqDiff, reduceCtorEq, Nat.reduceLeDiff, F50, c50]
  apply VWp_loop_of (k := 257)
  refine rest_out C l hl _ 256 0 [] _ rfl (by simp) ?_ ?_ ?_ ?_
  · simp -implicitDefEqProofs only [vms, ↓reduceIte, reduceCtorEq]
  · simp -implicitDefEqProofs only [vms, ↓reduceIte, Nat.reduceEqDiff, reduceCtorEq]
  · simp -implicitDefEqProofs only [vms, ↓reduceIte, Nat.reduceEqDiff, reduceCtorEq]; rfl
  · intro e' g3
    simp -implicitDefEqProofs only [vms, ↓reduceIte, Nat.reduceEqDiff, g3, knownGo]
    simp only [V.known, if_true]
    exact retGo_refl ⟨rfl, rfl⟩
end
end Go.VM
end

section
set_option maxRecDepth 100000
namespace Go.VM
open Go Go.Proofs

/-! Closed functions: their results, by the kernel's runs; what is no more named is left away. -/
theorem VCalls.ext_mono {C C' : Ctx} (hP : C'.P = C.P) (he : ∀ a v, C.ext a = some v → C'.ext a = some v) {f : Nat} {vs : List V} {M : Mem} {mv : List Nat} {R : V → Mem → Prop} (h : VCalls C f vs M mv R) : VCalls C' f vs M mv R := by
  intro ρ κ w hR hcl
  have hR0 : Rel C ρ κ M w := ⟨hR.blk, hR.inj, fun a v ha => hR.ext a v (he a v ha), hR.cl⟩
  rw [hP]
  refine Calls.mono (h ρ κ w hR0 hcl) ?_
  rintro en w' ⟨ρ', κ', v, M', h1, h2, h3, h4, h5, h6⟩
  refine ⟨ρ', κ', v, M', h1, h2, ⟨h3.blk, h3.inj, fun a v ha => ?_, h3.cl⟩, h4, h5, h6⟩
  obtain ⟨hc, hn⟩ := hR.ext a v ha
  have hlt : a.block < w.heap.size := by
    unfold World.cell? at hc
    cases hh : w.heap[a.block]? with
    | none => rw [hh] at hc; cases hc
    | some o => exact (Array.getElem?_eq_some_iff.1 hh).1
  refine ⟨?_, fun i hi he' => ?_⟩
  · have := h5.keep a.block hlt hn
    unfold World.cell? at hc ⊢
    rw [this]; exact hc
  · rcases h5.own i hi with ⟨j, hj, e⟩ | hge
    · exact hn j hj (e ▸ he')
    · omega

/-- blocks left away -/
theorem VCalls.clean {C : Ctx} {f : Nat} {vs : List V} {M : Mem} {mv : List Nat} {V0 : V} {M0 : Mem} (h : VCalls C f vs M mv fun v M' => v = V0 ∧ M' = M0) (V1 : V) (M1 : Mem) (σ : Nat → Nat) (h0 : ∀ j, j < M.length → σ j = j)
    (hn : M.length ≤ M1.length) (hinj : ∀ i j, i < M1.length → j < M1.length → σ i = σ j → i = j) (hM : ∀ (j : Nat) (b : Blk), M1[j]? = some b → M0[σ j]? = some (b.ren σ)) (hv : V0 = V1.ren σ) (hcv : clB M1.length V1.refs = true) (hcM : memCl M1.length M1 = true) :
    VCalls C f vs M mv fun v M' => v = V1 ∧ M' = M1 := by
  intro ρ κ w hR hcl
  refine Calls.mono (h ρ κ w hR hcl) ?_
  rintro en w' ⟨ρ', κ', v, M', h1, h2, h3, h4, h5, rfl, rfl⟩
  have hcM' : ∀ (j : Nat) (b : Blk), M1[j]? = some b → ∀ r ∈ b.refs, r < M1.length := fun j b hb => clB_iff (List.all_eq_true.1 hcM b (List.mem_of_getElem? hb))
  obtain ⟨hR₂, hst₂⟩ := ren_sound (n0 := M.length) (mv := mv) h3 σ h0 hinj hM hcM'
  exact ⟨_, _, V1, M1, by rw [h1, hv, V.real_ren], clB_iff hcv, hR₂, hn, h5.trans hst₂, rfl, rfl⟩

def idxσ (l : List Nat) (j : Nat) : Nat := l.getD j 0

theorem VCalls.pick {C : Ctx} {f : Nat} {vs : List V} {r : Option (V × Mem)} (h : ∀ v0 M0, r = some (v0, M0) → VCalls C f vs [] [] fun v M' => v = v0 ∧ M' = M0) (V1 : V) (M1 : Mem) (l : List Nat) (hl : l.length = M1.length) (hnd : l.Nodup)
    (hM : (r.map fun p => (p.1, l.map (p.2[·]?))) = some (V1.ren (idxσ l), M1.map (fun b => some (b.ren (idxσ l))))) (hcv : clB M1.length V1.refs = true) (hcM : memCl M1.length M1 = true) :
    VCalls C f vs [] [] fun v M' => v = V1 ∧ M' = M1 := by
  obtain ⟨v0, M0, rfl⟩ : ∃ v0 M0, r = some (v0, M0) := by
    cases r with
    | none => simp at hM
    | some p => exact ⟨p.1, p.2, rfl⟩
  simp only [Option.map_some, Option.some.injEq, Prod.mk.injEq] at hM
  refine (h v0 M0 rfl).clean V1 M1 (idxσ l) (by simp) (by simp) (fun i j hi hj he => ?_) (fun j b hb => ?_) hM.1 hcv hcM
  · have hi' : i < l.length := by omega
    have hj' : j < l.length := by omega
    unfold idxσ at he
    rw [List.getD_eq_getElem?_getD, List.getD_eq_getElem?_getD, List.getElem?_eq_getElem hi', List.getElem?_eq_getElem hj'] at he
    exact (List.getElem_inj hnd).1 he
  · have hj : j < l.length := by rw [hl]; exact (List.getElem?_eq_some_iff.1 hb).1
    have h1 := congrArg (·[j]?) hM.2
    simp only [List.getElem?_map, List.getElem?_eq_getElem hj, hb, Option.map_some, Option.some.injEq] at h1
    unfold idxσ
    rw [List.getD_eq_getElem?_getD, List.getElem?_eq_getElem hj]
    exact h1

theorem cd_any (C : Ctx) (hP : C.P = Tryd.prog) {f : Nat} {vs : List V} : ∀ v0 M0, callX CD tblD 1000 20 f vs [] = some (v0, M0) → VCalls C f vs [] [] fun v' M'' => v' = v0 ∧ M'' = M0 :=
  fun _ _ h => (cd_call h).ext_mono hP (fun _ _ h => by cases h)
theorem cd_spec (C : Ctx) (hP : C.P = Tryd.prog) {f : Nat} {vs : List V} {v : V} {M' : Mem} (h : callX CD tblD 1000 20 f vs [] = some (v, M')) : VCalls C f vs [] [] fun v' M'' => v' = v ∧ M'' = M' := cd_any C hP _ _ h

/-- one function, its calls by an oracle -/
def runFn (C : Ctx) (call : Nat → List V → Mem → Option (V × Mem)) (k : Nat) (F : VFn) (vs : List V) (M : Mem) : Option (V × Mem) :=
  match runCode C M.length call k F.body (Env.ofArgs 0 vs) M with
  | some (.exit _, _, _) => none
  | some (_, e, M') => match vres e M' F.res with
    | some v => some (v, M')
    | none => none
  | none => none

theorem runFn_sound {C : Ctx} {call : Nat → List V → Mem → Option (V × Mem)} (hc : CallOk C call) {k f : Nat} {F : VFn} {hs : List (Nat × List Nat)} (hF : compFn C.P hs f = some F) {vs : List V} {M : Mem} (hl : vs.length ≤ F.nt) :
    ∀ v0 M0, runFn C call k F vs M = some (v0, M0) → VCalls C f vs M [] fun v M' => v = v0 ∧ M' = M0 := by
  intro v M' h
  unfold runFn at h
  split at h
  · cases h
  · rename_i x e M₂ hne hrun
    split at h
    · rename_i u hu
      cases h
      refine VCalls.of_fn hF hl (VWp_mono _ _ _ _ _ (fun x₃ e₃ M₃ hx => ?_) (runCode_sound hc k F.body _ M _ _ _ hrun))
      obtain ⟨rfl, rfl, rfl⟩ := hx
      have fin : match vres e₃ M₃ F.res with
          | some v₁ => ∃ v' M'', Fin M.length v₁ M₃ v' M'' ∧ (v' = v ∧ M'' = M₃)
          | none => False := by
        rw [hu]
        exact ⟨_, _, .refl, rfl, rfl⟩
      cases x₃ with
      | normal => exact fin
      | ret => exact fin
      | exit id => exact (hne id rfl).elim
    · cases h
  · cases h

/-- spec.rest by what it gives -/
def callRest (f : Nat) (vs : List V) (M : Mem) : Option (V × Mem) :=
  if f = 50 then match vs with
    | [.vec b n] => match M[b]? with
      | some (.vec .i64 l 3) => if l.length = n ∧ n < 1000 then some (.vec M.length (restP l).length, M ++ [.vec .i64 (restP l) 3]) else none
      | _ => none
    | _ => none
  else none

theorem callRest_ok (C : Ctx) (hP : C.P = Tryd.prog) : CallOk C callRest := by
  intro f vs M v M' h
  unfold callRest at h
  split at h
  · rename_i hf
    subst hf
    split at h
    · rename_i b n
      split at h
      · rename_i l hb
        split at h
        · rename_i hn
          obtain ⟨rfl, hn⟩ := hn
          cases h
          have hbl : b < M.length := (List.getElem?_eq_some_iff.1 hb).1
          have := (rest_spec C l hn hP).frame [b] M [.vec b l.length] (fun v' M'' => v' = .vec M.length (restP l).length ∧ M'' = M ++ [.vec .i64 (restP l) 3]) rfl (by simp) (by simpa using hbl) (fun j B hj => ?_) rfl (fun j B hj r hr => ?_) (by intro r hr; simp [V.refsL, V.refs] at hr ⊢; exact hr) (by simp) ?_
          · simpa using this
          · match j, hj with
            | 0, hj =>
              simp only [List.getElem?_cons_zero, Option.some.injEq] at hj
              subst hj
              exact hb
          · match j, hj with
            | 0, hj =>
              simp only [List.getElem?_cons_zero, Option.some.injEq] at hj
              subst hj
              simp [Blk.refs] at hr
          · rintro _ _ ⟨rfl, rfl⟩ -
            refine ⟨?_, ?_⟩
            · simp [V.ren, fpσ]
            · have hset : M.set b (.vec .i64 l 3) = M := by
                apply List.ext_getElem?
                intro i
                rw [List.getElem?_set]
                split
                · rename_i h; subst h; rw [hb]
                · rfl
              simp [merge, setAll, Blk.ren, hset]
        · cases h
      · cases h
    · cases h
  · cases h

def hsC0 : List Int := [0, 1, 5, 1, 1, 1, 1, 1, 1, 0, 0, 0, 0, 0, 0, 0]
def hsL0 : List Int := [0, 1, 2, 3, 4, 5, 6, 7, 8, 9, 10, 11]
def hsC1 : List Int := [0, 2, 1, 3, 3, 2, 4, 3, 5, 5, 4, 4, 0, 0, 1, 125]
def hsL1 : List Int := [1, 2, 3, 0, 4, 17, 5, 18, 33, 49, 65, 6, 19, 81, 97, 7, 34, 113, 20, 50, 129, 145, 161, 8, 35, 66, 177, 193, 21, 82, 209, 240, 36, 51, 98, 114, 130, 9, 10, 22, 23, 24, 25, 26, 37, 38, 39, 40, 41, 42, 52, 53, 54, 55, 56, 57, 58, 67, 68, 69, 70, 71, 72, 73, 74, 83, 84, 85, 86, 87, 88, 89, 90, 99, 100, 101, 102, 103, 104, 105, 106, 115, 116, 117, 118, 119, 120, 121, 122, 131, 132, 133, 134, 135, 136, 137, 138, 146, 147, 148, 149, 150, 151, 152, 153, 154, 162, 163, 164, 165, 166, 167, 168, 169, 170, 178, 179, 180, 181, 182, 183, 184, 185, 186, 194, 195, 196, 197, 198, 199, 200, 201, 202, 210, 211, 212, 213, 214, 215, 216, 217, 218, 225, 226, 227, 228, 229, 230, 231, 232, 233, 234, 241, 242, 243, 244, 245, 246, 247, 248, 249, 250]
def hsC2 : List Int := [0, 3, 1, 1, 1, 1, 1, 1, 1, 1, 1, 0, 0, 0, 0, 0]
def hsL2 : List Int := [0, 1, 2, 3, 4, 5, 6, 7, 8, 9, 10, 11]
def hsC3 : List Int := [0, 2, 1, 2, 4, 4, 3, 4, 7, 5, 4, 4, 0, 1, 2, 119]
def hsL3 : List Int := [0, 1, 2, 3, 17, 4, 5, 33, 49, 6, 18, 65, 81, 7, 97, 113, 19, 34, 50, 129, 8, 20, 66, 145, 161, 177, 193, 9, 35, 51, 82, 240, 21, 98, 114, 209, 10, 22, 36, 52, 225, 37, 241, 23, 24, 25, 26, 38, 39, 40, 41, 42, 53, 54, 55, 56, 57, 58, 67, 68, 69, 70, 71, 72, 73, 74, 83, 84, 85, 86, 87, 88, 89, 90, 99, 100, 101, 102, 103, 104, 105, 106, 115, 116, 117, 118, 119, 120, 121, 122, 130, 131, 132, 133, 134, 135, 136, 137, 138, 146, 147, 148, 149, 150, 151, 152, 153, 154, 162, 163, 164, 165, 166, 167, 168, 169, 170, 178, 179, 180, 181, 182, 183, 184, 185, 186, 194, 195, 196, 197, 198, 199, 200, 201, 202, 210, 211, 212, 213, 214, 215, 216, 217, 218, 226, 227, 228, 229, 230, 231, 232, 233, 234, 242, 243, 244, 245, 246, 247, 248, 249, 250]
def hsVal (a b c d : Nat) : List V := intVs .u8 hsC0 ++ (.vec a 12 :: (intVs .u8 hsC1 ++ (.vec b 162 :: (intVs .u8 hsC2 ++ (.vec c 12 :: (intVs .u8 hsC3 ++ [.vec d 162]))))))
theorem hs_spec (C : Ctx) (hP : C.P = Tryd.prog) : VCalls C 54 [] [] [] fun v M' => v = .agg (hsVal 0 1 2 3) ∧ M' = [.vec .u8 hsL0 5, .vec .u8 hsL1 5, .vec .u8 hsL2 5, .vec .u8 hsL3 5] :=
  VCalls.pick (cd_any C hP) _ _ [1, 2, 3, 4] rfl (by decide) (by kernel_rfl) (by kernel_rfl) (by kernel_rfl)

def sosYL : List Int := [255, 218, 0, 8, 1, 1, 0, 0, 63, 0]
theorem sosY_spec (C : Ctx) (hP : C.P = Tryd.prog) : VCalls C 58 [] [] [] fun v M' => v = .vec 0 10 ∧ M' = [.vec .u8 sosYL 5] := cd_spec C hP (by kernel_rfl)
def sosCL : List Int := [255, 218, 0, 12, 3, 1, 0, 2, 17, 3, 17, 0, 63, 0]
theorem sosC_spec (C : Ctx) (hP : C.P = Tryd.prog) : VCalls C 59 [] [] [] fun v M' => v = .vec 0 14 ∧ M' = [.vec .u8 sosCL 5] := cd_spec C hP (by kernel_rfl)
def zzL : List Int := [0, 1, 8, 16, 9, 2, 3, 10, 17, 24, 32, 25, 18, 11, 4, 5, 12, 19, 26, 33, 40, 48, 41, 34, 27, 20, 13, 6, 7, 14, 21, 28, 35, 42, 49, 56, 57, 50, 43, 36, 29, 22, 15, 23, 30, 37, 44, 51, 58, 59, 52, 45, 38, 31, 39, 46, 53, 60, 61, 54, 47, 55, 62, 63]
theorem zz_spec (C : Ctx) (hP : C.P = Tryd.prog) : VCalls C 22 [] [] [] fun v M' => v = .ints .i64 zzL ∧ M' = [] := cd_spec C hP (by kernel_rfl)
def ba0L : List Int := [16, 11, 10, 16, 24, 40, 51, 61, 12, 12, 14, 19, 26, 58, 60, 55, 14, 13, 16, 24, 40, 57, 69, 56, 14, 17, 22, 29, 51, 87, 80, 62, 18, 22, 37, 56, 68, 109, 103, 77, 24, 35, 55, 64, 81, 104, 113, 92, 49, 64, 78, 87, 103, 121, 120, 101, 72, 92, 95, 98, 112, 100, 103, 99]
theorem ba0_spec (C : Ctx) (hP : C.P = Tryd.prog) : VCalls C 49 [.bool false] [] [] fun v M' => v = .ints .i64 ba0L ∧ M' = [] := cd_spec C hP (by kernel_rfl)
def ba1L : List Int := [17, 18, 24, 47, 99, 99, 99, 99, 18, 21, 26, 66, 99, 99, 99, 99, 24, 26, 56, 99, 99, 99, 99, 99, 47, 66, 99, 99, 99, 99, 99, 99, 99, 99, 99, 99, 99, 99, 99, 99, 99, 99, 99, 99, 99, 99, 99, 99, 99, 99, 99, 99, 99, 99, 99, 99, 99, 99, 99, 99, 99, 99, 99, 99]
theorem ba1_spec (C : Ctx) (hP : C.P = Tryd.prog) : VCalls C 49 [.bool true] [] [] fun v M' => v = .ints .i64 ba1L ∧ M' = [] := cd_spec C hP (by kernel_rfl)
end Go.VM
end

section
set_option linter.unusedSimpArgs false
namespace Go.VM
open Go Go.Proofs

/-! The transform of a block: the encoder's and the reference's are one; its bounds. -/
theorem cd_specM (C : Ctx) (hP : C.P = Tryd.prog) {f : Nat} {vs : List V} {M : Mem} {v : V} {M' : Mem} (h : callX CD tblD 1000 20 f vs M = some (v, M')) : VCalls C f vs M [] fun v' M'' => v' = v ∧ M'' = M' :=
  by
  have := cd_call h
  exact VCalls.ext_mono hP (fun _ _ h => by cases h) this

theorem colsW_len (l : List Int) : (colsW l).length = 64 := by simp [colsW]
theorem rowsW_len (l : List Int) : (rowsW l).length = 64 := by simp [rowsW]
theorem fwd_len (l : List Int) : (fwd l).length = 64 := rowsW_len _

theorem list64 (xs : List Int) (h : xs.length = 64) : [gI xs 0, gI xs 1, gI xs 2, gI xs 3, gI xs 4, gI xs 5, gI xs 6, gI xs 7, gI xs 8, gI xs 9, gI xs 10, gI xs 11, gI xs 12, gI xs 13, gI xs 14, gI xs 15, gI xs 16, gI xs 17, gI xs 18, gI xs 19, gI xs 20, gI xs 21, gI xs 22, gI xs 23, gI xs 24, gI xs 25, gI xs 26, gI xs 27, gI xs 28, gI xs 29, gI xs 30, gI xs 31, gI xs 32, gI xs 33, gI xs 34, gI xs 35, gI xs 36, gI xs 37, gI xs 38, gI xs 39, gI xs 40, gI xs 41, gI xs 42, gI xs 43, gI xs 44, gI xs 45, gI xs 46, gI xs 47, gI xs 48, gI xs 49, gI xs 50, gI xs 51, gI xs 52, gI xs 53, gI xs 54, gI xs 55, gI xs 56, gI xs 57, gI xs 58, gI xs 59, gI xs 60, gI xs 61, gI xs 62, gI xs 63] = xs := by
  have h1 : (List.range 64).map (gI xs) = xs := by
    apply List.ext_getElem?
    intro i
    simp only [List.getElem?_map]
    by_cases hi : i < 64
    · rw [List.getElem?_range hi, List.getElem?_eq_getElem (by omega)]
      simp [gI, List.getElem?_eq_getElem (show i < xs.length by omega)]
    · rw [List.getElem?_eq_none (by simpa using hi), List.getElem?_eq_none (by omega)]
      rfl
  exact h1

theorem colsD_spec (C : Ctx) (hP : C.P = Tryd.prog) (xs : List Int) (T : Nat) (h : xs.length = 64) : VCalls C 78 [.ptr 0 0] [.ints .i32 xs T] [] fun v M' => v = .tup [] ∧ M' = [.ints .i32 (colsW xs) T] := by
  have e := list64 xs h
  have := cd_specM C hP (colsD_run T (gI xs 0) (gI xs 1) (gI xs 2) (gI xs 3) (gI xs 4) (gI xs 5) (gI xs 6) (gI xs 7) (gI xs 8) (gI xs 9) (gI xs 10) (gI xs 11) (gI xs 12) (gI xs 13) (gI xs 14) (gI xs 15) (gI xs 16) (gI xs 17) (gI xs 18) (gI xs 19) (gI xs 20) (gI xs 21) (gI xs 22) (gI xs 23) (gI xs 24) (gI xs 25) (gI xs 26) (gI xs 27) (gI xs 28) (gI xs 29) (gI xs 30) (gI xs 31) (gI xs 32) (gI xs 33) (gI xs 34) (gI xs 35) (gI xs 36) (gI xs 37) (gI xs 38) (gI xs 39) (gI xs 40) (gI xs 41) (gI xs 42) (gI xs 43) (gI xs 44) (gI xs 45) (gI xs 46) (gI xs 47) (gI xs 48) (gI xs 49) (gI xs 50) (gI xs 51) (gI xs 52) (gI xs 53) (gI xs 54) (gI xs 55) (gI xs 56) (gI xs 57) (gI xs 58) (gI xs 59) (gI xs 60) (gI xs 61) (gI xs 62) (gI xs 63))
  rw [e] at this
  exact this
theorem rowsD_spec (C : Ctx) (hP : C.P = Tryd.prog) (xs : List Int) (T : Nat) (h : xs.length = 64) : VCalls C 79 [.ptr 0 0] [.ints .i32 xs T] [] fun v M' => v = .tup [] ∧ M' = [.ints .i32 (rowsW xs) T] := by
  have e := list64 xs h
  have := cd_specM C hP (rowsD_run T (gI xs 0) (gI xs 1) (gI xs 2) (gI xs 3) (gI xs 4) (gI xs 5) (gI xs 6) (gI xs 7) (gI xs 8) (gI xs 9) (gI xs 10) (gI xs 11) (gI xs 12) (gI xs 13) (gI xs 14) (gI xs 15) (gI xs 16) (gI xs 17) (gI xs 18) (gI xs 19) (gI xs 20) (gI xs 21) (gI xs 22) (gI xs 23) (gI xs 24) (gI xs 25) (gI xs 26) (gI xs 27) (gI xs 28) (gI xs 29) (gI xs 30) (gI xs 31) (gI xs 32) (gI xs 33) (gI xs 34) (gI xs 35) (gI xs 36) (gI xs 37) (gI xs 38) (gI xs 39) (gI xs 40) (gI xs 41) (gI xs 42) (gI xs 43) (gI xs 44) (gI xs 45) (gI xs 46) (gI xs 47) (gI xs 48) (gI xs 49) (gI xs 50) (gI xs 51) (gI xs 52) (gI xs 53) (gI xs 54) (gI xs 55) (gI xs 56) (gI xs 57) (gI xs 58) (gI xs 59) (gI xs 60) (gI xs 61) (gI xs 62) (gI xs 63))
  rw [e] at this
  exact this
theorem colsS_spec (C : Ctx) (hP : C.P = Tryd.prog) (xs : List Int) (h : xs.length = 64) : VCalls C 31 [.ints .i32 xs, .bool true, .fn 32 []] [] [] fun v M' => v = .ints .i32 (colsW xs) ∧ M' = [] := by
  have e := list64 xs h
  have := cd_specM C hP (colsS_run (gI xs 0) (gI xs 1) (gI xs 2) (gI xs 3) (gI xs 4) (gI xs 5) (gI xs 6) (gI xs 7) (gI xs 8) (gI xs 9) (gI xs 10) (gI xs 11) (gI xs 12) (gI xs 13) (gI xs 14) (gI xs 15) (gI xs 16) (gI xs 17) (gI xs 18) (gI xs 19) (gI xs 20) (gI xs 21) (gI xs 22) (gI xs 23) (gI xs 24) (gI xs 25) (gI xs 26) (gI xs 27) (gI xs 28) (gI xs 29) (gI xs 30) (gI xs 31) (gI xs 32) (gI xs 33) (gI xs 34) (gI xs 35) (gI xs 36) (gI xs 37) (gI xs 38) (gI xs 39) (gI xs 40) (gI xs 41) (gI xs 42) (gI xs 43) (gI xs 44) (gI xs 45) (gI xs 46) (gI xs 47) (gI xs 48) (gI xs 49) (gI xs 50) (gI xs 51) (gI xs 52) (gI xs 53) (gI xs 54) (gI xs 55) (gI xs 56) (gI xs 57) (gI xs 58) (gI xs 59) (gI xs 60) (gI xs 61) (gI xs 62) (gI xs 63))
  rw [e] at this
  exact this
theorem rowsS_spec (C : Ctx) (hP : C.P = Tryd.prog) (xs : List Int) (h : xs.length = 64) : VCalls C 31 [.ints .i32 xs, .bool false, .fn 33 []] [] [] fun v M' => v = .ints .i32 (rowsW xs) ∧ M' = [] := by
  have e := list64 xs h
  have := cd_specM C hP (rowsS_run (gI xs 0) (gI xs 1) (gI xs 2) (gI xs 3) (gI xs 4) (gI xs 5) (gI xs 6) (gI xs 7) (gI xs 8) (gI xs 9) (gI xs 10) (gI xs 11) (gI xs 12) (gI xs 13) (gI xs 14) (gI xs 15) (gI xs 16) (gI xs 17) (gI xs 18) (gI xs 19) (gI xs 20) (gI xs 21) (gI xs 22) (gI xs 23) (gI xs 24) (gI xs 25) (gI xs 26) (gI xs 27) (gI xs 28) (gI xs 29) (gI xs 30) (gI xs 31) (gI xs 32) (gI xs 33) (gI xs 34) (gI xs 35) (gI xs 36) (gI xs 37) (gI xs 38) (gI xs 39) (gI xs 40) (gI xs 41) (gI xs 42) (gI xs 43) (gI xs 44) (gI xs 45) (gI xs 46) (gI xs 47) (gI xs 48) (gI xs 49) (gI xs 50) (gI xs 51) (gI xs 52) (gI xs 53) (gI xs 54) (gI xs 55) (gI xs 56) (gI xs 57) (gI xs 58) (gI xs 59) (gI xs 60) (gI xs 61) (gI xs 62) (gI xs 63))
  rw [e] at this
  exact this

theorem fdct_spec (C : Ctx) (hP : C.P = Tryd.prog) (xs : List Int) (T : Nat) (h : xs.length = 64) : VCalls C 69 [.ptr 0 0] [.ints .i32 xs T] [] fun v M' => v = .tup [] ∧ M' = [.ints .i32 (fwd xs) T] := by
  refine VCalls.of_fn (hs := kz c69) (F := F69) (by rw [hP]; exact is69) (by simp [F69]) ?_
  simp -implicitDefEqProofs only [vms, ↓reduceIte, reduceCtorEq, F69, c69]
  refine callK_of [] rfl (by simp) (colsD_spec C hP xs T h) ?_
  rintro _ _ ⟨rfl, rfl⟩
  simp -implicitDefEqProofs only [vms, ↓reduceIte, reduceCtorEq, callC]
  refine callK_of [] rfl (by simp) (rowsD_spec C hP _ T (colsW_len xs)) ?_
  rintro _ _ ⟨rfl, rfl⟩
  simp -implicitDefEqProofs only [vms, callC, vres_nil]
  exact retGo_refl ⟨rfl, rfl⟩

theorem forward_spec (C : Ctx) (hP : C.P = Tryd.prog) (xs : List Int) (h : xs.length = 64) : VCalls C 13 [.ints .i32 xs] [] [] fun v M' => v = .ints .i32 (fwd xs) ∧ M' = [] := by
  refine VCalls.of_fn (hs := kz c13) (F := F13) (by rw [hP]; exact is13) (by simp [F13]) ?_
  have hr : rangeB (some (.ints .i32 xs 79)) 0 64 = some (.ints .i32 xs) := rangeB_ints h.symm
  have hr2 : rangeB (some (.ints .i32 (fwd xs) 79)) 0 64 = some (.ints .i32 (fwd xs)) := rangeB_ints (fwd_len xs).symm
  have hst : ∀ A : Blk, stGo [A, .ints .i32 (List.replicate 64 0) 79] 64 (.ints .i32 (fwd xs)) (.ptr 1 0) = some (.undef, [A, .ints .i32 (fwd xs) 79]) := fun A => by
    rw [stGo_all (k := .i32) (xs := List.replicate 64 0) (T := 79) rfl (fwd_len xs).symm (by rw [fwd_len]; rfl)]
    rfl
  simp -implicitDefEqProofs only [vms, ↓reduceIte, Nat.reduceEqDiff, reduceCtorEq, F13, c13, range_eqB, hr]
  refine callK_new (colsS_spec C hP xs h) rfl rfl (.ints .i32 (colsW xs)) [] rfl rfl ?_
  simp -implicitDefEqProofs only [vms, ↓reduceIte, Nat.reduceEqDiff, callC, List.append_nil]
  refine callK_new (rowsS_spec C hP _ (colsW_len xs)) rfl rfl (.ints .i32 (fwd xs)) [] rfl rfl ?_
  simp -implicitDefEqProofs only [vms, ↓reduceIte, Nat.reduceEqDiff, callC, List.append_nil, hst, range_eqB, hr2]
  exact retGo_take 0 (Nat.le_refl _) (by simp) rfl rfl ⟨rfl, rfl⟩

theorem gI_map {f : Nat → Int} {n j : Nat} (h : j < n) : gI ((List.range n).map f) j = f j := by
  simp [gI, h]
theorem gL_map {f : Nat → List Int} {n j : Nat} (h : j < n) : ((List.range n).map f).getD j [] = f j := by
  simp [h]
theorem colsW_get (l : List Int) (u k : Nat) (hu : u < 8) (hk : k < 8) : gI (colsW l) (8 * u + k) = gI (colW (gI l k) (gI l (8 + k)) (gI l (16 + k)) (gI l (24 + k)) (gI l (32 + k)) (gI l (40 + k)) (gI l (48 + k)) (gI l (56 + k))) u := by
  unfold colsW
  rw [gI_map (by omega), show (8 * u + k) % 8 = k by omega, show (8 * u + k) / 8 = u by omega]
  unfold cols8
  rw [gL_map hk]
theorem rowsW_get (l : List Int) (u v : Nat) (hu : u < 8) (hv : v < 8) : gI (rowsW l) (8 * u + v) = gI (rowW (gI l (8 * u)) (gI l (8 * u + 1)) (gI l (8 * u + 2)) (gI l (8 * u + 3)) (gI l (8 * u + 4)) (gI l (8 * u + 5)) (gI l (8 * u + 6)) (gI l (8 * u + 7))) v := by
  unfold rowsW
  rw [gI_map (by omega), show (8 * u + v) % 8 = v by omega, show (8 * u + v) / 8 = u by omega]
  unfold rows8
  rw [gL_map hu]

theorem gI_get (xs : List Int) (i : Nat) (h : i < xs.length) : xs[i]? = some (gI xs i) := by
  simp [gI, h]

theorem cols_bounds (l : List Int) (h : ∀ i, i < 64 → inB 0 255 (gI l i)) (u k : Nat) (hu : u < 8) (hk : k < 8) :
    (u = 0 → inB (-268435456) (-268435456 + 534773760) (gI (colsW l) (8 * u + k))) ∧ (u ≠ 0 → inB (-267386880) (-267386880 + 534773760) (gI (colsW l) (8 * u + k))) := by
  rw [colsW_get l u k hu hk]
  obtain ⟨r0, r1, r2, r3, r4, r5, r6, r7, e, b0, b1, b2, b3, b4, b5, b6, b7⟩ := colW_bounds _ _ _ _ _ _ _ _ (h k (by omega)) (h (8 + k) (by omega)) (h (16 + k) (by omega)) (h (24 + k) (by omega)) (h (32 + k) (by omega)) (h (40 + k) (by omega)) (h (48 + k) (by omega)) (h (56 + k) (by omega))
  rw [e]
  have : u = 0 ∨ u = 1 ∨ u = 2 ∨ u = 3 ∨ u = 4 ∨ u = 5 ∨ u = 6 ∨ u = 7 := by omega
  rcases this with rfl | rfl | rfl | rfl | rfl | rfl | rfl | rfl
  · exact ⟨fun _ => b0, fun h => absurd rfl h⟩
  · exact ⟨fun h => by omega, fun _ => b1⟩
  · exact ⟨fun h => by omega, fun _ => b2⟩
  · exact ⟨fun h => by omega, fun _ => b3⟩
  · exact ⟨fun h => by omega, fun _ => b4⟩
  · exact ⟨fun h => by omega, fun _ => b5⟩
  · exact ⟨fun h => by omega, fun _ => b6⟩
  · exact ⟨fun h => by omega, fun _ => b7⟩

theorem fwd_bounds (l : List Int) (h : ∀ i, i < 64 → inB 0 255 (gI l i)) (j : Nat) (hj : j < 64) : inB (-8192) 8160 (gI (fwd l) j) ∧ (j ≠ 0 → inB (-8160) 8160 (gI (fwd l) j)) := by
  obtain ⟨u, v, hu, hv, rfl⟩ : ∃ u v, u < 8 ∧ v < 8 ∧ j = 8 * u + v := ⟨j / 8, j % 8, by omega, by omega, by omega⟩
  unfold fwd
  rw [rowsW_get _ u v hu hv]
  have hc := fun k hk => cols_bounds l h u k hu hk
  have c0 := hc 0 (by omega)
  have c1 := hc 1 (by omega)
  have c2 := hc 2 (by omega)
  have c3 := hc 3 (by omega)
  have c4 := hc 4 (by omega)
  have c5 := hc 5 (by omega)
  have c6 := hc 6 (by omega)
  have c7 := hc 7 (by omega)
  rw [Nat.add_zero] at c0
  have main : ∀ r0 r1 r2 r3 r4 r5 r6 r7 : Int, inB (-8192) 8160 r0 → (u ≠ 0 → inB (-8160) 8160 r0) → inB (-8160) 8160 r1 → inB (-8160) 8160 r2 → inB (-8160) 8160 r3 → inB (-8160) 8160 r4 → inB (-8160) 8160 r5 → inB (-8160) 8160 r6 → inB (-8160) 8160 r7 →
      inB (-8192) 8160 (gI [r0, r1, r2, r3, r4, r5, r6, r7] v) ∧ (8 * u + v ≠ 0 → inB (-8160) 8160 (gI [r0, r1, r2, r3, r4, r5, r6, r7] v)) := by
    intro r0 r1 r2 r3 r4 r5 r6 r7 b0 b0' b1 b2 b3 b4 b5 b6 b7
    have wk : ∀ r, inB (-8160) 8160 r → inB (-8192) 8160 r := fun r hr => ⟨by have := hr.1; omega, hr.2⟩
    have : v = 0 ∨ v = 1 ∨ v = 2 ∨ v = 3 ∨ v = 4 ∨ v = 5 ∨ v = 6 ∨ v = 7 := by omega
    rcases this with rfl | rfl | rfl | rfl | rfl | rfl | rfl | rfl
    · exact ⟨b0, fun hh => b0' (by omega)⟩
    · exact ⟨wk _ b1, fun _ => b1⟩
    · exact ⟨wk _ b2, fun _ => b2⟩
    · exact ⟨wk _ b3, fun _ => b3⟩
    · exact ⟨wk _ b4, fun _ => b4⟩
    · exact ⟨wk _ b5, fun _ => b5⟩
    · exact ⟨wk _ b6, fun _ => b6⟩
    · exact ⟨wk _ b7, fun _ => b7⟩
  by_cases hu0 : u = 0
  · obtain ⟨r0, r1, r2, r3, r4, r5, r6, r7, e, b0, b0', b1, b2, b3, b4, b5, b6, b7⟩ := rowW_bounds (-268435456) _ _ _ _ _ _ _ _ ⟨by omega, by omega⟩ (c0.1 hu0) (c1.1 hu0) (c2.1 hu0) (c3.1 hu0) (c4.1 hu0) (c5.1 hu0) (c6.1 hu0) (c7.1 hu0)
    rw [e]
    exact main _ _ _ _ _ _ _ _ b0 (fun hh => absurd hu0 hh) b1 b2 b3 b4 b5 b6 b7
  · obtain ⟨r0, r1, r2, r3, r4, r5, r6, r7, e, b0, b0', b1, b2, b3, b4, b5, b6, b7⟩ := rowW_bounds (-267386880) _ _ _ _ _ _ _ _ ⟨by omega, by omega⟩ (c0.2 hu0) (c1.2 hu0) (c2.2 hu0) (c3.2 hu0) (c4.2 hu0) (c5.2 hu0) (c6.2 hu0) (c7.2 hu0)
    rw [e]
    exact main _ _ _ _ _ _ _ _ b0 (fun _ => b0' rfl) b1 b2 b3 b4 b5 b6 b7
end Go.VM
end
