/-
  The bare row FnEncodeSaid: from the law in the machine to the law in a world. The condition is the row's own (the listed variables lie as the program lays them).
-/
import Derived.Test.YtahmhofnilgfgaaDoorLItoLL
import Derived.ProofKit
import Derived.OpenShut
import Derived.LaidMore
import Derived.Stop.Joined
set_option linter.unusedVariables false
set_option linter.unusedSimpArgs false
set_option linter.unusedVariables false
namespace Go.Proofs.YtahmhofnilgfgaaDoor.fnEncode
open Go Go.VM Go.RowKit Go.ChangeShapes Go.WideShapes Go.ChangeAt

theorem own : ownKnob Tryd.prog.godebug = none := by kernel_rfl
theorem laidOut : laidOutB Tryd.prog = true := by kernel_rfl

/-- The door's own heap meets the condition. -/
theorem door_met (os : Os) (args : Array Value) : laidMetH Tryd.prog Rows.fnEncodeRow.laid ((World.doorLaid Tryd.prog 600 os).forCall (fun _ _ => 0) ⟨#[], args, []⟩).memory :=
  laidMetH_of_parts3 (fuel := 8) (laidMet_of_run' 8 (by kernel_rfl) (by kernel_rfl)) (by kernel_rfl) (by kernel_rfl)

/-- The named variables read as they did. -/
theorem vars_stay {H : Type} {enc : TypeId × Value → H} {W W' : World} (hb : Below W.heap.size W W') : ∀ {ns : List String} {gs : List (DataW H)} {ps : List MemPlace},
    (∀ n ∈ ns, ∀ g t, Tryd.prog.globalNamed n = some g → (Tryd.prog.globals[g]?).map (·.type) = some t → Tryd.prog.readableRec t = true ∧ t < Tryd.prog.types.size) →
    DataW.TrodVars enc Tryd.prog W (fun _ => true) ns gs ps → DataW.TrodVars enc Tryd.prog W' (fun b => decide (b < W.heap.size)) ns gs ps
  | [], [], _, _, h => h
  | [], _ :: _, _, _, h => h.elim
  | _ :: _, [], _, _, h => h.elim
  | n :: ns, d :: ds, ps, hv, h => by
    have hlt := h.lt
    obtain ⟨g, t, cs, fuel, p, q, e1, e2, e3, e4, hs, rfl⟩ := h
    obtain ⟨hr, hrow⟩ := hv n (by simp) g t e1 e2
    have hp : ∀ x ∈ p, x.block < W.heap.size := fun x hx => hlt x (by simp [hx])
    obtain ⟨fuel', hf⟩ := Below.trod laidOut hr hrow (v := .agg cs) ⟨fuel, e4⟩ hb hp
    have hvar : W'.var? Tryd.prog n = some cs := by
      unfold World.var? at e3 ⊢
      rw [e1] at e3 ⊢
      simp only [Option.bind_some] at e3 ⊢
      have hg : g < W.heap.size := by
        cases hh : W.heap[g]? with
        | none => rw [hh] at e3; cases e3
        | some o => exact (Array.getElem?_eq_some_iff.1 hh).1
      rw [hb.block g hg]; exact e3
    exact ⟨g, t, cs, fuel', p, q, e1, e2, hvar, hf, vars_stay hb (fun n' hn' => hv n' (by simp [hn'])) hs, rfl⟩

theorem readable : ∀ n ∈ Rows.fnEncodeSpec.vars, ∀ g t, Tryd.prog.globalNamed n = some g → (Tryd.prog.globals[g]?).map (·.type) = some t → Tryd.prog.readableRec t = true ∧ t < Tryd.prog.types.size := by
  intro n hn g t hg ht
  simp only [Rows.fnEncodeSpec, List.mem_cons, List.not_mem_nil, or_false] at hn
  rcases hn with rfl | rfl | rfl
  · obtain rfl := Option.some.inj (g0.symm.trans hg)
    obtain rfl := Option.some.inj (t0.symm.trans ht)
    exact ⟨by kernel_rfl, of_decide_eq_true (by kernel_rfl)⟩
  · obtain rfl := Option.some.inj (g1.symm.trans hg)
    obtain rfl := Option.some.inj (t1.symm.trans ht)
    exact ⟨by kernel_rfl, of_decide_eq_true (by kernel_rfl)⟩
  · obtain rfl := Option.some.inj (g2.symm.trans hg)
    obtain rfl := Option.some.inj (t2.symm.trans ht)
    exact ⟨by kernel_rfl, of_decide_eq_true (by kernel_rfl)⟩

/-- a slice of integers that came in -/
def IsRow (k : IntKind) (w : World) (a : Option Addr) (len cap : Nat) (zs : List Int) : Prop :=
  (a = none ∧ len = 0 ∧ cap = 0 ∧ zs = []) ∨
  ∃ x, a = some x ∧ len ≤ cap ∧ cap ≤ maxLen ∧ zs.length = cap ∧ (∀ i, i < zs.length → w.cell? (x.add i) = some (.int k (zs.getD i 0))) ∧ ∀ n ∈ zs, (Lit.int k n).wf = true

set_option maxRecDepth 100000 in
theorem lifted (os : Os) (started : os.Started) (H : Type) (enc : TypeId × Value → H) :
    ReturnsInHanded {} Tryd.checked os 3 .any (fun w args => (Rows.fnEncodeSpec.pre enc Tryd.prog Tryd.f3 [] false w args ∧ laidMetH Tryd.prog Rows.fnEncodeRow.laid w) ∧ sizedMet enc Tryd.prog Tryd.f3 (OpenSpec.ofChange Rows.fnEncodeSpec) false w args)
      (Rows.fnEncodeSpec.post enc Tryd.prog Tryd.f3 false true false false) := by
  refine returnsInHanded_of_change_and (C := Tryd.checked) (X := fun w _ => laidMetH Tryd.prog Rows.fnEncodeRow.laid w) (fun _ _ _ hh h => h.of_heap hh) own started (by kernel_rfl) Tryd.func3
    (ChangeSpec.witness_shaped (enc := enc) (C := Tryd.checked) (os := os) (X := fun w _ => laidMetH Tryd.prog Rows.fnEncodeRow.laid w) false (World.doorLaid Tryd.prog 600 os) #[.slice none 0 0, .int .u8 0, .int .i16 0, .bool false] 8 rfl (World.shaped_of_RefB (by kernel_rfl) (by kernel_rfl)) (by kernel_rfl) (by kernel_rfl) (by kernel_rfl) (door_met os _)) ?_
  intro W base args ds gs before hval0 hW _ _ hL _
  have hval : ∀ (j : Nat) t v, Tryd.f3.params[j]? = some t → args[j]? = some v → Value.okWide Tryd.prog W .any base t v := hval0
  have hW' := hW
  obtain ⟨p, q, hA0, hV, rfl, hfz, hnd⟩ := hW
  have hA : DataW.TrodAll enc Tryd.prog W 0 (fun _ => true) true Tryd.f3.params.toList args.toList ds p := hA0
  rw [Tryd.params3] at hA hval
  obtain ⟨v0, vs0, d0, ds0, p0, q0, hargs, rfl, rfl, h0, r0⟩ := trodAll_cons hA
  obtain ⟨v1, vs1, d1, ds1, p1, q1, rfl, rfl, rfl, h1, r1⟩ := trodAll_cons r0
  obtain ⟨v2, vs2, d2, ds2, p2, q2, rfl, rfl, rfl, h2, r2⟩ := trodAll_cons r1
  obtain ⟨v3, vs3, d3, ds3, p3, q3, rfl, rfl, rfl, h3, r3⟩ := trodAll_cons r2
  obtain ⟨rfl, rfl, rfl⟩ := trodAll_nil r3
  obtain rfl : args = #[v0, v1, v2, v3] := by cases args; simp_all
  obtain ⟨a0, len0, cap0, rfl⟩ := okWide_slice Tryd.underlying22 (hval 0 22 v0 rfl rfl)
  have k0 := h0
  have lt0 : ∀ x ∈ p0, x.block < W.heap.size := by obtain ⟨m, hm⟩ := k0; exact DataW.trod_lt m _ _ _ hm
  obtain ⟨z0, w0⟩ : ∃ zs, IsRow .u32 W a0 len0 cap0 zs := by
    obtain ⟨fuel, hf⟩ := h0
    rcases open_ints Tryd.underlying22 Tryd.underlying43 (by kernel_rfl) hf with ⟨hcs, _⟩ | ⟨x, l, c, zs, hcs, _, hl, hm, hz, _, hcell, hwz⟩
    · simp [Value.cells] at hcs
      obtain ⟨rfl, rfl, rfl⟩ := hcs
      exact ⟨[], .inl ⟨rfl, rfl, rfl, rfl⟩⟩
    · simp [Value.cells] at hcs
      obtain ⟨rfl, rfl, rfl⟩ := hcs
      exact ⟨zs, .inr ⟨_, rfl, hl, hm, by simpa using hz, hcell, hwz⟩⟩
  obtain ⟨n1, rfl, rfl, rfl, wf1⟩ := open_int Tryd.underlying5 (hval 1 5 v1 rfl rfl) h1
  obtain ⟨n2, rfl, rfl, rfl, wf2⟩ := open_int Tryd.underlying23 (hval 2 23 v2 rfl rfl) h2
  obtain ⟨b3, rfl, rfl, rfl⟩ := open_bool Tryd.underlying4 (hval 3 4 v3 rfl rfl) h3
  have ht1 : 0 ≤ n1 ∧ n1 ≤ 255 := by
    have := wf1
    simp only [Lit.wf, Bool.and_eq_true, decide_eq_true_eq] at this
    have e1 : IntKind.u8.min = 0 := rfl
    have e2 : IntKind.u8.max = 255 := rfl
    rw [e1, e2] at this
    exact this
  obtain ⟨x1, x2, x3, rfl⟩ : ∃ x1 x2 x3, gs = [x1, x2, x3] := by
    match gs, hV with
    | [x1, x2, x3], _ => exact ⟨x1, x2, x3, rfl⟩
    | [], h => exact h.elim
    | [_], ⟨_, _, _, _, _, _, _, _, _, _, h, _⟩ => exact h.elim
    | [_, _], ⟨_, _, _, _, _, _, _, _, _, _, ⟨_, _, _, _, _, _, _, _, _, _, h, _⟩, _⟩ => exact h.elim
    | _ :: _ :: _ :: _ :: _, ⟨_, _, _, _, _, _, _, _, _, _, ⟨_, _, _, _, _, _, _, _, _, _, ⟨_, _, _, _, _, _, _, _, _, _, h, _⟩, _⟩, _⟩ => exact h.elim
  clear hA0 hval0
  refine (law_calls (tabs_of_laid hL) w0 n1 ht1 .i16 n2 b3).mono fun e W' ⟨he, bel⟩ => ?_
  subst he
  exact ⟨_, rfl, _, _, _, [], _, q, hW', trodAll_mk1 (shut_bool Tryd.underlying4 _), (trodAll_cons_mk (Below.trod laidOut (by kernel_rfl) (of_decide_eq_true (by kernel_rfl)) k0 bel lt0) (trodAll_cons_mk (shut_int Tryd.underlying5 wf1) (trodAll_cons_mk (shut_int Tryd.underlying23 wf2) (trodAll_cons_mk (shut_bool Tryd.underlying4 _) trodAll_mk0)))), vars_stay bel readable hV, bel.frame _, fun h => by cases h⟩

theorem over : Rows.fnEncodeRow.holds Tryd.pinned (OpenSpec.ofChange Rows.fnEncodeSpec) :=
  OpenClaim.holds_of_wide 3 Tryd.f3 rfl rfl rfl rfl rfl rfl rfl ⟨rfl, rfl, rfl, rfl, rfl⟩ rfl rfl rfl rfl rfl (by kernel_rfl) Tryd.func3 (by kernel_rfl)
    (of_decide_eq_true (by kernel_rfl)) (by unfold Func.isWrapper; first | (rw [if_pos (by decide +kernel)]; kernel_rfl) | (rw [if_neg (by decide +kernel)]; exact ⟨rfl, rfl⟩))
    (fun os started H enc _ => lifted os started H enc)
end Go.Proofs.YtahmhofnilgfgaaDoor.fnEncode
