/-
  A part of a machine over the model and of a walk by it, proved right against the model; proved outright, under no condition but what each theorem names.
-/
import Derived.Test.YtahmhofnilgfgaaDoorLF2
import Derived.Test.YtahmhofnilgfgaaDoorLG
import Derived.Test.YtahmhofnilgfgaaDoorLH
import Derived.Below
import Derived.Laws.CopyRow
import Derived.Test.YtahmhofnilgfgaaDoorRows
import Derived.Lib.LaidTab
import Derived.Stop.LaidErr
import Derived.LaidMore
set_option linter.unusedVariables false
set_option linter.unusedSimpArgs false
section
set_option linter.unusedSimpArgs false
set_option maxRecDepth 10000
namespace Go.VM
open Go Go.Proofs Go.Bits

/-! The law, its third kind. -/
section
variable {C : Ctx} {nv : V} {n : Nat}
def MR (nv : V) (k w h : Nat) (pix : List Int) : Mem := [mixer nv k, .own [.int .i64 w] 3, .own [.int .i64 3, .int .i64 w, .int .i64 h, .int .i64 (-1), .slice 4 0 1 1] 30, .vec .u8 pix 5, .own [.vec 3 (4 * (w * h))] 32]
theorem PixOk.set {xs : List Int} {m : Nat} (h : PixOk xs m) (i : Nat) : PixOk (xs.set i 255) m := by
  refine ⟨by simp [h.len], fun x hx => ?_⟩
  rcases List.mem_or_eq_of_mem_set hx with hx | rfl
  · exact h.b x hx
  · omega
theorem alpha_loop (w h k : Nat) (hw : w ≤ 40) (hh : h ≤ 40) (Q : VX → Env → Mem → Prop) : ∀ (d i : Nat) (pix : List Int) (e : Env), i + 4 * d = 4 * (w * h) + 3 → PixOk pix (4 * (w * h)) → e.get 10 = .ptr 1 0 → e.get 11 = .int .i64 h → e.get 12 = .ptr 2 0 → e.get 14 = .int .i64 i →
    (∀ (e' : Env) (pix : List Int), PixOk pix (4 * (w * h)) → e'.get 2 = e.get 2 → e'.get 3 = e.get 3 → e'.get 10 = .ptr 1 0 → e'.get 11 = .int .i64 h → e'.get 12 = .ptr 2 0 → Q (.exit 1) e' (MR nv k w h pix)) →
    VRounds 0 (VWp C 0 [] c3l0) (d + 1) e (MR nv k w h pix) Q := by
  have hmul : w * h ≤ 1600 := Nat.mul_le_mul hw hh
  have w4 : IntKind.i64.wrap (4 * (w : Int)) = ((4 * w : Nat) : Int) := by rw [wrap_i64_id (by omega) (by omega)]; omega
  have wm : IntKind.i64.wrap (((4 * w : Nat) : Int) * (h : Int)) = ((4 * (w * h) : Nat) : Int) := by
    have : ((4 * w : Nat) : Int) * (h : Int) = ((4 * (w * h) : Nat) : Int) := by rw [← Nat.mul_assoc]; simp
    rw [this, wrap_i64_id (by omega) (by omega)]
  intro d
  induction d with
  | zero =>
    intro i pix e hi hx g10 g11 g12 g14 hQ
    refine round_gen fun K1 hK1 => ?_
    have hd : decide ((i : Int) < ((4 * (w * h) : Nat) : Int)) = false := by simp; omega
    simp (config := { implicitDefEqProofs := false, maxSteps := 5000000 }) only [vms, ↓reduceIte, Nat.reduceEqDiff, Int.reduceNeg, c3l0, MR, g10, g11, g12, g14, w4, wm, hd]
    rw [hK1]
    refine hQ _ pix hx ?_ ?_ ?_ ?_ ?_ <;> simp (config := { implicitDefEqProofs := false, maxSteps := 5000000 }) only [vms, ↓reduceIte, Nat.reduceEqDiff]
  | succ d ih =>
    intro i pix e hi hx g10 g11 g12 g14 hQ
    refine round_gen fun K1 hK1 => ?_
    have hd : decide ((i : Int) < ((4 * (w * h) : Nat) : Int)) = true := by simp; omega
    have hil : i < pix.length := by rw [hx.len]; omega
    have ix0 : ∀ M, vidxS M 1 (.slice 4 0 1 1) (.int .i64 0) = some (.ptr 4 0) := fun M => rfl
    have ix1 : ∀ (A B D E : Blk), vidxS [A, B, D, .vec .u8 pix 5, E] 1 (.vec 3 (4 * (w * h))) (.int .i64 i) = some (.ptr 3 i) := fun A B D E => by
      rw [vidxS_vec (M := [A, B, D, .vec .u8 pix 5, E]) (b := 3) (k' := .u8) (xs := pix) (T := 5) rfl hx.len (by omega) (by omega)]
      simp
    have hp : ∀ (A B D E : Blk), putB [A, B, D, .vec .u8 pix 5, E] 3 i (.int .u8 255) (some (.vec .u8 pix 5)) = some (.undef, [A, B, D, .vec .u8 (pix.set i 255) 5, E]) := fun A B D E => by
      simp [putB, hil]
    have wi : IntKind.i64.wrap ((i : Int) + 4) = ((i + 4 : Nat) : Int) := by rw [wrap_i64_id (by omega) (by omega)]; rfl
    simp (config := { implicitDefEqProofs := false, maxSteps := 5000000 }) only [vms, ↓reduceIte, Nat.reduceEqDiff, Int.reduceNeg, c3l0, MR, g10, g11, g12, g14, w4, wm, hd, ix0, ix1, hp, wi]
    rw [hK1, roundK_normal]
    refine ih (i + 4) (pix.set i 255) _ (by omega) (hx.set i) ?_ ?_ ?_ ?_ ?_ <;> simp (config := { implicitDefEqProofs := false, maxSteps := 5000000 }) only [vms, ↓reduceIte, Nat.reduceEqDiff]
    exact hQ

set_option maxHeartbeats 4000000 in
theorem law_k3 (hP : C.P = Tryd.prog) (hG : GlobQ C) (hn : Nums C nv n) (w h : Nat) (hw : 0 < w ∧ w ≤ 40) (hh : 0 < h ∧ h ≤ 40) (kq : IntKind) (q : Int) (use : Bool) (R : V → Mem → Prop) (hR : R (.bool true) [])
    (e : Env) (g2 : e.get 2 = .int kq q) (g3 : e.get 3 = .bool use) (g9 : e.get 9 = .ptr 0 0) (g10 : e.get 10 = .ptr 1 0) (g11 : e.get 11 = .int .i64 h) (g12 : e.get 12 = .ptr 2 0) (g13 : e.get 13 = .fn 5 [.ptr 2 0, .ptr 1 0]) :
    VWp C 0 [] c3k e (PicM nv 2 w h 3) (fnPost 0 [.tmp 8] R) := by
  have hmul : w * h ≤ 1600 := Nat.mul_le_mul hw.2 hh.2
  have e1 : ((((3 : Nat) : Int)) == 1) = false := rfl
  have e2 : ((3 : Int) == 1) = false := rfl
  have e3 : ((3 : Int) == 2) = false := rfl
  have w4 : IntKind.i64.wrap (4 * (w : Int)) = ((4 * w : Nat) : Int) := by rw [wrap_i64_id (by omega) (by omega)]; omega
  have wm : IntKind.i64.wrap (((4 * w : Nat) : Int) * (h : Int)) = ((4 * (w * h) : Nat) : Int) := by
    have : ((4 * w : Nat) : Int) * (h : Int) = ((4 * (w * h) : Nat) : Int) := by rw [← Nat.mul_assoc]; simp
    rw [this, wrap_i64_id (by omega) (by omega)]
  simp (config := { implicitDefEqProofs := false, maxSteps := 5000000 }) only [vms, ↓reduceIte, Nat.reduceEqDiff, Int.reduceNeg, natCast_lit, Int.reduceEq, c3k, PicM, g2, g3, g9, g10, g11, g12, g13, w4, wm]
  refine callK_pixels hP hn 2 (by omega) (4 * (w * h)) (by omega) _ ?_
  intro pix k' hx hk'
  have f1 : vfill [(0, 1, .vec 3 (4 * (w * h)))] (.agg [.nils]) = some (.agg [.vec 3 (4 * (w * h))]) := rfl
  have hb : ∀ A B D E : Blk, bslGo [A, B, D, E] 32 1 (some (.agg [.vec 3 (4 * (w * h))])) = some (.slice 4 0 1 1, [A, B, D, E, .own [.vec 3 (4 * (w * h))] 32]) := fun _ _ _ _ => by simp [bslGo, V.known]
  simp (config := { implicitDefEqProofs := false, maxSteps := 5000000 }) only [vms, ↓reduceIte, Nat.reduceEqDiff, Nat.reduceAdd, Int.reduceNeg, callC, f1, hb]
  apply VWp_loop_of (k := w * h + 1)
  refine alpha_loop (nv := nv) (C := C) w h k' hw.2 hh.2 _ (w * h) 3 pix _ (by omega) hx ?_ ?_ ?_ ?_ ?_ <;> simp (config := { implicitDefEqProofs := false, maxSteps := 5000000 }) only [vms, ↓reduceIte, Nat.reduceEqDiff, natCast_lit]
  intro e' pix' hx' a2 a3 a10 a11 a12
  simp (config := { implicitDefEqProofs := false, maxSteps := 5000000 }) only [vms, ↓reduceIte, Nat.reduceEqDiff, Int.reduceNeg, MR, a2, a3, a10, a11, a12, @vop_mkfn2 C _ _ 8 10 12 1 2 0 0]
  have hm : (.own [.vec 3 (4 * (w * h))] 32 : Blk) = .own [.vec 3 pix'.length] 32 := by rw [hx'.len]
  rw [hm]
  refine law_rgba hP hG hn w h k' hw hh pix' hx' kq q use R hR _ ?_ ?_ ?_ ?_ ?_ ?_ <;> simp (config := { implicitDefEqProofs := false, maxSteps := 5000000 }) only [vms, ↓reduceIte, Nat.reduceEqDiff]
end
end Go.VM
end

section
set_option linter.unusedSimpArgs false
set_option maxRecDepth 10000
namespace Go.VM
open Go Go.Proofs Go.Bits

/-! The law. -/
theorem law_spec {C : Ctx} {nv : V} {n : Nat} (hP : C.P = Tryd.prog) (hG : GlobQ C) (hn : Nums C nv n) (t1 : Int) (ht1 : 0 ≤ t1 ∧ t1 ≤ 255) (kq : IntKind) (q : Int) (use : Bool) :
    VCalls C 3 [nv, .int .u8 t1, .int kq q, .bool use] [] [] fun v _ => v = .bool true := by
  refine law_head hP hn t1 ht1 _ _ _ rfl ?_
  intro e w h kd hw hh hkd g2 g3 g9 g10 g11 g12 g13
  rcases hkd with rfl | rfl | rfl
  · exact law_k1 hP hG hn w h hw hh kq q use _ rfl e g2 g3 g9 g10 g11 g12 g13
  · exact law_k2 hP hG hn w h hw hh kq q use _ rfl e g2 g3 g9 g10 g11 g12 g13
  · exact law_k3 hP hG hn w h hw hh kq q use _ rfl e g2 g3 g9 g10 g11 g12 g13
end Go.VM
end

section
set_option linter.unusedSimpArgs false
namespace Go.VM
open Go Go.Proofs Go.Bits Go.RowKit

/-! The law, called from a world. -/
theorem Step.below {κ : Nat → Option Nat} {K ρ w ρ' κ' M' w'} (h : Step K ρ κ [] w ρ' κ' M' w') : Below w.heap.size w w' :=
  ⟨h.os, h.tape, h.output, h.size, fun k hk => h.keep k hk (fun i hi => absurd (alive_lt hi) (by simp))⟩

noncomputable def oldC (w : World) : Ctx := { P := Tryd.prog, ext := fun a => if a.block < w.heap.size then w.cell? a else none }

theorem oldC_ext {w : World} {a : Addr} {v : Value} (h : w.cell? a = some v) : (oldC w).ext a = some v := by
  have hb : a.block < w.heap.size := by
    refine Classical.byContradiction fun hn => ?_
    have hh : w.heap[a.block]? = none := Array.getElem?_eq_none (by omega)
    simp [World.cell?, hh] at h
  simp only [oldC]
  rw [if_pos hb, h]

theorem nums_of {w : World} {a : Option Addr} {len cap : Nat} {zs : List Int}
    (h : (a = none ∧ len = 0 ∧ cap = 0 ∧ zs = []) ∨ ∃ x, a = some x ∧ len ≤ cap ∧ cap ≤ maxLen ∧ zs.length = cap ∧ (∀ i, i < zs.length → w.cell? (x.add i) = some (.int .u32 (zs.getD i 0))) ∧ ∀ n ∈ zs, (Lit.int .u32 n).wf = true) :
    Nums (oldC w) (.raw (.slice a len cap)) len := by
  refine ⟨rfl, rfl, rfl, fun M => rfl, fun M i hi => ?_, fun _ => rfl, rfl⟩
  rcases h with ⟨rfl, rfl, -, -⟩ | ⟨x, rfl, hl, -, hz, hc, -⟩
  · omega
  · refine ⟨.raw (.pointer (some (x.add i))), zs.getD i 0, ?_, ?_⟩
    · have h1 : (0 : Int) ≤ i := by omega
      have h2 : (i : Int) < len := by omega
      simp [vidxS, h2]
    · have hcell := hc i (by omega)
      rw [vld_raw (oldC_ext hcell)]
      rfl

/-- the three tables, as the world holds them -/
structure Tabs (w : World) : Prop where
  uq : ∀ i j, i < 2 → j < 64 → w.cell? ⟨0, 64 * i + j, none⟩ = some (.int .u8 (gI (baseL (decide (i = 1))) (gI zzL j).toNat))
  zz : ∀ j, j < 64 → w.cell? ⟨1, j, none⟩ = some (.int .i64 (gI zzL j))
  bc : ∀ j, j < 256 → w.cell? ⟨2, j, none⟩ = some (.int .u8 (blen j : Nat))

theorem law_calls {w : World} (hT : Tabs w) {a : Option Addr} {len cap : Nat} {zs : List Int}
    (h : (a = none ∧ len = 0 ∧ cap = 0 ∧ zs = []) ∨ ∃ x, a = some x ∧ len ≤ cap ∧ cap ≤ maxLen ∧ zs.length = cap ∧ (∀ i, i < zs.length → w.cell? (x.add i) = some (.int .u32 (zs.getD i 0))) ∧ ∀ n ∈ zs, (Lit.int .u32 n).wf = true)
    (t1 : Int) (ht1 : 0 ≤ t1 ∧ t1 ≤ 255) (kq : IntKind) (q : Int) (use : Bool) :
    Calls Tryd.prog 3 #[.slice a len cap, .int .u8 t1, .int kq q, .bool use] w fun e w' => e = .returned (.bool true) ∧ Below w.heap.size w w' := by
  have hG : GlobQ (oldC w) := { bc := fun j hj => oldC_ext (hT.bc j hj), zz := fun j hj => oldC_ext (hT.zz j hj), uq := fun i j hi hj => oldC_ext (hT.uq i j hi hj) }
  refine (law_spec (C := oldC w) rfl hG (nums_of h) t1 ht1 kq q use (fun _ => 0) (fun _ => none) w ⟨fun i b hb => by simp at hb, fun i j hi => absurd (alive_lt hi) (by simp), fun a' v ha => ?_, fun i b hb => by simp at hb⟩ (fun b hb => by simp [V.refsL, V.refs] at hb)).mono ?_
  · simp only [oldC] at ha
    split at ha
    · exact ⟨ha, fun i hi => absurd (alive_lt hi) (by simp)⟩
    · cases ha
  · rintro e w' ⟨ρ', κ', v, M', rfl, -, -, -, hs, rfl⟩
    exact ⟨rfl, hs.below⟩
end Go.VM
end

section
set_option linter.unusedSimpArgs false
set_option maxRecDepth 100000
namespace Go.VM
open Go Go.Proofs Go.Bits

/-! What the row's condition gives: the three tables. -/
/-- an array of arrays of integers that reads as two tables holds their numbers -/
theorem cells_of_tab2 {H : Type} {enc : TypeId × Value → H} {P : Program} {w : World} {base : Nat} {sp : Nat → Bool} {held : Bool} {fuel : Nat} {t e e' : TypeId} {n m : Nat} {k : IntKind} {cs : List Value} {zss : List (List Int)} {p : List MemPlace}
    (ht : P.underlying t = some (.array n e)) (he : P.underlying e = some (.array m e')) (he' : P.underlying e' = some (.int k)) (hce : P.cellsOf e = m) (hce' : P.cellsOf e' = 1)
    (h : DataW.trod enc P w base sp held fuel t cs = some (.agg (zss.map fun zs => Lib.tabData k zs), p)) (i j : Nat) (hi : i < n) (hj : j < m) :
    ∃ zs, zss[i]? = some zs ∧ cs[i * m + j]? = (zs[j]?).map (Value.int k) := by
  cases fuel with
  | zero => simp [DataW.trod] at h
  | succ fuel =>
    simp only [DataW.trod, ht, hce] at h
    split at h
    · rename_i hl
      obtain ⟨xs, hm, hx⟩ := Option.map_eq_some_iff.1 h
      have hxs : xs.map (·.1) = zss.map fun zs => (Lib.tabData k zs : DataW H) := by
        have := congrArg Prod.fst hx
        simpa using this
      obtain ⟨b, hb, hf⟩ := Lib.mapM_at hm i i (by simp [hi])
      have h2 : (xs.map (·.1))[i]? = some b.1 := by simp [hb]
      rw [hxs] at h2
      simp only [List.getElem?_map, Option.map_eq_some_iff] at h2
      obtain ⟨zs, hz, hb1⟩ := h2
      obtain ⟨b1, b2⟩ := b
      simp only at hb1
      subst hb1
      have := Lib.cells_of_tab he he' hce' hce hf
      refine ⟨zs, hz, ?_⟩
      have h3 := congrArg (·[j]?) this
      simp only [List.getElem?_take, List.getElem?_drop, if_pos hj, List.getElem?_map] at h3
      exact h3
    · cases h

def bcL : List Int := (List.range 256).map fun j => ((blen j : Nat) : Int)
def uqL (i : Nat) : List Int := (List.range 64).map fun j => gI (baseL (decide (i = 1))) (gI zzL j).toNat
open YtahmhofnilgfgaaDoor in
theorem laid_zz : (Rows.laid_loop_example_pub_g03469_pub_jpeg_unzig : DataW Unit) = Lib.tabData .i64 zzL := by kernel_rfl
open YtahmhofnilgfgaaDoor in
theorem laid_bc : (Rows.laid_loop_example_pub_g03469_pub_jpeg_bitCount : DataW Unit) = Lib.tabData .u8 bcL := by kernel_rfl
open YtahmhofnilgfgaaDoor in
theorem laid_uq : (Rows.laid_loop_example_pub_g03469_pub_jpeg_unscaledQuant : DataW Unit) = .agg ([uqL 0, uqL 1].map fun zs => Lib.tabData .u8 zs) := by kernel_rfl
theorem g0 : Tryd.prog.globalNamed "loop.example/pub-g03469/pub/jpeg.unscaledQuant" = some 0 := by kernel_rfl
theorem g1 : Tryd.prog.globalNamed "loop.example/pub-g03469/pub/jpeg.unzig" = some 1 := by kernel_rfl
theorem g2 : Tryd.prog.globalNamed "loop.example/pub-g03469/pub/jpeg.bitCount" = some 2 := by kernel_rfl
theorem t0 : (Tryd.prog.globals[0]?).map (·.type) = some 112 := by kernel_rfl
theorem t1 : (Tryd.prog.globals[1]?).map (·.type) = some 60 := by kernel_rfl
theorem t2 : (Tryd.prog.globals[2]?).map (·.type) = some 168 := by kernel_rfl

theorem gI_getD (xs : List Int) (i : Nat) : xs.getD i 0 = gI xs i := rfl
open YtahmhofnilgfgaaDoor in
theorem tabs_of_laid {W : World} (h : laidMetH Tryd.prog Rows.fnEncodeRow.laid W) : Tabs W := by
  have h' : laidMet Tryd.prog [("loop.example/pub-g03469/pub/jpeg.unzig", Lib.tabData .i64 zzL), ("loop.example/pub-g03469/pub/jpeg.bitCount", Lib.tabData .u8 bcL), ("loop.example/pub-g03469/pub/jpeg.unscaledQuant", .agg ([uqL 0, uqL 1].map fun zs => Lib.tabData .u8 zs))] W := by
    rw [← laid_zz, ← laid_bc, ← laid_uq]
    exact h
  have hz := Lib.tabIs_of_head g1 t1 (show Tryd.prog.underlying 60 = some (.array 64 3) by kernel_rfl) (show Tryd.prog.underlying 3 = some (.int .i64) by kernel_rfl) (by kernel_rfl) (by kernel_rfl) h'
  have hb := Lib.tabIs_of_head g2 t2 (show Tryd.prog.underlying 168 = some (.array 256 5) by kernel_rfl) (show Tryd.prog.underlying 5 = some (.int .u8) by kernel_rfl) (by kernel_rfl) (by kernel_rfl) h'.tail
  refine ⟨fun i j hi hj => ?_, fun j hj => ?_, fun j hj => ?_⟩
  · obtain ⟨ps, ⟨g', t', cs, fuel, p, q, hg', ht', hvar, hd, _, _⟩, _⟩ := h'.tail.tail
    obtain rfl := Option.some.inj (g0.symm.trans hg')
    obtain rfl := Option.some.inj (t0.symm.trans ht')
    obtain ⟨zs, hzs, hc⟩ := cells_of_tab2 (show Tryd.prog.underlying 112 = some (.array 2 111) by kernel_rfl) (show Tryd.prog.underlying 111 = some (.array 64 5) by kernel_rfl) (show Tryd.prog.underlying 5 = some (.int .u8) by kernel_rfl) (by kernel_rfl) (by kernel_rfl) hd i j hi hj
    have := World.var?_cell g0 hvar (64 * i + j)
    rw [this]
    have hz : zs = uqL i := by
      have : i = 0 ∨ i = 1 := by omega
      rcases this with rfl | rfl
      · simpa using hzs.symm
      · simpa using hzs.symm
    subst hz
    rw [Nat.mul_comm i 64] at hc
    rw [← Array.getElem?_toList, hc]
    simp [uqL, hj]
  · have := hz.cell g1 j (by show j < 64; exact hj)
    rw [this, gI_getD]
  · have := hb.cell g2 j (by simpa [bcL] using hj)
    rw [this]
    simp [bcL, hj]
end Go.VM
end
