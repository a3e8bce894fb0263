/-
  Appending is sound; code of the small machine, its rule of what it takes to end as asked. No condition but what each theorem names.
-/
import Derived.Test.YtahmhofnilgfgaaDoorVHtoVJ
import Derived.Laws.AppendOwn
import Derived.StillTail
import Derived.LoopN
set_option linter.unusedVariables false
set_option linter.unusedSimpArgs false
section
namespace Go.VM
open Go

/-! Appending. -/
def V.eraseB (b : Nat) (v : V) : V := if v.refs.contains b then .undef else v

def Blk.erase (b : Nat) : Blk → Blk
  | .own cs T => .own (cs.map (V.eraseB b)) T
  | B => B

def Mem.erase (M : Mem) (b : Nat) : Mem := M.map (Blk.erase b)

section
variable {C : Ctx} {ρ : Nat → Nat} {κ : Nat → Option Nat} {M : Mem} {w : World} {e : Env} {n : Nat} {a : Act}

theorem eraseB_cases (b : Nat) (v : V) : v.eraseB b = .undef ∨ (v.eraseB b = v ∧ b ∉ v.refs) := by
  unfold V.eraseB
  split
  · exact .inl rfl
  · rename_i h; exact .inr ⟨rfl, by simpa using h⟩

theorem erase_refs (b : Nat) (B : Blk) : ∀ r ∈ (B.erase b).refs, r ∈ B.refs ∧ r ≠ b := by
  intro r hr
  cases B with
  | own cs T =>
    simp only [Blk.erase, Blk.refs] at hr ⊢
    obtain ⟨v, hv, hr⟩ := V.mem_refsL.1 hr
    obtain ⟨u, hu, rfl⟩ := List.mem_map.1 hv
    rcases eraseB_cases b u with h | ⟨h, hn⟩
    · rw [h] at hr; simp [V.refs] at hr
    · rw [h] at hr; exact ⟨V.mem_refsL.2 ⟨u, hu, hr⟩, fun he => hn (he ▸ hr)⟩
  | _ => simp [Blk.erase, Blk.refs] at hr

theorem erase_live (b : Nat) (B : Blk) (c) : (B.erase b).live c ↔ B.live c := by cases B <;> exact Iff.rfl

theorem holds_erase {ρ' : Nat → Nat} {κ' : Nat → Option Nat} {w' : World} {i b : Nat} {B : Blk} (h : B.holds ρ κ i w) (hold : ∀ r, r ≠ b → ρ' r = ρ r ∧ κ' r = κ r) (hi : i ≠ b)
    (hw : B.live (κ i) → w'.heap[ρ i]? = w.heap[ρ i]?) : (B.erase b).holds ρ' κ' i w' := by
  have hh : (B.erase b).holds ρ κ i w := by
    cases B with
    | own cs T =>
      obtain ⟨cells, hc, hs, hg⟩ := h
      refine ⟨cells, hc, by simpa using hs, fun j v hj hu => ?_⟩
      simp only [List.getElem?_map] at hj
      cases hq : cs[j]? with
      | none => rw [hq] at hj; cases hj
      | some u =>
        rw [hq] at hj
        simp only [Option.map_some, Option.some.injEq] at hj
        rcases eraseB_cases b u with hx | ⟨hx, _⟩
        · rw [hx] at hj; exact absurd hj.symm hu
        · rw [hx] at hj; subst hj; exact hg j u hq hu
    | ints k xs T => exact h
    | vec k xs T => exact h
  exact holds_congr hh (hold i hi).1 (hold i hi).2 (fun hl => hw ((erase_live b B _).1 hl)) (fun r hr => hold r (erase_refs b B r hr).2)

def updN {α : Type} (f : Nat → α) (b : Nat) (x : α) : Nat → α := fun i => if i = b then x else f i

theorem updN_same {α : Type} (f : Nat → α) (b : Nat) (x : α) : updN f b x b = x := by simp [updN]
theorem updN_ne {α : Type} (f : Nat → α) {b i : Nat} (x : α) (h : i ≠ b) : updN f b x i = f i := by simp [updN, h]

theorem erase_get {M : Mem} {b i : Nat} {B B' : Blk} (h : ((M.erase b).set b B)[i]? = some B') : (i = b ∧ b < M.length ∧ B' = B) ∨ (i ≠ b ∧ ∃ B₀, M[i]? = some B₀ ∧ B' = B₀.erase b) := by
  rw [getElem?_set_cases] at h
  split at h
  · rename_i hb
    subst hb
    split at h
    · rename_i hl; cases h; exact .inl ⟨rfl, by simpa [Mem.erase] using hl, rfl⟩
    · cases h
  · rename_i hb
    simp only [Mem.erase, List.getElem?_map, Option.map_eq_some_iff] at h
    obtain ⟨B₀, h1, h2⟩ := h
    exact .inr ⟨fun he => hb he.symm, B₀, h1, h2.symm⟩

/-- A growing row is put elsewhere, or filled where it is. -/
theorem Rel.reVec (hR : Rel C ρ κ M w) {b : Nat} {k : IntKind} {xs : List Int} {T : TypeId} (hM : M[b]? = some (.vec k xs T)) (g cap : Nat) (cells : Array Value) (zs : List Int) (w' : World)
    (hg : (g = ρ b ∧ κ b ≠ none) ∨ w.heap.size ≤ g) (hh : w'.heap[g]? = some (.cells cells T (0, 0))) (h1 : zs.length ≤ cap) (h2 : cap ≤ maxLen) (h3 : cells.size = cap) (h4 : cells.toList.take zs.length = intVals k zs)
    (hos : w'.os = w.os) (htape : w'.tape = w.tape) (hout : w'.output = w.output) (hsize : w.heap.size ≤ w'.heap.size) (hkeep : ∀ r, r < w.heap.size → (κ b ≠ none → r ≠ ρ b) → w'.heap[r]? = w.heap[r]?) :
    Rel C (updN ρ b g) (updN κ b (some cap)) ((M.erase b).set b (.vec k zs T)) w' ∧ Step (fun i => i < M.length ∧ i ∉ [b]) ρ κ M w (updN ρ b g) (updN κ b (some cap)) ((M.erase b).set b (.vec k zs T)) w' := by
  have hb : b < M.length := (List.getElem?_eq_some_iff.1 hM).1
  have hold : ∀ r, r ≠ b → updN ρ b g r = ρ r ∧ updN κ b (some cap) r = κ r := fun r hr => ⟨updN_ne _ _ hr, updN_ne _ _ hr⟩
  have hal : ∀ i, alive (updN κ b (some cap)) ((M.erase b).set b (.vec k zs T)) i → i = b ∨ (i ≠ b ∧ alive κ M i) := by
    intro i hi
    by_cases hib : i = b
    · exact .inl hib
    · refine .inr ⟨hib, ?_⟩
      have hl := alive_lt hi
      simp only [List.length_set, Mem.erase, List.length_map] at hl
      have hMi : M[i]? = some M[i] := by simp [hl]
      have hMi' : ((M.erase b).set b (.vec k zs T))[i]? = some (M[i].erase b) := by
        rw [getElem?_set_cases, if_neg (fun h => hib h.symm)]; simp [Mem.erase, hl]
      rw [alive_of hMi', erase_live, updN_ne _ _ hib] at hi
      rw [alive_of hMi]; exact hi
  have hbal : κ b ≠ none → alive κ M b := fun h => (alive_of hM).2 h
  have hne : ∀ i, i ≠ b → alive κ M i → κ b ≠ none → ρ i ≠ ρ b := fun i hi ha hk he => hi (hR.inj i b ha (hbal hk) he)
  refine ⟨⟨?_, ?_, ?_, ?_⟩, ⟨hos, htape, hout, hsize, ?_, ?_, ?_⟩⟩
  · intro i B' h
    rcases erase_get h with ⟨rfl, _, rfl⟩ | ⟨hi, B₀, hB, rfl⟩
    · exact .inr ⟨cap, cells, updN_same .., by rw [updN_same]; exact hh, h1, h2, h3, h4⟩
    · exact holds_erase (hR.blk i B₀ hB) hold hi (fun hl => hkeep _ (hR.lt ((alive_of hB).2 hl)) (fun hk => hne i hi ((alive_of hB).2 hl) hk))
  · intro i j hi hj he
    rcases hal i hi with rfl | ⟨hi', hia⟩
    · rcases hal j hj with rfl | ⟨hj', hja⟩
      · rfl
      · rw [updN_same, updN_ne _ _ hj'] at he
        rcases hg with ⟨rfl, hk⟩ | hge
        · exact absurd he.symm (hne j hj' hja hk)
        · have := hR.lt hja; omega
    · rcases hal j hj with rfl | ⟨hj', hja⟩
      · rw [updN_same, updN_ne _ _ hi'] at he
        rcases hg with ⟨rfl, hk⟩ | hge
        · exact absurd he (hne i hi' hia hk)
        · have := hR.lt hia; omega
      · rw [updN_ne _ _ hi', updN_ne _ _ hj'] at he
        exact hR.inj i j hia hja he
  · intro ad v hv
    obtain ⟨h5, h6⟩ := hR.ext ad v hv
    have hlt : ad.block < w.heap.size := by
      unfold World.cell? at h5
      split at h5
      · rename_i hb; exact (Array.getElem?_eq_some_iff.1 hb).1
      · cases h5
    refine ⟨?_, fun i hi => ?_⟩
    · rw [World.cell?_of_block (hkeep ad.block hlt (fun hk he => h6 b (hbal hk) he.symm)), h5]
    · rcases hal i hi with rfl | ⟨hi', hia⟩
      · rw [updN_same]
        rcases hg with ⟨rfl, hk⟩ | hge
        · exact h6 _ (hbal hk)
        · omega
      · rw [updN_ne _ _ hi']; exact h6 i hia
  · intro i B' h r hr
    simp only [List.length_set, Mem.erase, List.length_map]
    rcases erase_get h with ⟨rfl, _, rfl⟩ | ⟨hi, B₀, hB, rfl⟩
    · simp [Blk.refs] at hr
    · exact hR.cl i B₀ hB r (erase_refs b B₀ r hr).1
  · intro r hr hn
    exact hkeep r hr (fun hk he => hn b (hbal hk) he.symm)
  · intro i hi
    rcases hal i hi with rfl | ⟨hi', hia⟩
    · rw [updN_same]
      rcases hg with ⟨rfl, hk⟩ | hge
      · exact .inl ⟨_, hbal hk, rfl⟩
      · exact .inr hge
    · exact .inl ⟨i, hia, updN_ne _ _ hi'⟩
  · intro i hi
    have : i ≠ b := by simpa using hi.2
    exact hold i this

/-- Nothing happens but that other names of the row are forgotten. -/
theorem Rel.eraseVec (hR : Rel C ρ κ M w) {b : Nat} {k : IntKind} {xs : List Int} {T : TypeId} (hM : M[b]? = some (.vec k xs T)) :
    Rel C ρ κ ((M.erase b).set b (.vec k xs T)) w ∧ Step (fun i => i < M.length ∧ i ∉ [b]) ρ κ M w ρ κ ((M.erase b).set b (.vec k xs T)) w := by
  have hb : b < M.length := (List.getElem?_eq_some_iff.1 hM).1
  have hal : ∀ i, alive κ ((M.erase b).set b (.vec k xs T)) i → alive κ M i := by
    intro i hi
    have hl := alive_lt hi
    simp only [List.length_set, Mem.erase, List.length_map] at hl
    by_cases hib : i = b
    · subst hib
      have hMi' : ((M.erase i).set i (.vec k xs T))[i]? = some (.vec k xs T) := by rw [getElem?_set_cases]; simp [Mem.erase, hl]
      rw [alive_of hMi'] at hi
      rw [alive_of hM]; exact hi
    · have hMi : M[i]? = some M[i] := by simp [hl]
      have hMi' : ((M.erase b).set b (.vec k xs T))[i]? = some (M[i].erase b) := by
        rw [getElem?_set_cases, if_neg (fun h => hib h.symm)]; simp [Mem.erase, hl]
      rw [alive_of hMi', erase_live] at hi
      rw [alive_of hMi]; exact hi
  refine ⟨⟨?_, fun i j hi hj => hR.inj i j (hal i hi) (hal j hj), fun ad v hv => ⟨(hR.ext ad v hv).1, fun i hi => (hR.ext ad v hv).2 i (hal i hi)⟩, ?_⟩,
    ⟨rfl, rfl, rfl, Nat.le_refl _, fun _ _ _ => rfl, fun i hi => .inl ⟨i, hal i hi, rfl⟩, fun _ _ => ⟨rfl, rfl⟩⟩⟩
  · intro i B' h
    rcases erase_get h with ⟨rfl, _, rfl⟩ | ⟨hi, B₀, hB, rfl⟩
    · exact hR.blk i _ hM
    · exact holds_erase (hR.blk i B₀ hB) (fun _ _ => ⟨rfl, rfl⟩) hi (fun _ => rfl)
  · intro i B' h r hr
    simp only [List.length_set, Mem.erase, List.length_map]
    rcases erase_get h with ⟨rfl, _, rfl⟩ | ⟨hi, B₀, hB, rfl⟩
    · simp [Blk.refs] at hr
    · exact hR.cl i B₀ hB r (erase_refs b B₀ r hr).1

theorem run_app (hR : Rel C ρ κ M w) {b : Nat} {k : IntKind} {xs ys : List Int} {T : TypeId} (hM : M[b]? = some (.vec k xs T)) (t ty : TypeId) (ht : C.P.underlying t = some (.slice T)) (hz : zeroIs C.P T k = true) {y : V} (hy : VM.elems M k y = some ys)
    (hle : xs.length + ys.length ≤ 16777216) :
    ∃ ρ' κ' w', (Builtin.append_ #[t, t] ty #[(V.vec b xs.length).real ρ κ, y.real ρ κ]).run C.P w = .ok ((V.vec b (xs.length + ys.length)).real ρ' κ') w' ∧
      Rel C ρ' κ' ((M.erase b).set b (.vec k (xs ++ ys) T)) w' ∧ Step (fun i => i < M.length ∧ i ∉ [b]) ρ κ M w ρ' κ' ((M.erase b).set b (.vec k (xs ++ ys) T)) w' := by
  unfold zeroIs at hz
  split at hz
  case h_2 => cases hz
  rename_i i hi
  simp only [Bool.and_eq_true, beq_iff_eq, decide_eq_true_eq] at hz
  obtain ⟨⟨hz, hsz⟩, hby⟩ := hz
  obtain ⟨z, hzz, hz0⟩ : ∃ z, i.zero = some z ∧ z = .int k 0 := by
    split at hz
    · rename_i k'' n' hq
      simp only [decide_eq_true_eq] at hz
      obtain ⟨rfl, rfl⟩ := hz
      exact ⟨_, hq, rfl⟩
    · cases hz
  subst hz0
  have h48 : (xs.length + ys.length) * i.bytes ≤ 140737488355328 := Nat.le_trans (Nat.mul_le_mul hle hby) (by omega)
  obtain ⟨_, hyv⟩ := hR.elems hy
  have hlenys : (intVals k ys).length = ys.length * i.size := by simp [intVals, hsz]
  have hlenxs : (intVals k xs).length = xs.length * i.size := by simp [intVals, hsz]
  have h1c : ∀ u ∈ intVals k ys, u.oneCell' = true := by
    intro u hu; simp only [intVals, List.mem_map] at hu; obtain ⟨x, -, rfl⟩ := hu; rfl
  have happ : intVals k (xs ++ ys) = intVals k xs ++ intVals k ys := by simp [intVals]
  have hcap : ∀ old, grownCap w (xs.length + ys.length) old T ≤ maxLen := fun old => grownCap_le_maxLen w _ _ _ (by simp only [maxLen]; omega)
  have hcapge : ∀ old, xs.length + ys.length ≤ grownCap w (xs.length + ys.length) old T := fun old => grownCap_ge w _ _ _
  rcases hR.blk b _ hM with ⟨hn, hx⟩ | ⟨c, cells, hc, hh, hlc, hm, hs, htake⟩
  · subst hx
    have hv : (V.vec b 0).real ρ κ = .slice none 0 0 := by simp [V.real, hn]
    by_cases hm0 : ys = []
    · subst hm0
      obtain ⟨hR', hS⟩ := hR.eraseVec hM
      refine ⟨ρ, κ, w, ?_, hR', hS⟩
      simp only [List.length_nil, Nat.add_zero]
      rw [hv]
      rcases hyv with ⟨hy0, -⟩ | ⟨ad, cc, hy0, _⟩
      · rw [hy0]; simp [Builtin.append_, run_underlying ht, sizeOf, typeInfo, hi, Builtin.lenOf, Builtin.firstCells]
      · rw [hy0]; simp [Builtin.append_, run_underlying ht, sizeOf, typeInfo, hi, Builtin.lenOf, Builtin.firstCells, loadCells, loadCellsFrom]
    · have hpos : 0 < ys.length := List.length_pos_iff.2 hm0
      rcases hyv with ⟨_, h0⟩ | ⟨ad, cc, hy0, hcell⟩
      · exact absurd h0 hm0
      have hr := run_append_nil (P := C.P) w t ty T i (.int k 0) ht hi hzz ad ys.length cc (intVals k ys) hlenys hcell hpos (by omega) (by have := h48; simp only [List.length_nil, Nat.zero_add] at this; omega)
      have hcm := hcap 0
      have hcg := hcapge 0
      simp only [List.length_nil, Nat.zero_add] at hcm hcg
      obtain ⟨hR', hS⟩ := hR.reVec hM w.heap.size (grownCap w ys.length 0 T) ((intVals k ys).toArray ++ Builtin.zeroCells (Value.int k 0).cells (grownCap w ys.length 0 T - ys.length)) ys
        (w.drew.alloc (.cells ((intVals k ys).toArray ++ Builtin.zeroCells (Value.int k 0).cells (grownCap w ys.length 0 T - ys.length)) T)) (.inr (Nat.le_refl _)) (heap_alloc_new w.drew _) hcg hcm
        (by simp only [Array.size_append, List.size_toArray, size_zeroCells, hlenys, hsz, Nat.mul_one]; simp [Value.cells]; omega)
        (by simp only [Array.toList_append]; rw [List.take_append_of_le_length (by simp [intVals]), List.take_of_length_le (by simp [intVals])]) rfl rfl rfl (by simp) (fun r hr _ => heap_alloc_old w.drew _ hr)
      refine ⟨_, _, _, ?_, by simpa using hR', by simpa using hS⟩
      simp only [List.length_nil, Nat.zero_add]
      rw [hv, hy0, hr]
      simp [V.real, updN_same]
  · have hv : (V.vec b xs.length).real ρ κ = .slice (some ⟨ρ b, 0, none⟩) xs.length c := by simp [V.real, hc]
    by_cases hroom : xs.length + ys.length ≤ c
    · rcases hyv with ⟨hy0, rfl⟩ | ⟨ad, cc, hy0, hcell⟩
      · obtain ⟨hR', hS⟩ := hR.eraseVec hM
        refine ⟨ρ, κ, w, ?_, by simpa using hR', by simpa using hS⟩
        simp only [List.length_nil, Nat.add_zero]
        rw [hv, hy0]
        simp [Builtin.append_, run_underlying ht, sizeOf, typeInfo, hi, Builtin.lenOf, Builtin.firstCells, hlc, storeCells]
      · have hfit : xs.length * i.size + (intVals k ys).length ≤ cells.size := by rw [hlenys, hsz, hs]; omega
        have hr := run_append_room (P := C.P) w t ty T i ht hi (ρ b) xs.length c cells hh ad ys.length cc (intVals k ys) hlenys hcell h1c hroom hfit
        have hx2 : cells.toList.take (xs.length * i.size) = intVals k xs := by rw [hsz, Nat.mul_one]; exact htake
        rw [hx2] at hr
        obtain ⟨hR', hS⟩ := hR.reVec hM (ρ b) c (intVals k xs ++ intVals k ys ++ cells.toList.drop (xs.length * i.size + (intVals k ys).length)).toArray (xs ++ ys) (w.setRow (ρ b) (intVals k xs ++ intVals k ys ++ cells.toList.drop (xs.length * i.size + (intVals k ys).length)).toArray)
          (.inl ⟨rfl, by rw [hc]; simp⟩) (setRow_heap w _ cells _ T _ hh) (by simpa using hroom) hm
          (by simp only [List.size_toArray, List.length_append, List.length_drop, Array.length_toList, hlenys, hlenxs, hsz]; omega)
          (by rw [happ, List.length_append]; simp only [List.take_append_of_le_length (show xs.length + ys.length ≤ (intVals k xs ++ intVals k ys).length by simp [intVals])]; rw [List.take_of_length_le (by simp [intVals])])
          rfl rfl rfl (by simp) (fun r _ hk => setRow_other w _ r _ (fun he => hk (by rw [hc]; simp) he))
        refine ⟨_, _, _, ?_, hR', hS⟩
        rw [hv, hy0, hr]
        simp [V.real, updN_same]
    · rcases hyv with ⟨_, h0⟩ | ⟨ad, cc, hy0, hcell⟩
      · subst h0; simp at hroom; omega
      have holds : ∀ (j : Nat) u, (intVals k xs)[j]? = some u → w.cell? ((⟨ρ b, 0, none⟩ : Addr).add j) = some u := by
        intro j u hj
        rw [Addr.add_lit, Nat.zero_add, cell_of_block hh]
        rw [← htake, List.getElem?_take] at hj
        split at hj
        · simpa using hj
        · cases hj
      have hr := run_append_grow (P := C.P) w t ty T i (.int k 0) ht hi hzz ⟨ρ b, 0, none⟩ xs.length c (intVals k xs) hlenxs holds ad ys.length cc (intVals k ys) hlenys hcell (by omega) (by omega) (growslice_fits (by omega) h48)
      obtain ⟨hR', hS⟩ := hR.reVec hM w.heap.size (grownCap w (xs.length + ys.length) c T) ((intVals k xs).toArray ++ (intVals k ys).toArray ++ Builtin.zeroCells (Value.int k 0).cells (grownCap w (xs.length + ys.length) c T - (xs.length + ys.length))) (xs ++ ys)
        (w.drew.alloc (.cells ((intVals k xs).toArray ++ (intVals k ys).toArray ++ Builtin.zeroCells (Value.int k 0).cells (grownCap w (xs.length + ys.length) c T - (xs.length + ys.length))) T)) (.inr (Nat.le_refl _)) (heap_alloc_new w.drew _) (by simpa using hcapge c) (hcap c)
        (by have := hcapge c; simp only [Array.size_append, List.size_toArray, size_zeroCells, hlenys, hlenxs, hsz, Nat.mul_one]; simp [Value.cells]; omega)
        (by simp only [Array.toList_append]; rw [happ, List.take_append_of_le_length (by simp [intVals])]; simp [intVals, List.take_of_length_le]) rfl rfl rfl (by simp) (fun r hr _ => heap_alloc_old w.drew _ hr)
      refine ⟨_, _, _, ?_, hR', hS⟩
      rw [hv, hy0, hr]
      simp [V.real, updN_same]
end
end Go.VM
end

section
namespace Go.VM
open Go

/-! Code, compiled; what it takes for it to end as asked. -/
inductive Item where
  | op (g : Option (Nat × Bool)) (d : Option Nat) (vi : VI)
  | call (d : Option Nat) (f : Nat) (args : List X)
  | callv (d : Option Nat) (fn : X) (args : List X)
  | callg (j : Nat) (want : Bool) (d : Option Nat) (f : Nat) (args : List X)
  | inv (d : Option Nat) (x : X) (name : String) (args : List X)
  | app (d : Option Nat) (k : IntKind) (T : Nat) (x y : X)
  deriving Inhabited

inductive VC where
  | skip
  | reg (its : List Item) (ks : List Nat)
  | drq (its : List Item) (ks : List Nat)
  | drt (hd tl : List Item) (ks : List Nat)
  | drw (fs : List Item) (st : List (Item × List Item × List Item)) (ks : List Nat)
  | seq (a b : VC)
  | cond (c : X) (a b : VC)
  | block (id : Nat) (a : VC)
  | loop (a : VC)
  | exit (id : Nat)
  | ret
  deriving Inhabited

inductive VX where
  | normal
  | exit (id : Nat)
  | ret
  deriving DecidableEq, Inhabited

def VX.real : VX → Exit
  | .normal => .normal
  | .exit id => .exit id
  | .ret => .ret

/-- The function behind a method of a pointer's type. -/
def methT (P : Program) (t : Nat) (name : String) : Option Nat :=
  match P.info? t with
  | some i => match i.methods.find? (·.name == name), P.underlying t with
    | some m, some (.pointer _) => match m.path.toList, m.func with
      | [], some (f, true) => some f
      | _, _ => none
    | _, _ => none
  | none => none

def callable (P : Program) (f : Nat) : Bool :=
  match P.funcs[f]? with
  | some fn => !(fn.name == "runtime.NumGoroutine") && !fn.body.isNone
  | none => false

/-- A call that leaves the world alone. -/
def VPure (C : Ctx) (f : Nat) (args : List V) (M : Mem) (v : V) : Prop :=
  v.cl M.length ∧ ∀ ρ κ w, Rel C ρ κ M w → V.clL M.length args → Calls C.P f (V.reals ρ κ args).toArray w fun en w' => en = .returned (v.real ρ κ) ∧ w' = w

/-- A call: its result, and the memory behind it; blocks of mv may have moved. -/
def VCalls (C : Ctx) (f : Nat) (args : List V) (M : Mem) (mv : List Nat) (R : V → Mem → Prop) : Prop :=
  ∀ ρ κ w, Rel C ρ κ M w → V.clL M.length args → Calls C.P f (V.reals ρ κ args).toArray w fun en w' => ∃ ρ' κ' v M', en = .returned (v.real ρ' κ') ∧ v.cl M'.length ∧
    Rel C ρ' κ' M' w' ∧ M.length ≤ M'.length ∧ Step (fun i => i < M.length ∧ i ∉ mv) ρ κ M w ρ' κ' M' w' ∧ R v M'

def Env.erases (e : Env) : List Nat → Env
  | [] => e
  | mv => e.map fun (k, v) => (k, if v.refs.any (mv.contains ·) then .undef else v)

def vargs (e : Env) (args : List X) : List V := args.map (X.ev e)

def allKnown (vs : List V) : Bool := vs.all V.known

section
variable (C : Ctx) (n0 : Nat) (mv : List Nat)

def callK (f : Nat) (vs : List V) (M : Mem) (K : List Nat → V → Mem → Prop) : Prop :=
  allKnown vs = true ∧ ∃ mvc : List Nat, (∀ b ∈ mvc, n0 ≤ b ∨ b ∈ mv) ∧ VCalls C f vs M mvc (K mvc)

def guardK (g : Option (Nat × Bool)) (e : Env) (run skip : Prop) : Prop :=
  match g with
  | none => run
  | some (j, want) => match e.get j with
    | .bool b => if b = want then run else skip
    | _ => False

def opK (e : Env) (M : Mem) (vi : VI) (K : V → Mem → Prop) : Prop :=
  match vop C e M vi with
  | some (v, M') => K v M'
  | none => False

/-- Appending: the row's block, the new slice, the new memory. -/
def appK (k : IntKind) (T : Nat) (M : Mem) (x y : V) (K : List Nat → V → Mem → Prop) : Prop :=
  match x with
  | .vec b n => match M[b]? with
    | some (.vec k' xs T') => k' = k ∧ T' = T ∧ xs.length = n ∧ (n0 ≤ b ∨ b ∈ mv) ∧ match elems M k y with
      | some ys => xs.length + ys.length ≤ 16777216 ∧ K [b] (.vec b (n + ys.length)) ((M.erase b).set b (.vec k (xs ++ ys) T))
      | none => False
    | _ => False
  | .nils => match elems M k y with
    | some ys => ys.length ≤ 16777216 ∧ 0 < ys.length ∧ n0 ≤ M.length ∧ K [] (.vec M.length ys.length) (M ++ [.vec k ys T])
    | none => False
  | _ => False

def wpItems : List Item → Env → Mem → (Env → Mem → Prop) → Prop
  | [], e, M, Q => Q e M
  | .op g d vi :: r, e, M, Q => guardK g e (opK C e M vi fun v M' => wpItems r (e.putO d v) M' Q) (wpItems r (e.putO d .undef) M Q)
  | .call d f args :: r, e, M, Q => callK C n0 mv f (vargs e args) M fun mvc v M' => wpItems r ((e.erases mvc).putO d v) M' Q
  | .callv d fn args :: r, e, M, Q => match fn.ev e with
    | .fn f cap => callable C.P f = true ∧ callK C n0 mv f (vargs e args ++ cap) M fun mvc v M' => wpItems r ((e.erases mvc).putO d v) M' Q
    | _ => False
  | .callg j want d f args :: r, e, M, Q => guardK (some (j, want)) e (callK C n0 mv f (vargs e args) M fun mvc v M' => wpItems r ((e.erases mvc).putO d v) M' Q) (wpItems r (e.putO d .undef) M Q)
  | .inv d x name args :: r, e, M, Q => match x.ev e with
    | .iface t v => match methT C.P t name with
      | some f => callable C.P f = true ∧ v.known = true ∧ callK C n0 mv f (v :: vargs e args) M fun mvc v M' => wpItems r ((e.erases mvc).putO d v) M' Q
      | none => False
    | _ => False
  | .app d k T x y :: r, e, M, Q => appK n0 mv k T M (x.ev e) (y.ev e) fun mvc v M' => wpItems r ((e.erases mvc).putO d v) M' Q

/-- An item's effect: how the frame changes, and the memory. -/
def effK : Item → Env → Mem → ((Env → Env) → Mem → Prop) → Prop
  | .op g d vi, e, M, K => guardK g e (opK C e M vi fun v M' => K (fun e => e.putO d v) M') (K (fun e => e.putO d .undef) M)
  | .call d f args, e, M, K => callK C n0 mv f (vargs e args) M fun mvc v M' => K (fun e => (e.erases mvc).putO d v) M'
  | .callv d fn args, e, M, K => match fn.ev e with
    | .fn f cap => callable C.P f = true ∧ callK C n0 mv f (vargs e args ++ cap) M fun mvc v M' => K (fun e => (e.erases mvc).putO d v) M'
    | _ => False
  | .callg j want d f args, e, M, K => guardK (some (j, want)) e (callK C n0 mv f (vargs e args) M fun mvc v M' => K (fun e => (e.erases mvc).putO d v) M') (K (fun e => e.putO d .undef) M)
  | .inv d x name args, e, M, K => match x.ev e with
    | .iface t v => match methT C.P t name with
      | some f => callable C.P f = true ∧ v.known = true ∧ callK C n0 mv f (v :: vargs e args) M fun mvc v M' => K (fun e => (e.erases mvc).putO d v) M'
      | none => False
    | _ => False
  | .app d k T x y, e, M, K => appK n0 mv k T M (x.ev e) (y.ev e) fun mvc v M' => K (fun e => (e.erases mvc).putO d v) M'

theorem wpItems_eff (it : Item) (r : List Item) (e : Env) (M : Mem) (Q : Env → Mem → Prop) : wpItems C n0 mv (it :: r) e M Q = effK C n0 mv it e M fun f M' => wpItems C n0 mv r (f e) M' Q := by
  cases it <;> rfl

/-- Floating items give what they gave. -/
def wpCheck : List Item → Env → Mem → Prop
  | [], _, _ => True
  | .op g (some d) vi :: r, e, M => guardK g e (opK C e M vi fun v _ => v = e.get d) (e.get d = .undef) ∧ wpCheck r e M
  | _ :: _, _, _ => False

/-- Quiet items: no block is written or made. -/
def wpQuiet : List Item → Env → Mem → (Env → Prop) → Prop
  | [], e, _, Q => Q e
  | .op g d vi :: r, e, M, Q => guardK g e (opK C e M vi fun v _ => wpQuiet r (e.putO d v) M Q) (wpQuiet r (e.putO d .undef) M Q)
  | .call d f args :: r, e, M, Q => allKnown (vargs e args) = true ∧ ∃ v, VPure C f (vargs e args) M v ∧ wpQuiet r (e.putO d v) M Q
  | _ :: _, _, _, _ => False

/-- The rest of a region that draws its order: effects in their order, what floats behind each. -/
def wpStages : List (Item × List Item × List Item) → Env → Mem → (Env → Mem → Prop) → Prop
  | [], e, M, Q => Q e M
  | (E, rc, fs) :: st, e, M, Q => wpItems C n0 mv [E] e M fun e M => wpCheck C rc e M ∧ wpQuiet C fs e M fun e => wpStages st e M Q

/-- Another frame for the same state. -/
inductive Adj (n0 : Nat) : Env → Mem → Env → Mem → Prop
  | refl (e : Env) (M : Mem) : Adj n0 e M e M
  | weak (e : Env) (M : Mem) (e' : Env) (h : ∀ j, e'.get j = .undef ∨ e'.get j = e.get j) : Adj n0 e M e' M
  | ren (e : Env) (M : Mem) (e' : Env) (M' : Mem) (σ : Nat → Nat) (h0 : ∀ j, j < n0 → σ j = j) (hn : n0 ≤ M'.length) (hinj : ∀ i j, i < M'.length → j < M'.length → σ i = σ j → i = j)
      (hM : ∀ (j : Nat) (b : Blk), M'[j]? = some b → M[σ j]? = some (b.ren σ)) (he : ∀ j, e'.get j = .undef ∨ e.get j = (e'.get j).ren σ)
      (hce : EnvCl M'.length e') (hcM : ∀ (j : Nat) (b : Blk), M'[j]? = some b → ∀ r ∈ b.refs, r < M'.length) : Adj n0 e M e' M'
  | ghost (e : Env) (M : Mem) (b o : Nat) (cs : List V) (T T' : Nat) (k : IntKind) (hM : M[b]? = some (.own cs T)) (hc : cs[o]? = some .nils) : Adj n0 e M e (M.set b (.own (cs.set o (.vec M.length 0)) T) ++ [.vec k [] T'])
  | trans {e M e₁ M₁ e₂ M₂} (h : Adj n0 e M e₁ M₁) (h' : Adj n0 e₁ M₁ e₂ M₂) : Adj n0 e M e₂ M₂

def VRounds (F : Env → Mem → (VX → Env → Mem → Prop) → Prop) : Nat → Env → Mem → (VX → Env → Mem → Prop) → Prop
  | 0, _, _, _ => False
  | k + 1, e, M, Q => ∃ e' M', Adj n0 e M e' M' ∧ F e' M' fun x e M => match x with
    | .normal => VRounds F k e M Q
    | x => Q x e M

def seqK (F : Env → Mem → Prop) (Q : VX → Env → Mem → Prop) : VX → Env → Mem → Prop
  | .normal, e, M => F e M
  | x, e, M => Q x e M

def blockK (id : Nat) (Q : VX → Env → Mem → Prop) : VX → Env → Mem → Prop
  | .exit j, e, M => if j = id then Q .normal e M else Q (.exit j) e M
  | x, e, M => Q x e M

def VWp : VC → Env → Mem → (VX → Env → Mem → Prop) → Prop
  | .skip, e, M, Q => Q .normal e M
  | .reg its ks, e, M, Q => wpItems C n0 mv its e M fun e M => Q .normal (e.keep ks) M
  | .drq its ks, e, M, Q => wpQuiet C its e M fun e => Q .normal (e.keep ks) M
  | .drt hd tl ks, e, M, Q => wpQuiet C hd e M fun e => wpItems C n0 mv tl e M fun e M => Q .normal (e.keep ks) M
  | .drw fs st ks, e, M, Q => wpQuiet C fs e M fun e => wpStages C n0 mv st e M fun e M => Q .normal (e.keep ks) M
  | .seq a b, e, M, Q => VWp a e M (seqK (fun e M => VWp b e M Q) Q)
  | .cond c a b, e, M, Q => match c.ev e with
    | .bool t => (t = true → VWp a e M Q) ∧ (t = false → VWp b e M Q)
    | _ => False
  | .block id a, e, M, Q => VWp a e M (blockK id Q)
  | .loop a, e, M, Q => ∃ k, VRounds n0 (VWp a) k e M Q
  | .exit id, e, M, Q => Q (.exit id) e M
  | .ret, e, M, Q => Q .ret e M
end

/-! The compiler. -/
def compItem (P : Program) (n : Nat) (ops : Array Oper) (o : Oper) : Option Item :=
  match (match o.dst with | some d => decide (d < n) | none => true) with
  | false => none
  | true => match o.guard with
    | none => match o.op with
      | .call { callee := .value (.func f), args := args, .. } => if callable P f then some (.call o.dst f (args.toList.map compX)) else none
      | .call { callee := .value (.tmp t), args := args, .. } => some (.callv o.dst (.t t) (args.toList.map compX))
      | .call { callee := .invoke x name, args := args, .. } => some (.inv o.dst (compX x) name (args.toList.map compX))
      | .call { callee := .builtin .append, args := args, argTypes := ts } => match args.toList, ts.toList with
        | [x, y], [t, t'] => match P.underlying t with
          | some (.slice e) => match intKindT P e with
            | some k => if t = t' && zeroIs P e k then some (.app o.dst k e (compX x) (compX y)) else none
            | none => none
          | _ => none
        | _, _ => none
      | op => match compOp P op with
        | some vi => some (.op none o.dst vi)
        | none => none
    | some (j, want) => match ((ops[j]?).bind (·.dst)) with
      | some dj => match o.op with
        | .call { callee := .value (.func f), args := args, .. } => if callable P f then some (.callg dj want o.dst f (args.toList.map compX)) else none
        | op => match compOp P op with
          | some vi => some (.op (some (dj, want)) o.dst vi)
          | none => none
      | none => none

def compItems (P : Program) (n : Nat) (ops : Array Oper) : List Oper → Option (List Item)
  | [] => some []
  | o :: r => match compItem P n ops o, compItems P n ops r with
    | some i, some l => some (i :: l)
    | _, _ => none

def Item.quiet : Item → Bool
  | .op _ _ vi => vi.quiet
  | _ => false

def keepOf (hs : List (Nat × List Nat)) (id : Nat) : List Nat :=
  match hs with
  | [] => []
  | (k, l) :: r => if k = id then l else keepOf r id

def quietHead : List Item → Nat
  | [] => 0
  | i :: r => if i.quiet then quietHead r + 1 else 0

/-! A region that draws its order: what floats, and the chain of effects. -/
def X.rd : X → List Nat
  | .t n => [n]
  | .c _ => []

def optRd : Option X → List Nat
  | none => []
  | some x => x.rd

def VI.rd : VI → List Nat
  | .mov x => x.rd
  | .pick c a b => c.rd ++ a.rd ++ b.rd
  | .nilck x => x.rd
  | .bin _ x y => x.rd ++ y.rd
  | .un _ x => x.rd
  | .conv _ x => x.rd
  | .fld _ x => x.rd
  | .idxA _ _ x i => x.rd ++ i.rd
  | .idxS _ x i => x.rd ++ i.rd
  | .ld x => x.rd
  | .ldA _ x => x.rd
  | .st _ x y => x.rd ++ y.rd
  | .alloc _ => []
  | .box _ x => x.rd
  | .tupx x _ => x.rd
  | .part _ _ _ x => x.rd
  | .idxV _ _ _ x i => x.rd ++ i.rd
  | .build _ ps => ps.flatMap fun p => p.2.2.rd
  | .slc _ _ x lo hi mx => x.rd ++ optRd lo ++ optRd hi ++ optRd mx
  | .mkfn _ cap => cap.flatMap X.rd
  | .len x => x.rd
  | .lenS x => x.rd
  | .slcS _ x lo hi mx => x.rd ++ optRd lo ++ optRd hi ++ optRd mx
  | .mm _ x y => x.rd ++ y.rd
  | .isnil _ _ x => x.rd
  | .isnils _ x => x.rd
  | .idxStr x i => x.rd ++ i.rd
  | .mkif _ x => x.rd
  | .tas _ _ x => x.rd
  | .b2s x => x.rd
  | .bsl _ _ _ ps => ps.flatMap fun p => p.2.2.rd
  | .mks _ _ x => x.rd

def Item.rd : Item → List Nat
  | .op none _ vi => vi.rd
  | .op (some (j, _)) _ vi => j :: vi.rd
  | .call _ _ args => args.flatMap X.rd
  | .callv _ fn args => fn.rd ++ args.flatMap X.rd
  | .callg j _ _ _ args => j :: args.flatMap X.rd
  | .inv _ x _ args => x.rd ++ args.flatMap X.rd
  | .app _ _ _ x y => x.rd ++ y.rd

def Item.dst : Item → Option Nat
  | .op _ d _ => d
  | .call d _ _ => d
  | .callv d _ _ => d
  | .callg _ _ d _ _ => d
  | .inv d _ _ _ => d
  | .app d _ _ _ _ => d

def depsOf (ops : Array Oper) (i : Nat) : List Nat :=
  match ops[i]? with
  | some o => (o.after.toList.filter (Region.binds .any)).map (·.on)
  | none => []

/-- all that must come ahead of an operation -/
def ancTab (ops : Array Oper) : Nat → List (List Nat)
  | 0 => []
  | i + 1 => let t := ancTab ops i; t ++ [(depsOf ops i ++ (depsOf ops i).flatMap (fun d => t.getD d [])).eraseDups]

def okFloat (its : List Item) (tab : List (List Nat)) (i : Nat) : Bool :=
  match its[i]? with
  | some (.op g (some d) vi) => vi.quiet && (List.range its.length).all fun k =>
      if k = i then !(Item.rd (.op g (some d) vi)).contains d else match its[k]? with
        | some it => it.dst != some d && (!it.rd.contains d || (tab.getD k []).contains i)
        | none => false
  | _ => false

def levOf (cs : List Nat) (l : List Nat) : Nat → Nat
  | 0 => 0
  | m + 1 => match cs[m]? with
    | some c => if l.contains c then m + 1 else levOf cs l m
    | none => levOf cs l m

def chainOK (tab : List (List Nat)) : List Nat → Bool
  | c :: c' :: r => (tab.getD c' []).contains c && chainOK tab (c' :: r)
  | _ => true

def itemsAt (its : List Item) (l : List Nat) : List Item := l.filterMap (its[·]?)

def stagesFrom (its : List Item) (tab : List (List Nat)) (F : List Nat) (lev : Nat → Nat) : Nat → List Nat → List (Item × List Item × List Item)
  | _, [] => []
  | m, c :: cs => match its[c]? with
    | some it => (it, itemsAt its (F.filter fun q => decide (lev q ≤ m) && !(tab.getD c []).contains q), itemsAt its (F.filter fun q => lev q == m + 1)) :: stagesFrom its tab F lev (m + 1) cs
    | none => stagesFrom its tab F lev (m + 1) cs

structure DrawPlan where
  F : List Nat
  cs : List Nat
  tab : List (List Nat)

def drawPlan (ops : Array Oper) (its : List Item) : DrawPlan :=
  let tab := ancTab ops ops.size
  let F := (List.range its.length).filter (okFloat its tab)
  { F := F, cs := (List.range its.length).filter (fun i => !okFloat its tab i), tab := tab }

def drawLev (D : DrawPlan) (q : Nat) : Nat := levOf D.cs (D.tab.getD q []) D.cs.length

def drawOK (ops : Array Oper) (its : List Item) : Bool :=
  let D := drawPlan ops its
  its.length == ops.size && (List.range ops.size).all (fun i => (depsOf ops i).all (fun d => decide (d < i)) && (D.tab.getD i []).all (fun d => decide (d < i))) && chainOK D.tab D.cs &&
  D.F.all fun q => match its[q]? with
    | some it => D.F.all fun q' => match its[q']? with
      | some it' => !(match it'.dst with
        | some d => it.rd.contains d
        | none => true) || decide (drawLev D q' ≤ drawLev D q)
      | none => false
    | none => false

def compDraw (ops : Array Oper) (its : List Item) (ks : List Nat) : Option VC :=
  if drawOK ops its then
    let D := drawPlan ops its
    some (.drw (itemsAt its (D.F.filter fun q => drawLev D q == 0)) (stagesFrom its D.tab D.F (drawLev D) 0 D.cs) ks)
  else none

def comp (P : Program) (n : Nat) (hs : List (Nat × List Nat)) : Code → Option VC
  | .skip => some .skip
  | .region id ops draw => match compItems P n ops ops.toList with
    | none => none
    | some its =>
      if draw then
        if P.follows .mixedOrders then
          let h := quietHead its
          if h = its.length then (if Region.lexB .any ops then some (.drq its (keepOf hs id)) else none)
          else if Region.lexTailB .any ops h then some (.drt (its.take h) (its.drop h) (keepOf hs id)) else compDraw ops its (keepOf hs id)
        else none
      else some (.reg its (keepOf hs id))
  | .seq a b => match comp P n hs a, comp P n hs b with
    | some x, some y => some (.seq x y)
    | _, _ => none
  | .cond c a b => match comp P n hs a, comp P n hs b with
    | some x, some y => some (.cond (compX c) x y)
    | _, _ => none
  | .block id a => match comp P n hs a with
    | some x => some (.block id x)
    | none => none
  | .loop a => match comp P n hs a with
    | some x => some (.loop x)
    | none => none
  | .exit id => some (.exit id)
  | .ret => some .ret
  | _ => none

end Go.VM
end
