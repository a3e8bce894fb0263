/-
  A part of a machine over the model and of a walk by it, proved right against the model; proved outright, under no condition but what each theorem names.
-/
import Derived.Test.YtahmhofnilgfgaaDoorGM1toGM
set_option linter.unusedVariables false
set_option linter.unusedSimpArgs false
section
set_option linter.unusedSimpArgs false
set_option maxRecDepth 10000
namespace Go.VM
open Go Go.Proofs Go.Bits

/-! jpeg.Encode over a picture of 3 row(s). -/

section
variable {C : Ctx} (T : Nat) (w h : Nat) (Y B R : List Int) (O : Blk)
def LG4 (K : EncK) (buf : List Int) (bits nb : Int) (bytes : List Int) : Mem :=
  [.own [.vec 1 bytes.length] 55, .vec .u8 bytes 5, yccImg T 3 (w * h) w h, .vec .u8 Y 5, .vec .u8 B 5, .vec .u8 R 5, O, .own (imgR w h) 89, encBlkG 0 9 10 11 12 K buf bits nb, .vec .u32 K.l0 43, .vec .u32 K.l1 43, .vec .u32 K.l2 43, .vec .u32 K.l3 43]
theorem LG4_len (K : EncK) (buf : List Int) (bits nb : Int) (bytes : List Int) : (LG4 T w h Y B R O K buf bits nb bytes).length = 13 := rfl

theorem lg4_call {mv0 : List Nat} {K K' : EncK} {buf buf' : List Int} {bits nb bits' nb' : Int} {bytes bytes' : List Int} (hO : O.refs = []) {f : Nat} {vs vs0 : List V} {Q : List Nat → V → Mem → Prop} (mvr : List Nat)
    (hv : VCalls C f vs0 (encM K buf bits nb bytes) mv0 fun v M' => v = .tup [] ∧ M' = encM K' buf' bits' nb' bytes') (hmv : (mv0 = [2] ∧ mvr = [1]) ∨ (mv0 = [] ∧ mvr = [])) (hk : allKnown vs = true)
    (hvs : vs = V.renL (fpσ [8, 0, 1, 9, 10, 11, 12] 13) vs0) (hcv : clB 7 (V.refsL vs0) = true) (hQ : Q mvr (.tup []) (LG4 T w h Y B R O K' buf' bits' nb' bytes')) :
    callK C 7 [1] f vs (LG4 T w h Y B R O K buf bits nb bytes) Q := by
  have hO' : ∀ b, O.refs.all (fun r => !([b] : List Nat).contains r) = true := by intro b; rw [hO]; rfl
  have hmg : merge (LG4 T w h Y B R O K buf bits nb bytes) [8, 0, 1, 9, 10, 11, 12] (encM K' buf' bits' nb' bytes') = LG4 T w h Y B R O K' buf' bits' nb' bytes' := by
    simp only [merge, encM, encBlk_eq, LG4, List.cons_append, List.nil_append, List.map_cons, List.map_nil, encBlkG_ren]
    rfl
  have hcl : memCl (encM K buf bits nb bytes).length (encM K buf bits nb bytes) = true := encM_cl
  have hfit : fits (LG4 T w h Y B R O K buf bits nb bytes) (fpσ [8, 0, 1, 9, 10, 11, 12] 13) [8, 0, 1, 9, 10, 11, 12] (encM K buf bits nb bytes) := ⟨by rw [encBlk_eq, encBlkG_ren]; rfl, rfl, rfl, rfl, rfl, rfl, rfl, trivial⟩
  rcases hmv with ⟨rfl, rfl⟩ | ⟨rfl, rfl⟩
  · refine callK_frame [8, 0, 1, 9, 10, 11, 12] hv hk (by decide) rfl hfit hvs hcl hcv (by simp [fpσ]) ?_ ?_
    · simp [outs, fpσ, LG4, ownR, vecR, hO, encBlkG_refs, imgB, yccImg, imgR, V.refsL, V.refs]
    · rintro _ _ ⟨rfl, rfl⟩ -
      rw [hmg]
      exact hQ
  · refine callK_frame [8, 0, 1, 9, 10, 11, 12] hv hk (by decide) rfl hfit hvs hcl hcv (by simp) (outs_nil 0 _) ?_
    rintro _ _ ⟨rfl, rfl⟩ -
    rw [hmg]
    exact hQ

theorem lg4_sos {K K' : EncK} {buf buf' : List Int} {bits nb bits' nb' : Int} {bytes bytes' : List Int} (hO : O.refs = []) {f : Nat} {vs vs0 : List V} {Q : List Nat → V → Mem → Prop}
    (hv : VCalls C f vs0 (encM K buf bits nb bytes ++ [yccImg T 8 (w * h) w h, .vec .u8 Y 5, .vec .u8 B 5, .vec .u8 R 5]) [2] fun v M' => v = .tup [] ∧ M' = encM K' buf' bits' nb' bytes' ++ [yccImg T 8 (w * h) w h, .vec .u8 Y 5, .vec .u8 B 5, .vec .u8 R 5]) (hk : allKnown vs = true)
    (hvs : vs = V.renL (fpσ [8, 0, 1, 9, 10, 11, 12, 2, 3, 4, 5] 13) vs0) (hcv : clB 11 (V.refsL vs0) = true) (hQ : Q [1] (.tup []) (LG4 T w h Y B R O K' buf' bits' nb' bytes')) :
    callK C 7 [1] f vs (LG4 T w h Y B R O K buf bits nb bytes) Q := by
  have hmg : merge (LG4 T w h Y B R O K buf bits nb bytes) [8, 0, 1, 9, 10, 11, 12, 2, 3, 4, 5] (encM K' buf' bits' nb' bytes' ++ [yccImg T 8 (w * h) w h, .vec .u8 Y 5, .vec .u8 B 5, .vec .u8 R 5]) = LG4 T w h Y B R O K' buf' bits' nb' bytes' := by
    simp only [merge, encM, encBlk_eq, LG4, List.cons_append, List.nil_append, List.map_cons, List.map_nil, encBlkG_ren]
    rfl
  have hcl : memCl (encM K buf bits nb bytes ++ [yccImg T 8 (w * h) w h, .vec .u8 Y 5, .vec .u8 B 5, .vec .u8 R 5]).length (encM K buf bits nb bytes ++ [yccImg T 8 (w * h) w h, .vec .u8 Y 5, .vec .u8 B 5, .vec .u8 R 5]) = true := by
    simp only [memCl, encM, encBlk_eq, List.cons_append, List.nil_append, List.all_cons, List.all_nil, encBlkG_refs]
    rfl
  have hfit : fits (LG4 T w h Y B R O K buf bits nb bytes) (fpσ [8, 0, 1, 9, 10, 11, 12, 2, 3, 4, 5] 13) [8, 0, 1, 9, 10, 11, 12, 2, 3, 4, 5] (encM K buf bits nb bytes ++ [yccImg T 8 (w * h) w h, .vec .u8 Y 5, .vec .u8 B 5, .vec .u8 R 5]) := ⟨by rw [encBlk_eq, encBlkG_ren]; rfl, rfl, rfl, rfl, rfl, rfl, rfl, rfl, rfl, rfl, rfl, trivial⟩
  refine callK_frame [8, 0, 1, 9, 10, 11, 12, 2, 3, 4, 5] hv hk (by decide) rfl hfit hvs hcl hcv (by simp [fpσ]) ?_ ?_
  · simp [outs, fpσ, LG4, ownR, vecR, hO, encBlkG_refs, imgB, yccImg, imgR, V.refsL, V.refs]
  · rintro _ _ ⟨rfl, rfl⟩ -
    rw [hmg]
    exact hQ

set_option maxHeartbeats 2000000 in
theorem enc17_tail4 (hP : C.P = Tryd.prog) (hO : O.refs = []) (hw : 0 < w ∧ w ≤ 40) (hh : 0 < h ∧ h ≤ 40) (K : EncK) (hKt : K.l0 = lutL0 ∧ K.l1 = lutL1 ∧ K.l2 = lutL2 ∧ K.l3 = lutL3) (t : Nat) (gray : Bool) (E : List Bool × List Int) (hE : E.1.length < 8) (hEl : E.2.length ≤ 13000000)
    (hsos : ∀ buf : List Int, buf.length = 16 → VCalls C 47 [.ptr 0 0, .iface t (.ptr 7 0)] (encP K buf [] (jpgHd0 w h gray K.q) ++ [yccImg T 8 (w * h) w h, .vec .u8 Y 5, .vec .u8 B 5, .vec .u8 R 5]) [2] fun v M' => v = .tup [] ∧ M' = encP K buf E.1 E.2 ++ [yccImg T 8 (w * h) w h, .vec .u8 Y 5, .vec .u8 B 5, .vec .u8 R 5])
    (e : Env) (g1 : e.get 1 = .iface t (.ptr 2 0)) (g7 : e.get 7 = .ptr 7 0) (g8 : e.get 8 = .ptr 8 0) (g14 : e.get 14 = .int .i64 (if gray then 1 else 3)) :
    VWp C 7 [1] c17c e (LG4 T w h Y B R O K (List.replicate 16 0) 0 0 []) (fnPost 7 [.tmp 6] fun v M' => v = .nili ∧ M' = [.own [.vec 1 (E.2 ++ [255, 217]).length] 55, .vec .u8 (E.2 ++ [255, 217]) 5, yccImg T 3 (w * h) w h, .vec .u8 Y 5, .vec .u8 B 5, .vec .u8 R 5, O]) := by
  have hsl : ∀ o, vslice 16 1 none (some (.int .i64 2)) none (.ptr 8 o) = some (.slice 8 o 2 16) := fun _ => rfl
  have cb : ∀ (buf : List Int) (bits nb : Int), cellB (some (encBlkG 0 9 10 11 12 K buf bits nb)) 1 = some .nili := fun _ _ _ => rfl
  have ao : rangeB (some (.own (imgR w h) 89)) 0 4 = some (.agg (imgR w h)) := rfl
  have hb0 : (List.replicate 16 (0 : Int)).length = 16 := rfl
  generalize List.replicate 16 (0 : Int) = buf at hb0 ⊢
  have gs : ∀ (buf : List Int) (bits nb : Int) (bytes : List Int), (LG4 T w h Y B R O K buf bits nb bytes)[8]? = some (encBlkG 0 9 10 11 12 K buf bits nb) := fun _ _ _ _ => rfl
  have gr : ∀ (buf : List Int) (bits nb : Int) (bytes : List Int), (LG4 T w h Y B R O K buf bits nb bytes)[7]? = some (.own (imgR w h) 89) := fun _ _ _ _ => rfl
  have gset : ∀ (buf buf' : List Int) (bits nb : Int) (bytes : List Int), (LG4 T w h Y B R O K buf bits nb bytes).set 8 (encBlkG 0 9 10 11 12 K buf' bits nb) = LG4 T w h Y B R O K buf' bits nb bytes := fun _ _ _ _ _ => rfl
  have p0 : ∀ (buf : List Int) (hb : buf.length = 16) (bits nb : Int) (bytes : List Int) (v : Int), putB (LG4 T w h Y B R O K buf bits nb bytes) 8 2 (.int .u8 v) (some (encBlkG 0 9 10 11 12 K buf bits nb)) = some (.undef, LG4 T w h Y B R O K (buf.set 0 v) bits nb bytes) := fun buf hb bits nb bytes v => by
    rw [putB_bufG hb 2 (by omega) (by omega), gset]
  have p1 : ∀ (buf : List Int) (hb : buf.length = 16) (bits nb : Int) (bytes : List Int) (v : Int), putB (LG4 T w h Y B R O K buf bits nb bytes) 8 3 (.int .u8 v) (some (encBlkG 0 9 10 11 12 K buf bits nb)) = some (.undef, LG4 T w h Y B R O K (buf.set 1 v) bits nb bytes) := fun buf hb bits nb bytes v => by
    rw [putB_bufG hb 3 (by omega) (by omega), gset]
  have s0 : ∀ (buf : List Int), buf.length = 16 → ∀ v, (buf.set 0 v).length = 16 := fun buf hb v => by simp [hb]
  have s1 : ∀ (buf : List Int), buf.length = 16 → ∀ u v, ((buf.set 0 u).set 1 v).length = 16 := fun buf hb u v => by simp [hb]
  have wr : ∀ (buf : List Int) (hb : buf.length = 16) (bits nb : Int) (bytes : List Int) (u v : Int), bytes.length ≤ 14000000 →
      VCalls C 42 [.ptr 0 0, .slice 0 2 2 16] (encM K ((buf.set 0 u).set 1 v) bits nb bytes) [2] fun v' M' => v' = .tup [] ∧ M' = encM K ((buf.set 0 u).set 1 v) bits nb (bytes ++ [u, v]) := fun buf hb bits nb bytes u v hl => by
    have := own_buf (K := K) (bits := bits) (nb := nb) 2 (by omega) (s1 buf hb u v)
    rw [set2_take hb] at this
    exact write_own C hP K _ (s1 buf hb u v) bits nb bytes 2 2 16 [u, v] rfl this (by simp; omega)
  have hKq := K.hq
  have hq64 : (K.q.take 64).length = 64 := by rw [List.length_take, K.hq]; omega
  have hd64 : (K.q.drop 64).length = 64 := by rw [List.length_drop, K.hq]
  simp -implicitDefEqProofs only [vms, ↓reduceIte, Nat.reduceEqDiff, Nat.reduceAdd, Int.reduceToNat, Int.reduceLE, Nat.reduceLT, vidxA_lit, Nat.reduceMul, c17c, g8, gs, p0 buf hb0, p1 _ (s0 buf hb0 255), hsl]
  refine lg4_call T w h Y B R O hO [1] (wr buf hb0 0 0 [] 255 216 (by simp)) (.inl ⟨rfl, rfl⟩) rfl rfl rfl ?_
  have hb1 := s1 buf hb0 255 216
  generalize (buf.set 0 255).set 1 216 = buf1 at hb1 ⊢
  simp -implicitDefEqProofs only [vms, ↓reduceIte, Nat.reduceEqDiff, callC, Nat.reduceBEq, g1, g7, g14]
  refine lg4_call T w h Y B R O hO [1] (dqt_spec C hP K buf1 hb1 0 0 _ (by simp)) (.inl ⟨rfl, rfl⟩) rfl rfl rfl ?_
  have hb2 : (bufMH buf1 219 132).length = 16 := by simp [bufMH, hb1]
  generalize bufMH buf1 219 132 = buf2 at hb2 ⊢
  simp -implicitDefEqProofs only [vms, ↓reduceIte, Nat.reduceEqDiff, callC, Nat.reduceBEq]
  refine callK_new (size45_spec w h hP hw.2 hh.2) rfl rfl (.agg [.int .i64 w, .int .i64 h]) [] rfl rfl ?_
  rw [List.append_nil]
  simp -implicitDefEqProofs only [vms, ↓reduceIte, Nat.reduceEqDiff]
  have hn13 : (if gray then 1 else 3 : Int) = 1 ∨ (if gray then 1 else 3 : Int) = 3 := by cases gray <;> simp
  have hsl := sof_len w h (if gray then 1 else 3) hn13
  refine lg4_call T w h Y B R O hO [1] (sof0_spec C hP K buf2 hb2 0 0 _ w h (by omega) (by omega) (if gray then 1 else 3) hn13 (by simp; omega)) (.inl ⟨rfl, rfl⟩) rfl rfl rfl ?_
  have hb3 : (bufSOF buf2 w h (if gray then 1 else 3)).length = 16 := by simp [bufSOF]; omega
  generalize bufSOF buf2 w h (if gray then 1 else 3) = buf3 at hb3 ⊢
  simp -implicitDefEqProofs only [vms, ↓reduceIte, Nat.reduceEqDiff, callC, Nat.reduceBEq]
  refine lg4_call T w h Y B R O hO [1] (dht_any C hP K buf3 hb3 0 0 _ (by simp; omega) gray) (.inl ⟨rfl, rfl⟩) rfl rfl rfl ?_
  have hb4 : (bufMH buf3 196 (if gray then 210 else 418)).length = 16 := by simp [bufMH, hb3]
  generalize bufMH buf3 196 (if gray then 210 else 418) = buf4 at hb4 ⊢
  simp -implicitDefEqProofs only [vms, ↓reduceIte, Nat.reduceEqDiff, callC, Nat.reduceBEq]
  have hso := hsos buf4 hb4
  rw [encP_nil] at hso
  refine lg4_sos T w h Y B R O hO hso rfl rfl rfl ?_
  generalize ((val E.1 * 2 ^ (32 - E.1.length) : Nat) : Int) = bits
  generalize ((E.1.length : Nat) : Int) = nb
  simp -implicitDefEqProofs only [vms, ↓reduceIte, Nat.reduceEqDiff, Nat.reduceAdd, Int.reduceToNat, Int.reduceLE, callC, Nat.reduceBEq, Nat.reduceLT, vidxA_lit, Nat.reduceMul, gs, p0 _ hb4, p1 _ (s0 _ hb4 255)]
  refine lg4_call T w h Y B R O hO [1] (wr buf4 hb4 bits nb E.2 255 217 (by omega)) (.inl ⟨rfl, rfl⟩) rfl rfl rfl ?_
  have hb5 := s1 buf4 hb4 255 217
  generalize (buf4.set 0 255).set 1 217 = buf5 at hb5 ⊢
  simp -implicitDefEqProofs only [vms, ↓reduceIte, Nat.reduceEqDiff, reduceCtorEq, Int.reduceToNat, Nat.reduceBEq, Nat.reduceMul, Nat.reduceSub]
  refine lg4_call T w h Y B R O hO [] (flush_spec C hP K buf5 hb5 bits nb _) (.inr ⟨rfl, rfl⟩) rfl rfl rfl ?_
  simp -implicitDefEqProofs only [vms, ↓reduceIte, Nat.reduceEqDiff, callC, gs, cb]
  show retGo 7 (some .nili) _ _
  refine retGo_take 7 (Nat.le_refl _) (by simp [LG4]) rfl ?_ ⟨rfl, rfl⟩
  simp only [memCl, LG4, List.take_succ_cons, List.take_zero, List.all_cons, List.all_nil, hO]
  rfl

def LQ4 (q : List Int) : Mem :=
  [.own [.vec 1 0] 55, .vec .u8 [] 5, yccImg T 3 (w * h) w h, .vec .u8 Y 5, .vec .u8 B 5, .vec .u8 R 5, O, .own (imgR w h) 89, blk2 9 10 11 12 q, .vec .u32 lutL0 43, .vec .u32 lutL1 43, .vec .u32 lutL2 43, .vec .u32 lutL3 43]

set_option maxHeartbeats 2000000 in
theorem enc17_n4 (hP : C.P = Tryd.prog) (hO : O.refs = []) (hw : 0 < w ∧ w ≤ 40) (hh : 0 < h ∧ h ≤ 40) (K : EncK) (hKt : K.l0 = lutL0 ∧ K.l1 = lutL1 ∧ K.l2 = lutL2 ∧ K.l3 = lutL3) (t : Nat) (gray : Bool) (ht : t = 99 ∧ gray = false) (E : List Bool × List Int) (hE : E.1.length < 8) (hEl : E.2.length ≤ 13000000)
    (hsos : ∀ buf : List Int, buf.length = 16 → VCalls C 47 [.ptr 0 0, .iface t (.ptr 7 0)] (encP K buf [] (jpgHd0 w h gray K.q) ++ [yccImg T 8 (w * h) w h, .vec .u8 Y 5, .vec .u8 B 5, .vec .u8 R 5]) [2] fun v M' => v = .tup [] ∧ M' = encP K buf E.1 E.2 ++ [yccImg T 8 (w * h) w h, .vec .u8 Y 5, .vec .u8 B 5, .vec .u8 R 5])
    (e : Env) (g1 : e.get 1 = .iface t (.ptr 2 0)) (g7 : e.get 7 = .ptr 7 0) (g8 : e.get 8 = .ptr 8 0) :
    VWp C 7 [1] c17n e (LG4 T w h Y B R O K (List.replicate 16 0) 0 0 []) (fnPost 7 [.tmp 6] fun v M' => v = .nili ∧ M' = [.own [.vec 1 (E.2 ++ [255, 217]).length] 55, .vec .u8 (E.2 ++ [255, 217]) 5, yccImg T 3 (w * h) w h, .vec .u8 Y 5, .vec .u8 B 5, .vec .u8 R 5, O]) := by
  have n3 : ((3 : Nat) : Int) = 3 := rfl
  obtain ⟨rfl, rfl⟩ := ht
  all_goals
    have f95 : vtas 91 .nilp (.iface 95 (.ptr 2 0)) = some (.tup [.nilp, .bool false]) := rfl
    have f99 : vtas 91 .nilp (.iface 99 (.ptr 2 0)) = some (.tup [.nilp, .bool false]) := rfl
    have t1 : tupGo 1 (.tup [.nilp, .bool false]) = some (.bool false) := rfl
    have t0 : tupGo 0 (.tup [.nilp, .bool false]) = some .nilp := rfl
    have u1 : tupGo 1 (.tup [.ptr 2 0, .bool true]) = some (.bool true) := rfl
    have u0 : tupGo 0 (.tup [.ptr 2 0, .bool true]) = some (.ptr 2 0) := rfl
    simp -implicitDefEqProofs only [vms, ↓reduceIte, Nat.reduceEqDiff, c17n, g1, g7, g8, f99, t1, t0]
    refine enc17_tail4 T w h Y B R O hP hO hw hh K hKt _ _ E hE hEl hsos _ ?_ ?_ ?_ ?_ <;> simp -implicitDefEqProofs only [vms, ↓reduceIte, Nat.reduceEqDiff]

set_option maxHeartbeats 2000000 in
theorem enc17_b4 (hG : GlobQ C) (hP : C.P = Tryd.prog) (hO : O.refs = []) (hw : 0 < w ∧ w ≤ 40) (hh : 0 < h ∧ h ≤ 40) (K : EncK) (hKt : K.l0 = lutL0 ∧ K.l1 = lutL1 ∧ K.l2 = lutL2 ∧ K.l3 = lutL3) (t : Nat) (gray : Bool) (ht : t = 99 ∧ gray = false) (E : List Bool × List Int) (hE : E.1.length < 8) (hEl : E.2.length ≤ 13000000)
    (hsos : ∀ buf : List Int, buf.length = 16 → VCalls C 47 [.ptr 0 0, .iface t (.ptr 7 0)] (encP K buf [] (jpgHd0 w h gray K.q) ++ [yccImg T 8 (w * h) w h, .vec .u8 Y 5, .vec .u8 B 5, .vec .u8 R 5]) [2] fun v M' => v = .tup [] ∧ M' = encP K buf E.1 E.2 ++ [yccImg T 8 (w * h) w h, .vec .u8 Y 5, .vec .u8 B 5, .vec .u8 R 5])
    (q : Int) (h1 : 1 ≤ q) (h2 : q ≤ 100) (hKq : K.q = scaledL false q ++ scaledL true q)
    (e : Env) (g1 : e.get 1 = .iface t (.ptr 2 0)) (g7 : e.get 7 = .ptr 7 0) (g8 : e.get 8 = .ptr 8 0) (g9 : e.get 9 = .int .i64 q) :
    VWp C 7 [1] c17b e (LQ4 T w h Y B R O (List.replicate 128 0)) (fnPost 7 [.tmp 6] fun v M' => v = .nili ∧ M' = [.own [.vec 1 (E.2 ++ [255, 217]).length] 55, .vec .u8 (E.2 ++ [255, 217]) 5, yccImg T 3 (w * h) w h, .vec .u8 Y 5, .vec .u8 B 5, .vec .u8 R 5, O]) := by
  have w1 : IntKind.i64.wrap (q * 2) = q * 2 := wrap_i64_id (by omega) (by omega)
  have w2 : IntKind.i64.wrap (200 - q * 2) = 200 - q * 2 := wrap_i64_id (by omega) (by omega)
  have w3 : vbin .quo (.int .i64 5000) (.int .i64 q) = some (.int .i64 (5000 / q)) := by
    have := Int.ediv_nonneg (a := 5000) (b := q) (by omega) (by omega)
    have := Int.ediv_le_self (b := q) (a := 5000) (by omega)
    rw [vbin_quo (by omega), Int.tdiv_eq_ediv_of_nonneg (by omega), wrap_i64_id (by omega) (by omega)]
  have hKe : K = encK (scaledL false q ++ scaledL true q) (by rw [← hKq]; exact K.hq) := by
    obtain ⟨q', a0, a1, a2, a3, hq'⟩ := K
    obtain ⟨k0, k1, k2, k3⟩ := hKt
    simp only at k0 k1 k2 k3 hKq
    subst k0 k1 k2 k3 hKq
    rfl
  have hLQ : LQ4 T w h Y B R O (scaledL false q ++ scaledL true q) = LG4 T w h Y B R O K (List.replicate 16 0) 0 0 [] := by
    rw [hKe]
    simp only [LQ4, LG4, blk2_eq 9 10 11 12 _ (show (scaledL false q ++ scaledL true q).length = 128 by rw [← hKq]; exact K.hq)]
    rfl
  by_cases hq : q < 50
  all_goals
    have hd : decide (q < 50) = if q < 50 then true else false := by split <;> simp_all
    have hby : byQ q = if q < 50 then 5000 / q else 200 - q * 2 := by unfold byQ; split <;> omega
    first
      | rw [if_pos hq] at hd hby
      | rw [if_neg hq] at hd hby
    simp -implicitDefEqProofs only [vms, ↓reduceIte, Nat.reduceEqDiff, c17b, g1, g7, g8, g9, hd, w1, w2, w3]
    rw [← hby]
    apply VWp_loop_of (k := 3)
    have := fun Q => quant_out (C := C) 7 [1] (LQ4 T w h Y B R O) 8 blk2h ([.vec 9 12, .vec 10 251, .vec 11 12, .vec 12 251]) hG (fun _ => rfl) (fun _ _ => rfl) blk2h_len q h1 h2 Q 2 0
    rw [Nat.mul_zero, cur_zero] at this
    refine this _ _ rfl ?_ ?_ ?_ ?_ <;> simp -implicitDefEqProofs only [vms, ↓reduceIte, Nat.reduceEqDiff, natCast_lit]
    intro e2 b1 b7 b8
    simp -implicitDefEqProofs only [hLQ]
    refine enc17_n4 T w h Y B R O hP hO hw hh K hKt t gray ht E hE hEl hsos _ ?_ ?_ ?_ <;> simp -implicitDefEqProofs only [b1, b7, b8]

def EM4 (bytes : List Int) : Mem := [.own [.vec 1 bytes.length] 55, .vec .u8 bytes 5, yccImg T 3 (w * h) w h, .vec .u8 Y 5, .vec .u8 B 5, .vec .u8 R 5, O]
theorem EM4_cl (bytes : List Int) (hO : O.refs = []) : memCl (EM4 T w h Y B R O bytes).length (EM4 T w h Y B R O bytes) = true := by
  simp only [memCl, EM4, List.all_cons, List.all_nil, hO]
  rfl

set_option maxHeartbeats 2000000 in
theorem enc17_a4 (hG : GlobQ C) (hP : C.P = Tryd.prog) (hO : O.refs = []) (hw : 0 < w ∧ w ≤ 40) (hh : 0 < h ∧ h ≤ 40) (K : EncK) (hKt : K.l0 = lutL0 ∧ K.l1 = lutL1 ∧ K.l2 = lutL2 ∧ K.l3 = lutL3) (t : Nat) (gray : Bool) (ht : t = 99 ∧ gray = false) (E : List Bool × List Int) (hE : E.1.length < 8) (hEl : E.2.length ≤ 13000000)
    (hsos : ∀ buf : List Int, buf.length = 16 → VCalls C 47 [.ptr 0 0, .iface t (.ptr 7 0)] (encP K buf [] (jpgHd0 w h gray K.q) ++ [yccImg T 8 (w * h) w h, .vec .u8 Y 5, .vec .u8 B 5, .vec .u8 R 5]) [2] fun v M' => v = .tup [] ∧ M' = encP K buf E.1 E.2 ++ [yccImg T 8 (w * h) w h, .vec .u8 Y 5, .vec .u8 B 5, .vec .u8 R 5])
    (q : Int) (h1 : 1 ≤ q) (h2 : q ≤ 100) (hKq : K.q = scaledL false q ++ scaledL true q) (o : V) (ho : (o = .nilp ∧ q = 75) ∨ (∃ q0 : Int, o = .ptr 6 0 ∧ O = .own [.int .i64 q0] 52 ∧ q = qcl q0))
    (e : Env) (g0 : e.get 0 = .iface 53 (.ptr 0 0)) (g1 : e.get 1 = .iface t (.ptr 2 0)) (g2 : e.get 2 = o) (g7 : e.get 7 = .ptr 7 0) :
    VWp C 7 [1] c17a e (EM4 T w h Y B R O [] ++ [.own (imgR w h) 89]) (fnPost 7 [.tmp 6] fun v M' => v = .nili ∧ M' = [.own [.vec 1 (E.2 ++ [255, 217]).length] 55, .vec .u8 (E.2 ++ [255, 217]) 5, yccImg T 3 (w * h) w h, .vec .u8 Y 5, .vec .u8 B 5, .vec .u8 R 5, O]) := by
  have e1 : EM4 T w h Y B R O [] ++ [.own (imgR w h) 89] = [.own [.vec 1 0] 55, .vec .u8 [] 5, yccImg T 3 (w * h) w h, .vec .u8 Y 5, .vec .u8 B 5, .vec .u8 R 5, O, .own (imgR w h) 89] := rfl
  have e2 : ([.vec .u32 lutL0 43, .vec .u32 lutL1 43, .vec .u32 lutL2 43, .vec .u32 lutL3 43] : Mem).map (Blk.ren (([.own [.vec 1 0] 55, .vec .u8 [] 5, yccImg T 3 (w * h) w h, .vec .u8 Y 5, .vec .u8 B 5, .vec .u8 R 5, O, .own (imgR w h) 89, blk0] : Mem).length + ·)) = [.vec .u32 lutL0 43, .vec .u32 lutL1 43, .vec .u32 lutL2 43, .vec .u32 lutL3 43] := rfl
  have sl : ∀ N : Mem, N[8]? = some blk0 → stGo N 4 (.agg [.vec 9 12, .vec 10 251, .vec 11 12, .vec 12 251]) (.ptr 8 148) = some (.undef, N.set 8 (blk1 9 10 11 12)) := fun N h => st_lut h
  have tail : ∀ e : Env, e.get 1 = .iface t (.ptr 2 0) → e.get 2 = o → e.get 7 = .ptr 7 0 → e.get 8 = .ptr 8 0 → VWp C 7 [1] c17q e (LQ4 T w h Y B R O (List.replicate 128 0)) (fnPost 7 [.tmp 6] fun v M' => v = .nili ∧ M' = [.own [.vec 1 (E.2 ++ [255, 217]).length] 55, .vec .u8 (E.2 ++ [255, 217]) 5, yccImg T 3 (w * h) w h, .vec .u8 Y 5, .vec .u8 B 5, .vec .u8 R 5, O]) := by
    intro e g1 g2 g7 g8
    have fin : ∀ e : Env, e.get 1 = .iface t (.ptr 2 0) → e.get 7 = .ptr 7 0 → e.get 8 = .ptr 8 0 → e.get 9 = .int .i64 q → VWp C 7 [1] c17b e (LQ4 T w h Y B R O (List.replicate 128 0)) (fnPost 7 [.tmp 6] fun v M' => v = .nili ∧ M' = [.own [.vec 1 (E.2 ++ [255, 217]).length] 55, .vec .u8 (E.2 ++ [255, 217]) 5, yccImg T 3 (w * h) w h, .vec .u8 Y 5, .vec .u8 B 5, .vec .u8 R 5, O]) := fun e a1 a7 a8 a9 =>
      enc17_b4 T w h Y B R O hG hP hO hw hh K hKt t gray ht E hE hEl hsos q h1 h2 hKq e a1 a7 a8 a9
    rcases ho with ⟨rfl, rfl⟩ | ⟨q0, rfl, rfl, hq0⟩
    · simp -implicitDefEqProofs only [vms, ↓reduceIte, Nat.reduceEqDiff, c17q, g1, g2, g7, g8]
      refine fin _ ?_ ?_ ?_ ?_ <;> simp -implicitDefEqProofs only [vms, ↓reduceIte, Nat.reduceEqDiff]
    · have gO : (LQ4 T w h Y B R (.own [.int .i64 q0] 52) (List.replicate 128 0))[6]? = some (.own [.int .i64 q0] 52) := rfl
      unfold qcl at hq0
      by_cases hx1 : q0 < 1
      · have hd1 : decide (q0 < 1) = true := by simpa using hx1
        rw [if_pos hx1] at hq0
        subst hq0
        simp -implicitDefEqProofs only [vms, ↓reduceIte, Nat.reduceEqDiff, c17q, g1, g2, g7, g8, gO, hd1]
        refine fin _ ?_ ?_ ?_ ?_ <;> simp -implicitDefEqProofs only [vms, ↓reduceIte, Nat.reduceEqDiff]
      · have hd1 : decide (q0 < 1) = false := by simpa using hx1
        rw [if_neg hx1] at hq0
        by_cases hx2 : 100 < q0
        · have hd2 : decide (q0 > 100) = true := by simpa using hx2
          rw [if_pos hx2] at hq0
          subst hq0
          simp -implicitDefEqProofs only [vms, ↓reduceIte, Nat.reduceEqDiff, c17q, g1, g2, g7, g8, gO, hd1, hd2]
          refine fin _ ?_ ?_ ?_ ?_ <;> simp -implicitDefEqProofs only [vms, ↓reduceIte, Nat.reduceEqDiff]
        · have hd2 : decide (q0 > 100) = false := by simp; omega
          rw [if_neg hx2] at hq0
          subst hq0
          simp -implicitDefEqProofs only [vms, ↓reduceIte, Nat.reduceEqDiff, c17q, g1, g2, g7, g8, gO, hd1, hd2]
          refine fin _ ?_ ?_ ?_ ?_ <;> simp -implicitDefEqProofs only [vms, ↓reduceIte, Nat.reduceEqDiff]
  rw [e1]
  simp -implicitDefEqProofs only [vms, ↓reduceIte, Nat.reduceEqDiff, Nat.reduceAdd, reduceCtorEq, c17a, g0, g1, g2, g7]
  refine callK_new (lut_spec C hP) rfl rfl (.agg [.vec 9 12, .vec 10 251, .vec 11 12, .vec 12 251]) [.vec .u32 lutL0 43, .vec .u32 lutL1 43, .vec .u32 lutL2 43, .vec .u32 lutL3 43] rfl rfl ?_
  simp -implicitDefEqProofs only [vms, ↓reduceIte, Nat.reduceEqDiff, reduceCtorEq, callC, sl]
  simp -implicitDefEqProofs only [vms, ↓reduceIte, Nat.reduceEqDiff, reduceCtorEq, st_w]
  refine tail _ ?_ ?_ ?_ ?_ <;> simp -implicitDefEqProofs only [vms, ↓reduceIte, Nat.reduceEqDiff]

set_option maxHeartbeats 2000000 in
theorem enc17_4 (hG : GlobQ C) (hP : C.P = Tryd.prog) (hO : O.refs = []) (hw : 0 < w ∧ w ≤ 40) (hh : 0 < h ∧ h ≤ 40) (K : EncK) (hKt : K.l0 = lutL0 ∧ K.l1 = lutL1 ∧ K.l2 = lutL2 ∧ K.l3 = lutL3) (t : Nat) (gray : Bool) (ht : t = 99 ∧ gray = false) (E : List Bool × List Int) (hE : E.1.length < 8) (hEl : E.2.length ≤ 13000000)
    (hsos : ∀ buf : List Int, buf.length = 16 → VCalls C 47 [.ptr 0 0, .iface t (.ptr 7 0)] (encP K buf [] (jpgHd0 w h gray K.q) ++ [yccImg T 8 (w * h) w h, .vec .u8 Y 5, .vec .u8 B 5, .vec .u8 R 5]) [2] fun v M' => v = .tup [] ∧ M' = encP K buf E.1 E.2 ++ [yccImg T 8 (w * h) w h, .vec .u8 Y 5, .vec .u8 B 5, .vec .u8 R 5])
    (q : Int) (h1 : 1 ≤ q) (h2 : q ≤ 100) (hKq : K.q = scaledL false q ++ scaledL true q) (o : V) (ho : (o = .nilp ∧ q = 75) ∨ (∃ q0 : Int, o = .ptr 6 0 ∧ O = .own [.int .i64 q0] 52 ∧ q = qcl q0)) :
    VCalls C 17 [.iface 53 (.ptr 0 0), .iface t (.ptr 2 0), o] (EM4 T w h Y B R O []) [1] fun v M' => v = .nili ∧ M' = EM4 T w h Y B R O (E.2 ++ [255, 217]) := by
  refine VCalls.of_fn (hs := kz c17) (F := F17) (by rw [hP]; exact is17) (by simp [F17]) ?_
  have hcl := EM4_cl T w h Y B R O [] hO
  have ao : ((imgR w h).all V.one) = true := rfl
  have il : (imgR w h).length = 4 := rfl
  have hdw : decide ((w : Int) ≥ 65536) = false := by simp; omega
  have hdh : decide ((h : Int) ≥ 65536) = false := by simp; omega
  have lE : (EM4 T w h Y B R O []).length = 7 := rfl
  have hst : stGo (EM4 T w h Y B R O [] ++ [Blk.own [.int .i64 0, .int .i64 0, .int .i64 0, .int .i64 0] 89]) 4 (.agg (imgR w h)) (.ptr 7 0) = some (.undef, EM4 T w h Y B R O [] ++ [.own (imgR w h) 89]) := by
    rw [stGo_agg (n := 4) (vs := imgR w h) (T := 89) (cs := [.int .i64 0, .int .i64 0, .int .i64 0, .int .i64 0]) rfl (by decide) rfl rfl rfl]
    rfl
  have gr : (EM4 T w h Y B R O [] ++ [.own (imgR w h) 89])[7]? = some (.own (imgR w h) 89) := rfl
  have hran : rangeB (some (.own (imgR w h) 89)) 0 4 = some (.agg (imgR w h)) := rfl
  have fin := enc17_a4 T w h Y B R O hG hP hO hw hh K hKt t gray ht E hE hEl hsos q h1 h2 hKq o ho
  have fk : ∀ o', ((o' = .nilp ∧ q = 75) ∨ (∃ q0 : Int, o' = .ptr 6 0 ∧ O = .own [.int .i64 q0] 52 ∧ q = qcl q0)) → V.known o' = true := by rintro o' (⟨rfl, -⟩ | ⟨_, rfl, -⟩) <;> rfl
  have ok := fk o ho
  clear hsos fk
  obtain ⟨rfl, rfl⟩ := ht
  all_goals
    simp -implicitDefEqProofs only [vms, ↓reduceIte, Nat.reduceEqDiff, Nat.reduceAdd, reduceCtorEq, F17, c17_eq, hP, methB99, call75]
    refine ⟨rfl, ?_⟩
    refine callK_of [] rfl (by simp) (bounds2 C w h hP _ hcl T 3 (w * h) 2 rfl) ?_
    rintro _ _ ⟨rfl, rfl⟩
    simp -implicitDefEqProofs only [vms, ↓reduceIte, Nat.reduceEqDiff, reduceCtorEq, callC, lE, hst]
    refine callK_new (dx_spec w h hP hw.2) rfl rfl (.int .i64 w) [] rfl rfl ?_
    rw [List.append_nil]
    simp -implicitDefEqProofs only [vms, ↓reduceIte, Nat.reduceEqDiff, reduceCtorEq, hdw]
    refine callK_new (dy_spec w h hP hh.2) rfl rfl (.int .i64 h) [] rfl rfl ?_
    rw [List.append_nil]
    simp -implicitDefEqProofs only [vms, ↓reduceIte, Nat.reduceEqDiff, reduceCtorEq, hdh]
    refine fin _ ?_ ?_ ?_ ?_ <;> simp -implicitDefEqProofs only [vms, ↓reduceIte, Nat.reduceEqDiff, reduceCtorEq]

end
end Go.VM
end

section
set_option linter.unusedSimpArgs false
set_option maxRecDepth 10000
namespace Go.VM
open Go Go.Proofs Go.Bits

/-! jpeg.Encode gives the reference's bytes. -/
section
variable {C : Ctx} (T : Nat) (w h : Nat) (O : Blk)
theorem sc_tab (q : Int) : TabOk (scaledL false q ++ scaledL true q) := by
  refine ⟨by simp [scaledL_len], fun i hi => ?_⟩
  by_cases h64 : i < 64
  · have : gI (scaledL false q ++ scaledL true q) i = gI (scaledL false q) i := by
      unfold gI; rw [List.getD_eq_getElem?_getD, List.getElem?_append_left (by rw [scaledL_len]; exact h64), ← List.getD_eq_getElem?_getD]
    rw [this]; exact scaledL_le false q i h64
  · have : gI (scaledL false q ++ scaledL true q) i = gI (scaledL true q) (i - 64) := by
      unfold gI; rw [List.getD_eq_getElem?_getD, List.getElem?_append_right (by rw [scaledL_len]; omega), scaledL_len, ← List.getD_eq_getElem?_getD]
    rw [this]; exact scaledL_le true q _ (by omega)
theorem sc_len (q : Int) : (scaledL false q ++ scaledL true q).length = 128 := by simp [scaledL_len]
theorem encK_ok (q : Int) : EncOk (encK (scaledL false q ++ scaledL true q) (sc_len q)) := by
  refine ⟨fun i hi => ?_, (sc_tab q).q⟩
  have : i = 0 ∨ i = 1 ∨ i = 2 ∨ i = 3 := by omega
  rcases this with rfl | rfl | rfl | rfl <;> rfl
theorem hd0_len (gray : Bool) (s : List Int) (hs : s.length = 128) : (jpgHd0 w h gray s).length ≤ 1000 := by
  have hn13 : (if gray then 1 else 3 : Int) = 1 ∨ (if gray then 1 else 3 : Int) = 3 := by cases gray <;> simp
  have h1 := sof_len w h (if gray then 1 else 3) hn13
  have h2 : (if gray then dht1 else dht3).length ≤ 500 := by
    cases gray
    · rw [if_neg (by simp), show dht3.length = 420 from rfl]; omega
    · rw [if_pos rfl, show dht1.length = 212 from rfl]; omega
  unfold jpgHd0
  simp only [List.length_append, List.length_cons, List.length_nil, List.length_take, List.length_drop, hs]
  omega
theorem scanE_ok (gray : Bool) {tabs : List Int} {px : Nat → Nat → Nat → Int} (hpb : PxOk px) (ht : TabOk tabs) (out : List Int) (ho : out.length ≤ 12000) :
    (scanE w h gray tabs px out).1.length < 8 ∧ (scanE w h gray tabs px out).2.length ≤ 13000000 := by
  have hi : ∃ n, n ≤ 1000 ∧ Inv (scan tabs px w h gray (([], out), [0, 0, 0])) n := by
    unfold scan
    split
    · exact ⟨_, by omega, grayY_inv2 w h hpb ht 5 0 _ _ (invO out ho)⟩
    · exact ⟨_, by omega, colY_inv2 w h hpb ht 3 0 _ _ (invO out ho)⟩
  obtain ⟨n, hn, hi⟩ := hi
  unfold scanE
  have h1 := hi.out
  have h2 := feed_len (List.replicate 7 true) (scan tabs px w h gray (([], out), [0, 0, 0])).1
  refine ⟨feed_lt _ hi.p, ?_⟩
  simp only [List.length_replicate] at h2
  omega

theorem enc_gray (hP : C.P = Tryd.prog) (hG : GlobQ C) (hO : O.refs = []) (hw : 0 < w ∧ w ≤ 40) (hh : 0 < h ∧ h ≤ 40) (pix : List Int) (hpl : pix.length = w * h) (px : Nat → Nat → Nat → Int) (hpb : PxOk px) (hpx : ∀ x y, x < w → y < h → px 0 x y = gI pix (y * w + x)) (hpi : ∀ i, 0 ≤ gI pix i ∧ gI pix i ≤ 255)
    (q : Int) (h1 : 1 ≤ q) (h2 : q ≤ 100) (o : V) (ho : (o = .nilp ∧ q = 75) ∨ (∃ q0 : Int, o = .ptr 4 0 ∧ O = .own [.int .i64 q0] 52 ∧ q = qcl q0)) :
    VCalls C 17 [.iface 53 (.ptr 0 0), .iface 91 (.ptr 2 0), o] (EM2 T w w h pix O []) [1] fun v M' => v = .nili ∧ M' = EM2 T w w h pix O (specBytes w h true q px) := by
  have hl := hd0_len w h true _ (sc_len q)
  have hsy : (if true then sosYL else sosCL : List Int).length = 10 := rfl
  obtain ⟨e1, e2⟩ := scanE_ok w h true hpb (sc_tab q) (jpgHd w h true (scaledL false q ++ scaledL true q)) (by rw [jpgHd_eq, List.length_append, hsy]; omega)
  have := enc17_2 T w w h pix O hG hP hO hw hh (encK _ (sc_len q)) ⟨rfl, rfl, rfl, rfl⟩ 91 67 true (.inl ⟨rfl, rfl, rfl⟩) (scanE w h true (scaledL false q ++ scaledL true q) px (jpgHd w h true (scaledL false q ++ scaledL true q))) e1 e2
    (fun buf hb => sos_gray C (encK _ (sc_len q)) buf T w h pix hP hG.toGlobE (encK_ok q) (sc_len q) hb hw hh hpl px hpb hpx hpi _ (by show (jpgHd0 w h true (scaledL false q ++ scaledL true q)).length ≤ _; omega)) q h1 h2 rfl o ho
  rw [jpg_eq w h true q hpb (sc_tab q)] at this
  exact this

theorem enc_rgba (hP : C.P = Tryd.prog) (hG : GlobQ C) (hO : O.refs = []) (hw : 0 < w ∧ w ≤ 40) (hh : 0 < h ∧ h ≤ 40) (pix : List Int) (px : Nat → Nat → Nat → Int) (hpb : PxOk px) (hpx : RgbOk w h pix px)
    (q : Int) (h1 : 1 ≤ q) (h2 : q ≤ 100) (o : V) (ho : (o = .nilp ∧ q = 75) ∨ (∃ q0 : Int, o = .ptr 4 0 ∧ O = .own [.int .i64 q0] 52 ∧ q = qcl q0)) :
    VCalls C 17 [.iface 53 (.ptr 0 0), .iface 95 (.ptr 2 0), o] (EM2 T (4 * w) w h pix O []) [1] fun v M' => v = .nili ∧ M' = EM2 T (4 * w) w h pix O (specBytes w h false q px) := by
  have hl := hd0_len w h false _ (sc_len q)
  have hsy : (if false then sosYL else sosCL : List Int).length = 14 := rfl
  obtain ⟨e1, e2⟩ := scanE_ok w h false hpb (sc_tab q) (jpgHd w h false (scaledL false q ++ scaledL true q)) (by rw [jpgHd_eq, List.length_append, hsy]; omega)
  have := enc17_2 T (4 * w) w h pix O hG hP hO hw hh (encK _ (sc_len q)) ⟨rfl, rfl, rfl, rfl⟩ 95 73 false (.inr ⟨rfl, rfl, rfl⟩) (scanE w h false (scaledL false q ++ scaledL true q) px (jpgHd w h false (scaledL false q ++ scaledL true q))) e1 e2
    (fun buf hb => sos_rgba C (encK _ (sc_len q)) buf T w h pix hP hG.toGlobE (encK_ok q) (sc_len q) hb hw hh px hpb hpx _ (by show (jpgHd0 w h false (scaledL false q ++ scaledL true q)).length ≤ _; omega)) q h1 h2 rfl o ho
  rw [jpg_eq w h false q hpb (sc_tab q)] at this
  exact this

theorem enc_ycc (hP : C.P = Tryd.prog) (hG : GlobQ C) (hO : O.refs = []) (hw : 0 < w ∧ w ≤ 40) (hh : 0 < h ∧ h ≤ 40) (Y B R : List Int) (px : Nat → Nat → Nat → Int) (hpb : PxOk px) (hpx : YccOk w h Y B R px)
    (q : Int) (h1 : 1 ≤ q) (h2 : q ≤ 100) (o : V) (ho : (o = .nilp ∧ q = 75) ∨ (∃ q0 : Int, o = .ptr 6 0 ∧ O = .own [.int .i64 q0] 52 ∧ q = qcl q0)) :
    VCalls C 17 [.iface 53 (.ptr 0 0), .iface 99 (.ptr 2 0), o] (EM4 T w h Y B R O []) [1] fun v M' => v = .nili ∧ M' = EM4 T w h Y B R O (specBytes w h false q px) := by
  have hl := hd0_len w h false _ (sc_len q)
  have hsy : (if false then sosYL else sosCL : List Int).length = 14 := rfl
  obtain ⟨e1, e2⟩ := scanE_ok w h false hpb (sc_tab q) (jpgHd w h false (scaledL false q ++ scaledL true q)) (by rw [jpgHd_eq, List.length_append, hsy]; omega)
  have := enc17_4 T w h Y B R O hG hP hO hw hh (encK _ (sc_len q)) ⟨rfl, rfl, rfl, rfl⟩ 99 false ⟨rfl, rfl⟩ (scanE w h false (scaledL false q ++ scaledL true q) px (jpgHd w h false (scaledL false q ++ scaledL true q))) e1 e2
    (fun buf hb => sos_ycc C (encK _ (sc_len q)) buf T w h Y B R hP hG.toGlobE (encK_ok q) (sc_len q) hb hw hh px hpb hpx _ (by show (jpgHd0 w h false (scaledL false q ++ scaledL true q)).length ≤ _; omega)) q h1 h2 rfl o ho
  rw [jpg_eq w h false q hpb (sc_tab q)] at this
  exact this
end
end Go.VM
end

section
set_option linter.unusedSimpArgs false
set_option maxRecDepth 10000
namespace Go.VM
open Go Go.Proofs Go.Bits

/-! The picture that is encoded. -/
section
variable {C : Ctx} (w h : Nat)
theorem clone_spec (hP : C.P = Tryd.prog) (xs : List Int) (h0 : 0 < xs.length) (hl : xs.length ≤ 16000000) :
    VCalls C 35 [.vec 0 xs.length] [.vec .u8 xs 5] [] (fun v M' => v = .vec 1 xs.length ∧ M' = [.vec .u8 xs 5, .vec .u8 xs 5]) := by
  refine VCalls.of_fn (hs := kz c35) (F := F35) (by rw [hP]; exact is35) (by simp [F35]) ?_
  have hn : visnils [.vec .u8 xs 5] (.vec 0 xs.length) = some false := visnils_vec' rfl h0
  simp -implicitDefEqProofs only [vms, ↓reduceIte, Nat.reduceEqDiff, reduceCtorEq, Nat.reduceLeDiff, F35, c35, hn]
  refine app_of rfl rfl (.inl (by simp)) (elems_vec rfl rfl) (by simp; omega) ?_
  simp -implicitDefEqProofs only [vms, ↓reduceIte, Nat.reduceEqDiff, reduceCtorEq, callC, Nat.reduceBEq]
  show retGo 1 (some (.vec 1 xs.length)) _ _
  exact retGo_refl ⟨rfl, rfl⟩
theorem rect_spec (hP : C.P = Tryd.prog) : VCalls C 34 [.int .i64 0, .int .i64 0, .int .i64 w, .int .i64 h] [] [] (fun v M' => v = .agg (imgR w h) ∧ M' = []) := by
  refine VCalls.of_fn (hs := kz c34) (F := F34) (by rw [hP]; exact is34) (by simp [F34]) ?_
  have hd1 : decide ((0 : Int) > w) = false := by simp
  have hd2 : decide ((0 : Int) > h) = false := by simp
  have f1 : vfill [(0, 1, .int .i64 0), (1, 1, .int .i64 0)] (.agg [.int .i64 0, .int .i64 0]) = some (.agg [.int .i64 0, .int .i64 0]) := rfl
  have f2 : vfill [(0, 1, .int .i64 w), (1, 1, .int .i64 h)] (.agg [.int .i64 0, .int .i64 0]) = some (.agg [.int .i64 w, .int .i64 h]) := rfl
  have f3 : vfill [(0, 2, .agg [.int .i64 0, .int .i64 0]), (2, 2, .agg [.int .i64 w, .int .i64 h])] (.agg [.int .i64 0, .int .i64 0, .int .i64 0, .int .i64 0]) = some (.agg (imgR w h)) := rfl
  have hst : stGo [.own [.int .i64 0, .int .i64 0, .int .i64 0, .int .i64 0] 89] 4 (.agg (imgR w h)) (.ptr 0 0) = some (.undef, [.own (imgR w h) 89]) := rfl
  have rr : rangeB (some (.own (imgR w h) 89)) 0 4 = some (.agg (imgR w h)) := rfl
  simp -implicitDefEqProofs only [vms, ↓reduceIte, Nat.reduceEqDiff, Nat.reduceAdd, reduceCtorEq, F34, c34, hd1, hd2, f1, f2, f3, hst]
  exact retGo_take 0 (Nat.le_refl _) (by simp) rfl rfl ⟨rfl, rfl⟩
theorem small_spec (hP : C.P = Tryd.prog) (hw : w ≤ 40) (hh : h ≤ 40) : VCalls C 36 [.int .i64 0, .int .i64 w, .int .i64 h] [] [] (fun v M' => v = .tup [.int .i64 w, .int .i64 h] ∧ M' = []) := by
  refine VCalls.of_fn (hs := kz c36) (F := F36) (by rw [hP]; exact is36) (by simp [F36]) ?_
  have d1 : ((0 : Int) == 1) = false := rfl
  have d2 : ((0 : Int) == 2) = false := rfl
  have d3 : ((0 : Int) == 3) = false := rfl
  have d4 : ((0 : Int) == 4) = false := rfl
  have d5 : ((0 : Int) == 5) = false := rfl
  simp -implicitDefEqProofs only [vms, ↓reduceIte, Nat.reduceEqDiff, Nat.reduceAdd, reduceCtorEq, Int.reduceEq, F36, c36]
  show retGo 0 (some (.tup [.int .i64 w, .int .i64 h])) _ _
  exact retGo_refl ⟨rfl, rfl⟩
theorem ratios_spec (hP : C.P = Tryd.prog) : VCalls C 37 [] [] [] (fun v M' => v = .vec 0 6 ∧ M' = [.vec .i64 [0, 1, 2, 3, 4, 5] 100]) := by
  refine VCalls.of_fn (hs := kz c37) (F := F37) (by rw [hP]; exact is37) (by simp [F37]) ?_
  have hv : vfill [(0, 1, .int .i64 0), (1, 1, .int .i64 1), (2, 1, .int .i64 2), (3, 1, .int .i64 3), (4, 1, .int .i64 4), (5, 1, .int .i64 5)] (.ints .i64 (List.replicate 6 0)) = some (.ints .i64 [0, 1, 2, 3, 4, 5]) := rfl
  have hb : bslGo [] 100 6 (some (.ints .i64 [0, 1, 2, 3, 4, 5])) = some (.vec 0 6, [.vec .i64 [0, 1, 2, 3, 4, 5] 100]) := rfl
  simp -implicitDefEqProofs only [vms, ↓reduceIte, reduceCtorEq, F37, c37, hv, hb]
  show retGo 0 (some (.vec 0 6)) _ _
  exact retGo_refl ⟨rfl, rfl⟩

/-- a row of the caller's is copied -/
theorem callK_clone {n0 : Nat} {mv : List Nat} (hP : C.P = Tryd.prog) {M : Mem} {i : Nat} {xs : List Int} (hM : M[i]? = some (.vec .u8 xs 5)) (h0 : 0 < xs.length) (hl : xs.length ≤ 16000000) {K : List Nat → V → Mem → Prop}
    (hK : K [] (.vec M.length xs.length) (M ++ [.vec .u8 xs 5])) : callK C n0 mv 35 [.vec i xs.length] M K := by
  have hi : i < M.length := (List.getElem?_eq_some_iff.1 hM).1
  have e0 : fpσ [i] M.length 0 = i := rfl
  have e1 : fpσ [i] M.length 1 = M.length := by simp [fpσ]
  refine callK_fr [i] (clone_spec hP xs h0 hl) rfl (by simp) (by simp [hi]) ⟨hM, trivial⟩ (by simp [V.renL, V.ren, e0]) rfl rfl ?_
  rintro _ _ ⟨rfl, rfl⟩ -
  have hm : merge M [i] [.vec .u8 xs 5, .vec .u8 xs 5] = M ++ [.vec .u8 xs 5] := by
    simp only [merge, List.map_cons, List.map_nil, Blk.ren]
    show setAll M [i] [.vec .u8 xs 5] ++ [.vec .u8 xs 5] = _
    simp only [setAll]
    rw [set_same hM]
  rw [hm]
  show K [] (.vec (fpσ [i] M.length 1) xs.length) _
  rw [e1]
  exact hK

theorem retGo_pickN {n0 : Nat} {v : V} {M : Mem} {R : V → Mem → Prop} (idx : List Nat) (v' : V) (M' : Mem) (h0 : ((List.range n0).all fun j => idxσ idx j == j) = true) (hn : n0 ≤ M'.length) (hl : idx.length = M'.length) (hnd : idx.Nodup) (hM : idx.map (M[·]?) = M'.map (fun b => some (b.ren (idxσ idx)))) (hv : v = v'.ren (idxσ idx))
    (hcv : clB M'.length v'.refs = true) (hcM : memCl M'.length M' = true) (h : R v' M') : retGo n0 (some v) M R := by
  refine ⟨v', M', .ren v' M' (idxσ idx) (fun j hj => by simpa using List.all_eq_true.1 h0 j (by simpa using hj)) hn (fun i j hi hj he => ?_) (fun j b hb => ?_) hv (clB_iff hcv) (fun j b hb => clB_iff (List.all_eq_true.1 hcM b (List.mem_of_getElem? hb))), h⟩
  · have hi' : i < idx.length := by omega
    have hj' : j < idx.length := by omega
    unfold idxσ at he
    rw [List.getD_eq_getElem?_getD, List.getD_eq_getElem?_getD, List.getElem?_eq_getElem hi', List.getElem?_eq_getElem hj'] at he
    exact (List.getElem_inj hnd).1 he
  · have hj : j < idx.length := by rw [hl]; exact (List.getElem?_eq_some_iff.1 hb).1
    have h1 : (idx.map (M[·]?))[j]? = some (M[idx[j]]?) := by simp [hj]
    have h2 : (M'.map (fun b => some (b.ren (idxσ idx))))[j]? = some (some (b.ren (idxσ idx))) := by simp [hb]
    rw [hM, h2] at h1
    have h3 : idxσ idx j = idx[j] := by
      unfold idxσ
      rw [List.getD_eq_getElem?_getD, List.getElem?_eq_getElem hj]
      rfl
    rw [h3]
    exact (Option.some.inj h1).symm

set_option maxHeartbeats 2000000 in
/-- a picture of one row: gray -/
theorem pic_gray (hP : C.P = Tryd.prog) (hw : 0 < w ∧ w ≤ 40) (hh : 0 < h ∧ h ≤ 40) (pix : List Int) (hpl : pix.length = w * h) (r : Int) :
    VCalls C 16 [.agg [.int .i64 1, .int .i64 w, .int .i64 h, .int .i64 r, .slice 0 0 1 1]] [.own [.vec 1 pix.length] 32, .vec .u8 pix 5] []
      (fun v M' => v = .iface 91 (.ptr 2 0) ∧ M' = [.own [.vec 1 pix.length] 32, .vec .u8 pix 5, imgB 94 3 pix.length w h w, .vec .u8 pix 5]) := by
  refine VCalls.of_fn (hs := kz c16) (F := F16) (by rw [hP]; exact is16) (by simp [F16]) ?_
  have hmul : w * h ≤ 1600 := Nat.mul_le_mul hw.2 hh.2
  have hpos : 0 < w * h := Nat.mul_pos hw.1 hh.1
  have hbx : vbox 30 (.agg [.int .i64 1, .int .i64 w, .int .i64 h, .int .i64 r, .slice 0 0 1 1]) = some (.own [.int .i64 1, .int .i64 w, .int .i64 h, .int .i64 r, .slice 0 0 1 1] 30) := rfl
  have a1 : decide ((w : Int) < 0) = false := by simp
  have a2 : decide ((w : Int) > 100) = false := by simp; omega
  have a3 : decide ((h : Int) < 0) = false := by simp
  have a4 : decide ((h : Int) > 100) = false := by simp; omega
  have b1 : ((1 : Int) == 1) = true := rfl
  have b2 : ((1 : Int) == 2) = false := rfl
  have b3 : ((1 : Int) == 3) = false := rfl
  have c1 : ((1 : Int) == 1) = true := rfl
  have c3 : ((1 : Int) == 3) = false := rfl
  have sO : ((imgR w h).all V.one) = true := rfl
  have sL : (imgR w h).length = 4 := rfl
  have rr : rangeB (some (.own (imgR w h) 89)) 0 4 = some (.agg (imgR w h)) := rfl
  have wm : IntKind.i64.wrap ((w : Int) * h) = (pix.length : Int) := by rw [show (w : Int) * h = ((w * h : Nat) : Int) by simp, wrap_i64_id (by omega) (by omega), hpl]
  have a6 : ((pix.length : Int) == (pix.length : Int)) = true := by simp
  have lv : ∀ (R : Mem), vlen (.own [.vec 1 pix.length] 32 :: .vec .u8 pix 5 :: R) (.vec 1 pix.length) = some (.int .i64 (pix.length : Int)) := fun R => by simp [vlen]
  have ix : ∀ M, vidxS M 1 (.slice 0 0 1 1) (.int .i64 0) = some (.ptr 0 0) := fun M => rfl
  have f1 : vfill [(0, 1, .vec 4 pix.length), (1, 1, .int .i64 w), (2, 4, .agg (imgR w h))] (.agg [.nils, .int .i64 0, .int .i64 0, .int .i64 0, .int .i64 0, .int .i64 0]) = some (.agg (.vec 4 pix.length :: .int .i64 w :: imgR w h)) := rfl
  have hb2 : vbox 94 (.agg (.vec 4 pix.length :: .int .i64 w :: imgR w h)) = some (imgB 94 4 pix.length w h w) := rfl
  simp -implicitDefEqProofs only [vms, ↓reduceIte, Nat.reduceEqDiff, Nat.reduceAdd, reduceCtorEq, F16, c16, hbx, a1, a2, a3, a4]
  refine callK_new (rect_spec w h hP) rfl rfl (.agg (imgR w h)) [] rfl rfl ?_
  rw [List.append_nil]
  simp -implicitDefEqProofs only [vms, ↓reduceIte, Nat.reduceEqDiff, Nat.reduceAdd, callC, natCast_lit, range_eqB, stGo_putA, putA_own, sO, sL, wm, lv, rr, ix]
  refine callK_clone hP (i := 1) rfl (by omega) (by omega) ?_
  simp -implicitDefEqProofs only [vms, ↓reduceIte, Nat.reduceEqDiff, Nat.reduceAdd, callC, range_eqB, rr, f1, hb2]
  show retGo 2 (some (.iface 91 (.ptr 5 0))) _ _
  refine retGo_pickN [0, 1, 5, 4] (.iface 91 (.ptr 2 0)) _ rfl (by simp) rfl (by decide) rfl rfl rfl rfl ⟨rfl, rfl⟩
end
end Go.VM
end
