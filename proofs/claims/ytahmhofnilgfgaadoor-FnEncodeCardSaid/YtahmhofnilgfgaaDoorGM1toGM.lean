/-
  A part of a machine over the model and of a walk by it, proved right against the model; proved outright, under no condition but what each theorem names.
-/
import Derived.Test.YtahmhofnilgfgaaDoorFHtoGM0
import Derived.Test.YtahmhofnilgfgaaDoorFE
set_option linter.unusedVariables false
set_option linter.unusedSimpArgs false
section
set_option linter.unusedSimpArgs false
set_option maxRecDepth 10000
namespace Go.VM
open Go Go.Proofs Go.Bits
def blk0 : Blk := (.own [.nili, .nili, (.int .u8 0), (.int .u8 0), (.int .u8 0), (.int .u8 0), (.int .u8 0), (.int .u8 0), (.int .u8 0), (.int .u8 0), (.int .u8 0), (.int .u8 0), (.int .u8 0), (.int .u8 0), (.int .u8 0), (.int .u8 0), (.int .u8 0), (.int .u8 0), (.int .u32 0), (.int .u32 0), (.int .u8 0), (.int .u8 0), (.int .u8 0), (.int .u8 0), (.int .u8 0), (.int .u8 0), (.int .u8 0), (.int .u8 0), (.int .u8 0), (.int .u8 0), (.int .u8 0), (.int .u8 0), (.int .u8 0), (.int .u8 0), (.int .u8 0), (.int .u8 0), (.int .u8 0), (.int .u8 0), (.int .u8 0), (.int .u8 0), (.int .u8 0), (.int .u8 0), (.int .u8 0), (.int .u8 0), (.int .u8 0), (.int .u8 0), (.int .u8 0), (.int .u8 0), (.int .u8 0), (.int .u8 0), (.int .u8 0), (.int .u8 0), (.int .u8 0), (.int .u8 0), (.int .u8 0), (.int .u8 0), (.int .u8 0), (.int .u8 0), (.int .u8 0), (.int .u8 0), (.int .u8 0), (.int .u8 0), (.int .u8 0), (.int .u8 0), (.int .u8 0), (.int .u8 0), (.int .u8 0), (.int .u8 0), (.int .u8 0), (.int .u8 0), (.int .u8 0), (.int .u8 0), (.int .u8 0), (.int .u8 0), (.int .u8 0), (.int .u8 0), (.int .u8 0), (.int .u8 0), (.int .u8 0), (.int .u8 0), (.int .u8 0), (.int .u8 0), (.int .u8 0), (.int .u8 0), (.int .u8 0), (.int .u8 0), (.int .u8 0), (.int .u8 0), (.int .u8 0), (.int .u8 0), (.int .u8 0), (.int .u8 0), (.int .u8 0), (.int .u8 0), (.int .u8 0), (.int .u8 0), (.int .u8 0), (.int .u8 0), (.int .u8 0), (.int .u8 0), (.int .u8 0), (.int .u8 0), (.int .u8 0), (.int .u8 0), (.int .u8 0), (.int .u8 0), (.int .u8 0), (.int .u8 0), (.int .u8 0), (.int .u8 0), (.int .u8 0), (.int .u8 0), (.int .u8 0), (.int .u8 0), (.int .u8 0), (.int .u8 0), (.int .u8 0), (.int .u8 0), (.int .u8 0), (.int .u8 0), (.int .u8 0), (.int .u8 0), (.int .u8 0), (.int .u8 0), (.int .u8 0), (.int .u8 0), (.int .u8 0), (.int .u8 0), (.int .u8 0), (.int .u8 0), (.int .u8 0), (.int .u8 0), (.int .u8 0), (.int .u8 0), (.int .u8 0), (.int .u8 0), (.int .u8 0), (.int .u8 0), (.int .u8 0), (.int .u8 0), (.int .u8 0), (.int .u8 0), (.int .u8 0), (.int .u8 0), (.int .u8 0), (.int .u8 0), (.int .u8 0), (.int .u8 0), .nils, .nils, .nils, .nils] 116)
def c17c : VC := (.seq (.reg [.op none (some 81) (.fld 2 (.t 8)),
    .op none (some 82) (.idxA 16 1 (.t 81) (.c (.int .i64 0))),
    .op none none (.st 1 (.t 82) (.c (.int .u8 255)))] [1, 7, 8, 14])
  (.seq (.reg [.op none (some 83) (.fld 2 (.t 8)),
    .op none (some 84) (.idxA 16 1 (.t 83) (.c (.int .i64 1))),
    .op none none (.st 1 (.t 84) (.c (.int .u8 216)))] [1, 7, 8, 14])
  (.seq (.reg [.op none (some 85) (.fld 2 (.t 8)),
    .op none (some 86) (.slc 16 1 (.t 85) none (some (.c (.int .i64 2))) none),
    .call (some 87) 42 [(.t 8), (.t 86)]] [1, 7, 8, 14])
  (.seq (.reg [.call (some 88) 43 [(.t 8)]] [1, 7, 8, 14])
  (.seq (.reg [.op none (some 89) (.ldA 4 (.t 7)),
    .call (some 90) 45 [(.t 89)],
    .op none (some 91) (.mov (.t 14)),
    .call (some 92) 44 [(.t 8), (.t 90), (.t 91)]] [1, 8, 14])
  (.seq (.reg [.op none (some 93) (.mov (.t 14)),
    .call (some 94) 46 [(.t 8), (.t 93)]] [1, 8])
  (.seq (.reg [.op none (some 95) (.mov (.t 1)),
    .call (some 96) 47 [(.t 8), (.t 95)]] [8])
  (.seq (.reg [.op none (some 97) (.fld 2 (.t 8)),
    .op none (some 98) (.idxA 16 1 (.t 97) (.c (.int .i64 0))),
    .op none none (.st 1 (.t 98) (.c (.int .u8 255)))] [8])
  (.seq (.reg [.op none (some 99) (.fld 2 (.t 8)),
    .op none (some 100) (.idxA 16 1 (.t 99) (.c (.int .i64 1))),
    .op none none (.st 1 (.t 100) (.c (.int .u8 217)))] [8])
  (.seq (.reg [.op none (some 101) (.fld 2 (.t 8)),
    .op none (some 102) (.slc 16 1 (.t 101) none (some (.c (.int .i64 2))) none),
    .call (some 103) 42 [(.t 8), (.t 102)]] [8])
  (.seq (.reg [.call (some 104) 48 [(.t 8)]] [8])
  (.seq (.reg [.op none (some 105) (.fld 1 (.t 8)),
    .op none (some 106) (.ld (.t 105)),
    .op none (some 6) (.mov (.t 106))] [6])
  .ret))))))))))))

def c17n : VC := (.seq (.reg [.op none (some 14) (.mov (.c (.int .i64 3)))] [1, 7, 8, 14])
  (.seq (.seq (.reg [.op none (some 77) (.mov (.t 1))] [1, 7, 8, 14, 77])
  (.block 4 (.seq (.reg [.op none (some 78) (.tas 91 .nilp (.t 77)),
    .op none (some 79) (.tupx (.t 78) 1),
    .op none (some 80) (.tupx (.t 78) 0)] [1, 7, 8, 14, 79])
  (.cond (.t 79) (.reg [.op none (some 14) (.mov (.c (.int .i64 1)))] [1, 7, 8, 14])
  .skip))))
  c17c))

def c17b : VC := (.seq (.reg [.op none (some 10) (.mov (.c (.int .i64 0)))] [1, 7, 8, 9])
  (.seq (.seq (.reg [.op none (some 40) (.mov (.t 9)),
    .op none (some 41) (.bin .lss (.t 40) (.c (.int .i64 50)))] [1, 7, 8, 9, 41])
  (.cond (.t 41) (.reg [.op none (some 42) (.mov (.t 9)),
    .op none (some 43) (.bin .quo (.c (.int .i64 5000)) (.t 42)),
    .op none (some 10) (.mov (.t 43))] [1, 7, 8, 10])
  (.reg [.op none (some 44) (.mov (.t 9)),
    .op none (some 45) (.bin .mul (.t 44) (.c (.int .i64 2))),
    .op none (some 46) (.bin .sub (.c (.int .i64 200)) (.t 45)),
    .op none (some 10) (.mov (.t 46))] [1, 7, 8, 10])))
  (.seq (.seq (.reg [.op none (some 47) (.mov (.c (.int .i64 0)))] [1, 7, 8, 10, 47])
  (.block 0 (.loop c17l1)))
  c17n)))

def c17q : VC := (.seq (.reg [.op none (some 9) (.mov (.c (.int .i64 75)))] [1, 2, 7, 8, 9])
  (.seq (.seq (.reg [.op none (some 30) (.mov (.t 2)),
    .op none (some 31) (.isnil true true (.t 30))] [1, 2, 7, 8, 9, 31])
  (.cond (.t 31) (.seq (.reg [.op none (some 32) (.mov (.t 2)),
    .op none (some 33) (.nilck (.t 32)),
    .op none (some 34) (.fld 0 (.t 33)),
    .op none (some 35) (.ld (.t 34)),
    .op none (some 9) (.mov (.t 35))] [1, 7, 8, 9])
  (.seq (.reg [.op none (some 36) (.mov (.t 9)),
    .op none (some 37) (.bin .lss (.t 36) (.c (.int .i64 1)))] [1, 7, 8, 9, 37])
  (.cond (.t 37) (.reg [.op none (some 9) (.mov (.c (.int .i64 1)))] [1, 7, 8, 9])
  (.seq (.reg [.op none (some 38) (.mov (.t 9)),
    .op none (some 39) (.bin .gtr (.t 38) (.c (.int .i64 100)))] [1, 7, 8, 9, 39])
  (.cond (.t 39) (.reg [.op none (some 9) (.mov (.c (.int .i64 100)))] [1, 7, 8, 9])
  .skip)))))
  .skip))
  c17b))

def c17a : VC := (.seq (.reg [.op none (some 8) (.alloc blk0)] [0, 1, 2, 7, 8])
  (.seq (.reg [.call (some 26) 41 [],
    .op none (some 27) (.fld 148 (.t 8)),
    .op none none (.st 4 (.t 27) (.t 26))] [0, 1, 2, 7, 8])
  (.seq (.reg [.op none (some 28) (.mov (.t 0)),
    .op none (some 29) (.fld 0 (.t 8)),
    .op none none (.st 1 (.t 29) (.t 28))] [1, 2, 7, 8])
  c17q)))

theorem c17_eq : c17 = (.seq (.reg [.op none (some 6) (.mov (.c .nili))] [0, 1, 2, 21, 22, 23])
  (.seq (.reg [.op none (some 15) (.mov (.t 1)),
    .inv (some 16) (.t 15) "Bounds" [],
    .op none (some 7) (.alloc (.own [(.int .i64 0), (.int .i64 0), (.int .i64 0), (.int .i64 0)] 89)),
    .op none none (.st 4 (.t 7) (.t 16))] [0, 1, 2, 7, 21, 22, 23])
  (.seq (.seq (.reg [.op none (some 17) (.ldA 4 (.t 7)),
    .call (some 18) 38 [(.t 17)],
    .op none (some 19) (.bin .geq (.t 18) (.c (.int .i64 65536))),
    .op none (some 20) (.mov (.t 19)),
    .op (some (20, false)) (some 21) (.ldA 4 (.t 7)),
    .callg 20 false (some 22) 39 [(.t 21)],
    .op (some (20, false)) (some 23) (.bin .geq (.t 22) (.c (.int .i64 65536))),
    .op none (some 24) (.pick (.t 20) (.c (.bool true)) (.t 23))] [0, 1, 2, 7, 24])
  (.cond (.t 24) (.seq (.reg [.call (some 25) 40 [(.c (.str ⟨#[106, 112, 101, 103, 58, 32, 105, 109, 97, 103, 101, 32, 105, 115, 32, 116, 111, 111, 32, 108, 97, 114, 103, 101, 32, 116, 111, 32, 101, 110, 99, 111, 100, 101]⟩))],
    .op none (some 6) (.mov (.t 25))] [6])
  .ret)
  .skip))
  c17a))) := rfl

theorem stGo_aggO {M : Mem} {n b o T : Nat} {vs cs cs' : List V} (h : M[b]? = some (.own cs T)) (h1 : n ≠ 1) (hv : (vs.all V.one) = true) (hn : vs.length = n) (hl : o + n ≤ cs.length) (hs : splice cs o vs = cs') : stGo M n (.agg vs) (.ptr b o) = some (.undef, M.set b (.own cs' T)) := by
  simp only [stGo, Mem.put, h]
  rw [if_neg (by intro hh; exact h1 hh.1)]
  have : V.cells (.agg vs) = some vs := by simp only [V.cells, hv, if_true]
  rw [this]
  simp only
  rw [if_pos ⟨hn, hl⟩, hs]
def blk1 (a b c d : Nat) : Blk := .own ([.nili, .nili] ++ (intVs .u8 (List.replicate 16 0) ++ (([.int .u32 0, .int .u32 0] : List V) ++ (intVs .u8 (List.replicate 128 0) ++ ([.vec a 12, .vec b 251, .vec c 12, .vec d 251] : List V))))) 116
def blk2h : List V := [.iface 53 (.ptr 0 0), .nili] ++ intVs .u8 (List.replicate 16 0) ++ ([.int .u32 0, .int .u32 0] : List V)
def blk2 (a b c d : Nat) (q : List Int) : Blk := .own (blk2h ++ (intVs .u8 q ++ ([.vec a 12, .vec b 251, .vec c 12, .vec d 251] : List V))) 116
theorem st_lut {M : Mem} {e a b c d : Nat} (h : M[e]? = some blk0) : stGo M 4 (.agg [.vec a 12, .vec b 251, .vec c 12, .vec d 251]) (.ptr e 148) = some (.undef, M.set e (blk1 a b c d)) :=
  stGo_aggO (cs := _) h (by decide) rfl rfl (by decide) rfl
theorem st_w {M : Mem} {e a b c d : Nat} : putB M e 0 (.iface 53 (.ptr 0 0)) (some (blk1 a b c d)) = some (.undef, M.set e (blk2 a b c d (List.replicate 128 0))) := rfl
theorem blk2_eq (a b c d : Nat) (s : List Int) (hs : s.length = 128) : blk2 a b c d s = encBlkG 0 a b c d (encK s hs) (List.replicate 16 0) 0 0 := rfl
theorem blk2h_len : blk2h.length = 20 := rfl
end Go.VM
end

section
set_option linter.unusedSimpArgs false
set_option maxRecDepth 10000
namespace Go.VM
open Go Go.Proofs Go.Bits

/-! jpeg.Encode over a picture of 1 row(s). -/

section
variable {C : Ctx} (T s : Nat) (w h : Nat) (pix : List Int) (O : Blk)
def LG2 (K : EncK) (buf : List Int) (bits nb : Int) (bytes : List Int) : Mem :=
  [.own [.vec 1 bytes.length] 55, .vec .u8 bytes 5, imgB T 3 pix.length w h s, .vec .u8 pix 5, O, .own (imgR w h) 89, encBlkG 0 7 8 9 10 K buf bits nb, .vec .u32 K.l0 43, .vec .u32 K.l1 43, .vec .u32 K.l2 43, .vec .u32 K.l3 43]
theorem LG2_len (K : EncK) (buf : List Int) (bits nb : Int) (bytes : List Int) : (LG2 T s w h pix O K buf bits nb bytes).length = 11 := rfl

theorem lg2_call {mv0 : List Nat} {K K' : EncK} {buf buf' : List Int} {bits nb bits' nb' : Int} {bytes bytes' : List Int} (hO : O.refs = []) {f : Nat} {vs vs0 : List V} {Q : List Nat → V → Mem → Prop} (mvr : List Nat)
    (hv : VCalls C f vs0 (encM K buf bits nb bytes) mv0 fun v M' => v = .tup [] ∧ M' = encM K' buf' bits' nb' bytes') (hmv : (mv0 = [2] ∧ mvr = [1]) ∨ (mv0 = [] ∧ mvr = [])) (hk : allKnown vs = true)
    (hvs : vs = V.renL (fpσ [6, 0, 1, 7, 8, 9, 10] 11) vs0) (hcv : clB 7 (V.refsL vs0) = true) (hQ : Q mvr (.tup []) (LG2 T s w h pix O K' buf' bits' nb' bytes')) :
    callK C 5 [1] f vs (LG2 T s w h pix O K buf bits nb bytes) Q := by
  have hO' : ∀ b, O.refs.all (fun r => !([b] : List Nat).contains r) = true := by intro b; rw [hO]; rfl
  have hmg : merge (LG2 T s w h pix O K buf bits nb bytes) [6, 0, 1, 7, 8, 9, 10] (encM K' buf' bits' nb' bytes') = LG2 T s w h pix O K' buf' bits' nb' bytes' := by
    simp only [merge, encM, encBlk_eq, LG2, List.cons_append, List.nil_append, List.map_cons, List.map_nil, encBlkG_ren]
    rfl
  have hcl : memCl (encM K buf bits nb bytes).length (encM K buf bits nb bytes) = true := encM_cl
  have hfit : fits (LG2 T s w h pix O K buf bits nb bytes) (fpσ [6, 0, 1, 7, 8, 9, 10] 11) [6, 0, 1, 7, 8, 9, 10] (encM K buf bits nb bytes) := ⟨by rw [encBlk_eq, encBlkG_ren]; rfl, rfl, rfl, rfl, rfl, rfl, rfl, trivial⟩
  rcases hmv with ⟨rfl, rfl⟩ | ⟨rfl, rfl⟩
  · refine callK_frame [6, 0, 1, 7, 8, 9, 10] hv hk (by decide) rfl hfit hvs hcl hcv (by simp [fpσ]) ?_ ?_
    · simp [outs, fpσ, LG2, ownR, vecR, hO, encBlkG_refs, imgB, yccImg, imgR, V.refsL, V.refs]
    · rintro _ _ ⟨rfl, rfl⟩ -
      rw [hmg]
      exact hQ
  · refine callK_frame [6, 0, 1, 7, 8, 9, 10] hv hk (by decide) rfl hfit hvs hcl hcv (by simp) (outs_nil 0 _) ?_
    rintro _ _ ⟨rfl, rfl⟩ -
    rw [hmg]
    exact hQ

theorem lg2_sos {K K' : EncK} {buf buf' : List Int} {bits nb bits' nb' : Int} {bytes bytes' : List Int} (hO : O.refs = []) {f : Nat} {vs vs0 : List V} {Q : List Nat → V → Mem → Prop}
    (hv : VCalls C f vs0 (encM K buf bits nb bytes ++ [imgB T 8 pix.length w h s, .vec .u8 pix 5]) [2] fun v M' => v = .tup [] ∧ M' = encM K' buf' bits' nb' bytes' ++ [imgB T 8 pix.length w h s, .vec .u8 pix 5]) (hk : allKnown vs = true)
    (hvs : vs = V.renL (fpσ [6, 0, 1, 7, 8, 9, 10, 2, 3] 11) vs0) (hcv : clB 9 (V.refsL vs0) = true) (hQ : Q [1] (.tup []) (LG2 T s w h pix O K' buf' bits' nb' bytes')) :
    callK C 5 [1] f vs (LG2 T s w h pix O K buf bits nb bytes) Q := by
  have hmg : merge (LG2 T s w h pix O K buf bits nb bytes) [6, 0, 1, 7, 8, 9, 10, 2, 3] (encM K' buf' bits' nb' bytes' ++ [imgB T 8 pix.length w h s, .vec .u8 pix 5]) = LG2 T s w h pix O K' buf' bits' nb' bytes' := by
    simp only [merge, encM, encBlk_eq, LG2, List.cons_append, List.nil_append, List.map_cons, List.map_nil, encBlkG_ren]
    rfl
  have hcl : memCl (encM K buf bits nb bytes ++ [imgB T 8 pix.length w h s, .vec .u8 pix 5]).length (encM K buf bits nb bytes ++ [imgB T 8 pix.length w h s, .vec .u8 pix 5]) = true := by
    simp only [memCl, encM, encBlk_eq, List.cons_append, List.nil_append, List.all_cons, List.all_nil, encBlkG_refs]
    rfl
  have hfit : fits (LG2 T s w h pix O K buf bits nb bytes) (fpσ [6, 0, 1, 7, 8, 9, 10, 2, 3] 11) [6, 0, 1, 7, 8, 9, 10, 2, 3] (encM K buf bits nb bytes ++ [imgB T 8 pix.length w h s, .vec .u8 pix 5]) := ⟨by rw [encBlk_eq, encBlkG_ren]; rfl, rfl, rfl, rfl, rfl, rfl, rfl, rfl, rfl, trivial⟩
  refine callK_frame [6, 0, 1, 7, 8, 9, 10, 2, 3] hv hk (by decide) rfl hfit hvs hcl hcv (by simp [fpσ]) ?_ ?_
  · simp [outs, fpσ, LG2, ownR, vecR, hO, encBlkG_refs, imgB, yccImg, imgR, V.refsL, V.refs]
  · rintro _ _ ⟨rfl, rfl⟩ -
    rw [hmg]
    exact hQ

set_option maxHeartbeats 2000000 in
theorem enc17_tail2 (hP : C.P = Tryd.prog) (hO : O.refs = []) (hw : 0 < w ∧ w ≤ 40) (hh : 0 < h ∧ h ≤ 40) (K : EncK) (hKt : K.l0 = lutL0 ∧ K.l1 = lutL1 ∧ K.l2 = lutL2 ∧ K.l3 = lutL3) (t : Nat) (gray : Bool) (E : List Bool × List Int) (hE : E.1.length < 8) (hEl : E.2.length ≤ 13000000)
    (hsos : ∀ buf : List Int, buf.length = 16 → VCalls C 47 [.ptr 0 0, .iface t (.ptr 7 0)] (encP K buf [] (jpgHd0 w h gray K.q) ++ [imgB T 8 pix.length w h s, .vec .u8 pix 5]) [2] fun v M' => v = .tup [] ∧ M' = encP K buf E.1 E.2 ++ [imgB T 8 pix.length w h s, .vec .u8 pix 5])
    (e : Env) (g1 : e.get 1 = .iface t (.ptr 2 0)) (g7 : e.get 7 = .ptr 5 0) (g8 : e.get 8 = .ptr 6 0) (g14 : e.get 14 = .int .i64 (if gray then 1 else 3)) :
    VWp C 5 [1] c17c e (LG2 T s w h pix O K (List.replicate 16 0) 0 0 []) (fnPost 5 [.tmp 6] fun v M' => v = .nili ∧ M' = [.own [.vec 1 (E.2 ++ [255, 217]).length] 55, .vec .u8 (E.2 ++ [255, 217]) 5, imgB T 3 pix.length w h s, .vec .u8 pix 5, O]) := by
  have hsl : ∀ o, vslice 16 1 none (some (.int .i64 2)) none (.ptr 6 o) = some (.slice 6 o 2 16) := fun _ => rfl
  have cb : ∀ (buf : List Int) (bits nb : Int), cellB (some (encBlkG 0 7 8 9 10 K buf bits nb)) 1 = some .nili := fun _ _ _ => rfl
  have ao : rangeB (some (.own (imgR w h) 89)) 0 4 = some (.agg (imgR w h)) := rfl
  have hb0 : (List.replicate 16 (0 : Int)).length = 16 := rfl
  generalize List.replicate 16 (0 : Int) = buf at hb0 ⊢
  have gs : ∀ (buf : List Int) (bits nb : Int) (bytes : List Int), (LG2 T s w h pix O K buf bits nb bytes)[6]? = some (encBlkG 0 7 8 9 10 K buf bits nb) := fun _ _ _ _ => rfl
  have gr : ∀ (buf : List Int) (bits nb : Int) (bytes : List Int), (LG2 T s w h pix O K buf bits nb bytes)[5]? = some (.own (imgR w h) 89) := fun _ _ _ _ => rfl
  have gset : ∀ (buf buf' : List Int) (bits nb : Int) (bytes : List Int), (LG2 T s w h pix O K buf bits nb bytes).set 6 (encBlkG 0 7 8 9 10 K buf' bits nb) = LG2 T s w h pix O K buf' bits nb bytes := fun _ _ _ _ _ => rfl
  have p0 : ∀ (buf : List Int) (hb : buf.length = 16) (bits nb : Int) (bytes : List Int) (v : Int), putB (LG2 T s w h pix O K buf bits nb bytes) 6 2 (.int .u8 v) (some (encBlkG 0 7 8 9 10 K buf bits nb)) = some (.undef, LG2 T s w h pix O K (buf.set 0 v) bits nb bytes) := fun buf hb bits nb bytes v => by
    rw [putB_bufG hb 2 (by omega) (by omega), gset]
  have p1 : ∀ (buf : List Int) (hb : buf.length = 16) (bits nb : Int) (bytes : List Int) (v : Int), putB (LG2 T s w h pix O K buf bits nb bytes) 6 3 (.int .u8 v) (some (encBlkG 0 7 8 9 10 K buf bits nb)) = some (.undef, LG2 T s w h pix O K (buf.set 1 v) bits nb bytes) := fun buf hb bits nb bytes v => by
    rw [putB_bufG hb 3 (by omega) (by omega), gset]
  have s0 : ∀ (buf : List Int), buf.length = 16 → ∀ v, (buf.set 0 v).length = 16 := fun buf hb v => by simp [hb]
  have s1 : ∀ (buf : List Int), buf.length = 16 → ∀ u v, ((buf.set 0 u).set 1 v).length = 16 := fun buf hb u v => by simp [hb]
  have wr : ∀ (buf : List Int) (hb : buf.length = 16) (bits nb : Int) (bytes : List Int) (u v : Int), bytes.length ≤ 14000000 →
      VCalls C 42 [.ptr 0 0, .slice 0 2 2 16] (encM K ((buf.set 0 u).set 1 v) bits nb bytes) [2] fun v' M' => v' = .tup [] ∧ M' = encM K ((buf.set 0 u).set 1 v) bits nb (bytes ++ [u, v]) := fun buf hb bits nb bytes u v hl => by
    have := own_buf (K := K) (bits := bits) (nb := nb) 2 (by omega) (s1 buf hb u v)
    rw [set2_take hb] at this
    exact write_own C hP K _ (s1 buf hb u v) bits nb bytes 2 2 16 [u, v] rfl this (by simp; omega)
  have hKq := K.hq
  have hq64 : (K.q.take 64).length = 64 := by rw [List.length_take, K.hq]; omega
  have hd64 : (K.q.drop 64).length = 64 := by rw [List.length_drop, K.hq]
  simp -implicitDefEqProofs only [vms, ↓reduceIte, Nat.reduceEqDiff, Nat.reduceAdd, Int.reduceToNat, Int.reduceLE, Nat.reduceLT, vidxA_lit, Nat.reduceMul, c17c, g8, gs, p0 buf hb0, p1 _ (s0 buf hb0 255), hsl]
  refine lg2_call T s w h pix O hO [1] (wr buf hb0 0 0 [] 255 216 (by simp)) (.inl ⟨rfl, rfl⟩) rfl rfl rfl ?_
  have hb1 := s1 buf hb0 255 216
  generalize (buf.set 0 255).set 1 216 = buf1 at hb1 ⊢
  simp -implicitDefEqProofs only [vms, ↓reduceIte, Nat.reduceEqDiff, callC, Nat.reduceBEq, g1, g7, g14]
  refine lg2_call T s w h pix O hO [1] (dqt_spec C hP K buf1 hb1 0 0 _ (by simp)) (.inl ⟨rfl, rfl⟩) rfl rfl rfl ?_
  have hb2 : (bufMH buf1 219 132).length = 16 := by simp [bufMH, hb1]
  generalize bufMH buf1 219 132 = buf2 at hb2 ⊢
  simp -implicitDefEqProofs only [vms, ↓reduceIte, Nat.reduceEqDiff, callC, Nat.reduceBEq]
  refine callK_new (size45_spec w h hP hw.2 hh.2) rfl rfl (.agg [.int .i64 w, .int .i64 h]) [] rfl rfl ?_
  rw [List.append_nil]
  simp -implicitDefEqProofs only [vms, ↓reduceIte, Nat.reduceEqDiff]
  have hn13 : (if gray then 1 else 3 : Int) = 1 ∨ (if gray then 1 else 3 : Int) = 3 := by cases gray <;> simp
  have hsl := sof_len w h (if gray then 1 else 3) hn13
  refine lg2_call T s w h pix O hO [1] (sof0_spec C hP K buf2 hb2 0 0 _ w h (by omega) (by omega) (if gray then 1 else 3) hn13 (by simp; omega)) (.inl ⟨rfl, rfl⟩) rfl rfl rfl ?_
  have hb3 : (bufSOF buf2 w h (if gray then 1 else 3)).length = 16 := by simp [bufSOF]; omega
  generalize bufSOF buf2 w h (if gray then 1 else 3) = buf3 at hb3 ⊢
  simp -implicitDefEqProofs only [vms, ↓reduceIte, Nat.reduceEqDiff, callC, Nat.reduceBEq]
  refine lg2_call T s w h pix O hO [1] (dht_any C hP K buf3 hb3 0 0 _ (by simp; omega) gray) (.inl ⟨rfl, rfl⟩) rfl rfl rfl ?_
  have hb4 : (bufMH buf3 196 (if gray then 210 else 418)).length = 16 := by simp [bufMH, hb3]
  generalize bufMH buf3 196 (if gray then 210 else 418) = buf4 at hb4 ⊢
  simp -implicitDefEqProofs only [vms, ↓reduceIte, Nat.reduceEqDiff, callC, Nat.reduceBEq]
  have hso := hsos buf4 hb4
  rw [encP_nil] at hso
  refine lg2_sos T s w h pix O hO hso rfl rfl rfl ?_
  generalize ((val E.1 * 2 ^ (32 - E.1.length) : Nat) : Int) = bits
  generalize ((E.1.length : Nat) : Int) = nb
  simp -implicitDefEqProofs only [vms, ↓reduceIte, Nat.reduceEqDiff, Nat.reduceAdd, Int.reduceToNat, Int.reduceLE, callC, Nat.reduceBEq, Nat.reduceLT, vidxA_lit, Nat.reduceMul, gs, p0 _ hb4, p1 _ (s0 _ hb4 255)]
  refine lg2_call T s w h pix O hO [1] (wr buf4 hb4 bits nb E.2 255 217 (by omega)) (.inl ⟨rfl, rfl⟩) rfl rfl rfl ?_
  have hb5 := s1 buf4 hb4 255 217
  generalize (buf4.set 0 255).set 1 217 = buf5 at hb5 ⊢
  simp -implicitDefEqProofs only [vms, ↓reduceIte, Nat.reduceEqDiff, reduceCtorEq, Int.reduceToNat, Nat.reduceBEq, Nat.reduceMul, Nat.reduceSub]
  refine lg2_call T s w h pix O hO [] (flush_spec C hP K buf5 hb5 bits nb _) (.inr ⟨rfl, rfl⟩) rfl rfl rfl ?_
  simp -implicitDefEqProofs only [vms, ↓reduceIte, Nat.reduceEqDiff, callC, gs, cb]
  show retGo 5 (some .nili) _ _
  refine retGo_take 5 (Nat.le_refl _) (by simp [LG2]) rfl ?_ ⟨rfl, rfl⟩
  simp only [memCl, LG2, List.take_succ_cons, List.take_zero, List.all_cons, List.all_nil, hO]
  rfl

def LQ2 (q : List Int) : Mem :=
  [.own [.vec 1 0] 55, .vec .u8 [] 5, imgB T 3 pix.length w h s, .vec .u8 pix 5, O, .own (imgR w h) 89, blk2 7 8 9 10 q, .vec .u32 lutL0 43, .vec .u32 lutL1 43, .vec .u32 lutL2 43, .vec .u32 lutL3 43]

set_option maxHeartbeats 2000000 in
theorem enc17_n2 (hP : C.P = Tryd.prog) (hO : O.refs = []) (hw : 0 < w ∧ w ≤ 40) (hh : 0 < h ∧ h ≤ 40) (K : EncK) (hKt : K.l0 = lutL0 ∧ K.l1 = lutL1 ∧ K.l2 = lutL2 ∧ K.l3 = lutL3) (t fn : Nat) (gray : Bool) (ht : (t = 91 ∧ fn = 67 ∧ gray = true) ∨ (t = 95 ∧ fn = 73 ∧ gray = false)) (E : List Bool × List Int) (hE : E.1.length < 8) (hEl : E.2.length ≤ 13000000)
    (hsos : ∀ buf : List Int, buf.length = 16 → VCalls C 47 [.ptr 0 0, .iface t (.ptr 7 0)] (encP K buf [] (jpgHd0 w h gray K.q) ++ [imgB T 8 pix.length w h s, .vec .u8 pix 5]) [2] fun v M' => v = .tup [] ∧ M' = encP K buf E.1 E.2 ++ [imgB T 8 pix.length w h s, .vec .u8 pix 5])
    (e : Env) (g1 : e.get 1 = .iface t (.ptr 2 0)) (g7 : e.get 7 = .ptr 5 0) (g8 : e.get 8 = .ptr 6 0) :
    VWp C 5 [1] c17n e (LG2 T s w h pix O K (List.replicate 16 0) 0 0 []) (fnPost 5 [.tmp 6] fun v M' => v = .nili ∧ M' = [.own [.vec 1 (E.2 ++ [255, 217]).length] 55, .vec .u8 (E.2 ++ [255, 217]) 5, imgB T 3 pix.length w h s, .vec .u8 pix 5, O]) := by
  have n3 : ((3 : Nat) : Int) = 3 := rfl
  rcases ht with ⟨rfl, rfl, rfl⟩ | ⟨rfl, rfl, rfl⟩
  all_goals
    have f95 : vtas 91 .nilp (.iface 95 (.ptr 2 0)) = some (.tup [.nilp, .bool false]) := rfl
    have f99 : vtas 91 .nilp (.iface 99 (.ptr 2 0)) = some (.tup [.nilp, .bool false]) := rfl
    have t1 : tupGo 1 (.tup [.nilp, .bool false]) = some (.bool false) := rfl
    have t0 : tupGo 0 (.tup [.nilp, .bool false]) = some .nilp := rfl
    have u1 : tupGo 1 (.tup [.ptr 2 0, .bool true]) = some (.bool true) := rfl
    have u0 : tupGo 0 (.tup [.ptr 2 0, .bool true]) = some (.ptr 2 0) := rfl
    simp -implicitDefEqProofs only [vms, ↓reduceIte, Nat.reduceEqDiff, c17n, g1, g7, g8, f95, t1, t0, u1, u0]
    refine enc17_tail2 T s w h pix O hP hO hw hh K hKt _ _ E hE hEl hsos _ ?_ ?_ ?_ ?_ <;> simp -implicitDefEqProofs only [vms, ↓reduceIte, Nat.reduceEqDiff]

set_option maxHeartbeats 2000000 in
theorem enc17_b2 (hG : GlobQ C) (hP : C.P = Tryd.prog) (hO : O.refs = []) (hw : 0 < w ∧ w ≤ 40) (hh : 0 < h ∧ h ≤ 40) (K : EncK) (hKt : K.l0 = lutL0 ∧ K.l1 = lutL1 ∧ K.l2 = lutL2 ∧ K.l3 = lutL3) (t fn : Nat) (gray : Bool) (ht : (t = 91 ∧ fn = 67 ∧ gray = true) ∨ (t = 95 ∧ fn = 73 ∧ gray = false)) (E : List Bool × List Int) (hE : E.1.length < 8) (hEl : E.2.length ≤ 13000000)
    (hsos : ∀ buf : List Int, buf.length = 16 → VCalls C 47 [.ptr 0 0, .iface t (.ptr 7 0)] (encP K buf [] (jpgHd0 w h gray K.q) ++ [imgB T 8 pix.length w h s, .vec .u8 pix 5]) [2] fun v M' => v = .tup [] ∧ M' = encP K buf E.1 E.2 ++ [imgB T 8 pix.length w h s, .vec .u8 pix 5])
    (q : Int) (h1 : 1 ≤ q) (h2 : q ≤ 100) (hKq : K.q = scaledL false q ++ scaledL true q)
    (e : Env) (g1 : e.get 1 = .iface t (.ptr 2 0)) (g7 : e.get 7 = .ptr 5 0) (g8 : e.get 8 = .ptr 6 0) (g9 : e.get 9 = .int .i64 q) :
    VWp C 5 [1] c17b e (LQ2 T s w h pix O (List.replicate 128 0)) (fnPost 5 [.tmp 6] fun v M' => v = .nili ∧ M' = [.own [.vec 1 (E.2 ++ [255, 217]).length] 55, .vec .u8 (E.2 ++ [255, 217]) 5, imgB T 3 pix.length w h s, .vec .u8 pix 5, O]) := by
  have w1 : IntKind.i64.wrap (q * 2) = q * 2 := wrap_i64_id (by omega) (by omega)
  have w2 : IntKind.i64.wrap (200 - q * 2) = 200 - q * 2 := wrap_i64_id (by omega) (by omega)
  have w3 : vbin .quo (.int .i64 5000) (.int .i64 q) = some (.int .i64 (5000 / q)) := by
    have := Int.ediv_nonneg (a := 5000) (b := q) (by omega) (by omega)
    have := Int.ediv_le_self (b := q) (a := 5000) (by omega)
    rw [vbin_quo (by omega), Int.tdiv_eq_ediv_of_nonneg (by omega), wrap_i64_id (by omega) (by omega)]
  have hKe : K = encK (scaledL false q ++ scaledL true q) (by rw [← hKq]; exact K.hq) := by
    obtain ⟨q', a0, a1, a2, a3, hq'⟩ := K
    obtain ⟨k0, k1, k2, k3⟩ := hKt
    simp only at k0 k1 k2 k3 hKq
    subst k0 k1 k2 k3 hKq
    rfl
  have hLQ : LQ2 T s w h pix O (scaledL false q ++ scaledL true q) = LG2 T s w h pix O K (List.replicate 16 0) 0 0 [] := by
    rw [hKe]
    simp only [LQ2, LG2, blk2_eq 7 8 9 10 _ (show (scaledL false q ++ scaledL true q).length = 128 by rw [← hKq]; exact K.hq)]
    rfl
  by_cases hq : q < 50
  all_goals
    have hd : decide (q < 50) = if q < 50 then true else false := by split <;> simp_all
    have hby : byQ q = if q < 50 then 5000 / q else 200 - q * 2 := by unfold byQ; split <;> omega
    first
      | rw [if_pos hq] at hd hby
      | rw [if_neg hq] at hd hby
    simp -implicitDefEqProofs only [vms, ↓reduceIte, Nat.reduceEqDiff, c17b, g1, g7, g8, g9, hd, w1, w2, w3]
    rw [← hby]
    apply VWp_loop_of (k := 3)
    have := fun Q => quant_out (C := C) 5 [1] (LQ2 T s w h pix O) 6 blk2h ([.vec 7 12, .vec 8 251, .vec 9 12, .vec 10 251]) hG (fun _ => rfl) (fun _ _ => rfl) blk2h_len q h1 h2 Q 2 0
    rw [Nat.mul_zero, cur_zero] at this
    refine this _ _ rfl ?_ ?_ ?_ ?_ <;> simp -implicitDefEqProofs only [vms, ↓reduceIte, Nat.reduceEqDiff, natCast_lit]
    intro e2 b1 b7 b8
    simp -implicitDefEqProofs only [hLQ]
    refine enc17_n2 T s w h pix O hP hO hw hh K hKt t fn gray ht E hE hEl hsos _ ?_ ?_ ?_ <;> simp -implicitDefEqProofs only [b1, b7, b8]

def EM2 (bytes : List Int) : Mem := [.own [.vec 1 bytes.length] 55, .vec .u8 bytes 5, imgB T 3 pix.length w h s, .vec .u8 pix 5, O]
theorem EM2_cl (bytes : List Int) (hO : O.refs = []) : memCl (EM2 T s w h pix O bytes).length (EM2 T s w h pix O bytes) = true := by
  simp only [memCl, EM2, List.all_cons, List.all_nil, hO]
  rfl

set_option maxHeartbeats 2000000 in
theorem enc17_a2 (hG : GlobQ C) (hP : C.P = Tryd.prog) (hO : O.refs = []) (hw : 0 < w ∧ w ≤ 40) (hh : 0 < h ∧ h ≤ 40) (K : EncK) (hKt : K.l0 = lutL0 ∧ K.l1 = lutL1 ∧ K.l2 = lutL2 ∧ K.l3 = lutL3) (t fn : Nat) (gray : Bool) (ht : (t = 91 ∧ fn = 67 ∧ gray = true) ∨ (t = 95 ∧ fn = 73 ∧ gray = false)) (E : List Bool × List Int) (hE : E.1.length < 8) (hEl : E.2.length ≤ 13000000)
    (hsos : ∀ buf : List Int, buf.length = 16 → VCalls C 47 [.ptr 0 0, .iface t (.ptr 7 0)] (encP K buf [] (jpgHd0 w h gray K.q) ++ [imgB T 8 pix.length w h s, .vec .u8 pix 5]) [2] fun v M' => v = .tup [] ∧ M' = encP K buf E.1 E.2 ++ [imgB T 8 pix.length w h s, .vec .u8 pix 5])
    (q : Int) (h1 : 1 ≤ q) (h2 : q ≤ 100) (hKq : K.q = scaledL false q ++ scaledL true q) (o : V) (ho : (o = .nilp ∧ q = 75) ∨ (∃ q0 : Int, o = .ptr 4 0 ∧ O = .own [.int .i64 q0] 52 ∧ q = qcl q0))
    (e : Env) (g0 : e.get 0 = .iface 53 (.ptr 0 0)) (g1 : e.get 1 = .iface t (.ptr 2 0)) (g2 : e.get 2 = o) (g7 : e.get 7 = .ptr 5 0) :
    VWp C 5 [1] c17a e (EM2 T s w h pix O [] ++ [.own (imgR w h) 89]) (fnPost 5 [.tmp 6] fun v M' => v = .nili ∧ M' = [.own [.vec 1 (E.2 ++ [255, 217]).length] 55, .vec .u8 (E.2 ++ [255, 217]) 5, imgB T 3 pix.length w h s, .vec .u8 pix 5, O]) := by
  have e1 : EM2 T s w h pix O [] ++ [.own (imgR w h) 89] = [.own [.vec 1 0] 55, .vec .u8 [] 5, imgB T 3 pix.length w h s, .vec .u8 pix 5, O, .own (imgR w h) 89] := rfl
  have e2 : ([.vec .u32 lutL0 43, .vec .u32 lutL1 43, .vec .u32 lutL2 43, .vec .u32 lutL3 43] : Mem).map (Blk.ren (([.own [.vec 1 0] 55, .vec .u8 [] 5, imgB T 3 pix.length w h s, .vec .u8 pix 5, O, .own (imgR w h) 89, blk0] : Mem).length + ·)) = [.vec .u32 lutL0 43, .vec .u32 lutL1 43, .vec .u32 lutL2 43, .vec .u32 lutL3 43] := rfl
  have sl : ∀ N : Mem, N[6]? = some blk0 → stGo N 4 (.agg [.vec 7 12, .vec 8 251, .vec 9 12, .vec 10 251]) (.ptr 6 148) = some (.undef, N.set 6 (blk1 7 8 9 10)) := fun N h => st_lut h
  have tail : ∀ e : Env, e.get 1 = .iface t (.ptr 2 0) → e.get 2 = o → e.get 7 = .ptr 5 0 → e.get 8 = .ptr 6 0 → VWp C 5 [1] c17q e (LQ2 T s w h pix O (List.replicate 128 0)) (fnPost 5 [.tmp 6] fun v M' => v = .nili ∧ M' = [.own [.vec 1 (E.2 ++ [255, 217]).length] 55, .vec .u8 (E.2 ++ [255, 217]) 5, imgB T 3 pix.length w h s, .vec .u8 pix 5, O]) := by
    intro e g1 g2 g7 g8
    have fin : ∀ e : Env, e.get 1 = .iface t (.ptr 2 0) → e.get 7 = .ptr 5 0 → e.get 8 = .ptr 6 0 → e.get 9 = .int .i64 q → VWp C 5 [1] c17b e (LQ2 T s w h pix O (List.replicate 128 0)) (fnPost 5 [.tmp 6] fun v M' => v = .nili ∧ M' = [.own [.vec 1 (E.2 ++ [255, 217]).length] 55, .vec .u8 (E.2 ++ [255, 217]) 5, imgB T 3 pix.length w h s, .vec .u8 pix 5, O]) := fun e a1 a7 a8 a9 =>
      enc17_b2 T s w h pix O hG hP hO hw hh K hKt t fn gray ht E hE hEl hsos q h1 h2 hKq e a1 a7 a8 a9
    rcases ho with ⟨rfl, rfl⟩ | ⟨q0, rfl, rfl, hq0⟩
    · simp -implicitDefEqProofs only [vms, ↓reduceIte, Nat.reduceEqDiff, c17q, g1, g2, g7, g8]
      refine fin _ ?_ ?_ ?_ ?_ <;> simp -implicitDefEqProofs only [vms, ↓reduceIte, Nat.reduceEqDiff]
    · have gO : (LQ2 T s w h pix (.own [.int .i64 q0] 52) (List.replicate 128 0))[4]? = some (.own [.int .i64 q0] 52) := rfl
      unfold qcl at hq0
      by_cases hx1 : q0 < 1
      · have hd1 : decide (q0 < 1) = true := by simpa using hx1
        rw [if_pos hx1] at hq0
        subst hq0
        simp -implicitDefEqProofs only [vms, ↓reduceIte, Nat.reduceEqDiff, c17q, g1, g2, g7, g8, gO, hd1]
        refine fin _ ?_ ?_ ?_ ?_ <;> simp -implicitDefEqProofs only [vms, ↓reduceIte, Nat.reduceEqDiff]
      · have hd1 : decide (q0 < 1) = false := by simpa using hx1
        rw [if_neg hx1] at hq0
        by_cases hx2 : 100 < q0
        · have hd2 : decide (q0 > 100) = true := by simpa using hx2
          rw [if_pos hx2] at hq0
          subst hq0
          simp -implicitDefEqProofs only [vms, ↓reduceIte, Nat.reduceEqDiff, c17q, g1, g2, g7, g8, gO, hd1, hd2]
          refine fin _ ?_ ?_ ?_ ?_ <;> simp -implicitDefEqProofs only [vms, ↓reduceIte, Nat.reduceEqDiff]
        · have hd2 : decide (q0 > 100) = false := by simp; omega
          rw [if_neg hx2] at hq0
          subst hq0
          simp -implicitDefEqProofs only [vms, ↓reduceIte, Nat.reduceEqDiff, c17q, g1, g2, g7, g8, gO, hd1, hd2]
          refine fin _ ?_ ?_ ?_ ?_ <;> simp -implicitDefEqProofs only [vms, ↓reduceIte, Nat.reduceEqDiff]
  rw [e1]
  simp -implicitDefEqProofs only [vms, ↓reduceIte, Nat.reduceEqDiff, Nat.reduceAdd, reduceCtorEq, c17a, g0, g1, g2, g7]
  refine callK_new (lut_spec C hP) rfl rfl (.agg [.vec 7 12, .vec 8 251, .vec 9 12, .vec 10 251]) [.vec .u32 lutL0 43, .vec .u32 lutL1 43, .vec .u32 lutL2 43, .vec .u32 lutL3 43] rfl rfl ?_
  simp -implicitDefEqProofs only [vms, ↓reduceIte, Nat.reduceEqDiff, reduceCtorEq, callC, sl]
  simp -implicitDefEqProofs only [vms, ↓reduceIte, Nat.reduceEqDiff, reduceCtorEq, st_w]
  refine tail _ ?_ ?_ ?_ ?_ <;> simp -implicitDefEqProofs only [vms, ↓reduceIte, Nat.reduceEqDiff]

set_option maxHeartbeats 2000000 in
theorem enc17_2 (hG : GlobQ C) (hP : C.P = Tryd.prog) (hO : O.refs = []) (hw : 0 < w ∧ w ≤ 40) (hh : 0 < h ∧ h ≤ 40) (K : EncK) (hKt : K.l0 = lutL0 ∧ K.l1 = lutL1 ∧ K.l2 = lutL2 ∧ K.l3 = lutL3) (t fn : Nat) (gray : Bool) (ht : (t = 91 ∧ fn = 67 ∧ gray = true) ∨ (t = 95 ∧ fn = 73 ∧ gray = false)) (E : List Bool × List Int) (hE : E.1.length < 8) (hEl : E.2.length ≤ 13000000)
    (hsos : ∀ buf : List Int, buf.length = 16 → VCalls C 47 [.ptr 0 0, .iface t (.ptr 7 0)] (encP K buf [] (jpgHd0 w h gray K.q) ++ [imgB T 8 pix.length w h s, .vec .u8 pix 5]) [2] fun v M' => v = .tup [] ∧ M' = encP K buf E.1 E.2 ++ [imgB T 8 pix.length w h s, .vec .u8 pix 5])
    (q : Int) (h1 : 1 ≤ q) (h2 : q ≤ 100) (hKq : K.q = scaledL false q ++ scaledL true q) (o : V) (ho : (o = .nilp ∧ q = 75) ∨ (∃ q0 : Int, o = .ptr 4 0 ∧ O = .own [.int .i64 q0] 52 ∧ q = qcl q0)) :
    VCalls C 17 [.iface 53 (.ptr 0 0), .iface t (.ptr 2 0), o] (EM2 T s w h pix O []) [1] fun v M' => v = .nili ∧ M' = EM2 T s w h pix O (E.2 ++ [255, 217]) := by
  refine VCalls.of_fn (hs := kz c17) (F := F17) (by rw [hP]; exact is17) (by simp [F17]) ?_
  have hcl := EM2_cl T s w h pix O [] hO
  have ao : ((imgR w h).all V.one) = true := rfl
  have il : (imgR w h).length = 4 := rfl
  have hdw : decide ((w : Int) ≥ 65536) = false := by simp; omega
  have hdh : decide ((h : Int) ≥ 65536) = false := by simp; omega
  have lE : (EM2 T s w h pix O []).length = 5 := rfl
  have hst : stGo (EM2 T s w h pix O [] ++ [Blk.own [.int .i64 0, .int .i64 0, .int .i64 0, .int .i64 0] 89]) 4 (.agg (imgR w h)) (.ptr 5 0) = some (.undef, EM2 T s w h pix O [] ++ [.own (imgR w h) 89]) := by
    rw [stGo_agg (n := 4) (vs := imgR w h) (T := 89) (cs := [.int .i64 0, .int .i64 0, .int .i64 0, .int .i64 0]) rfl (by decide) rfl rfl rfl]
    rfl
  have gr : (EM2 T s w h pix O [] ++ [.own (imgR w h) 89])[5]? = some (.own (imgR w h) 89) := rfl
  have hran : rangeB (some (.own (imgR w h) 89)) 0 4 = some (.agg (imgR w h)) := rfl
  have fin := enc17_a2 T s w h pix O hG hP hO hw hh K hKt t fn gray ht E hE hEl hsos q h1 h2 hKq o ho
  have fk : ∀ o', ((o' = .nilp ∧ q = 75) ∨ (∃ q0 : Int, o' = .ptr 4 0 ∧ O = .own [.int .i64 q0] 52 ∧ q = qcl q0)) → V.known o' = true := by rintro o' (⟨rfl, -⟩ | ⟨_, rfl, -⟩) <;> rfl
  have ok := fk o ho
  clear hsos fk
  rcases ht with ⟨rfl, rfl, rfl⟩ | ⟨rfl, rfl, rfl⟩
  all_goals
    simp -implicitDefEqProofs only [vms, ↓reduceIte, Nat.reduceEqDiff, Nat.reduceAdd, reduceCtorEq, F17, c17_eq, hP, methB91, methB95, call67, call73]
    refine ⟨rfl, ?_⟩
    refine callK_of [] rfl (by simp) (bounds1 C w h hP _ (by simp) _ hcl T 3 pix.length s 2 rfl) ?_
    rintro _ _ ⟨rfl, rfl⟩
    simp -implicitDefEqProofs only [vms, ↓reduceIte, Nat.reduceEqDiff, reduceCtorEq, callC, lE, hst]
    refine callK_new (dx_spec w h hP hw.2) rfl rfl (.int .i64 w) [] rfl rfl ?_
    rw [List.append_nil]
    simp -implicitDefEqProofs only [vms, ↓reduceIte, Nat.reduceEqDiff, reduceCtorEq, hdw]
    refine callK_new (dy_spec w h hP hh.2) rfl rfl (.int .i64 h) [] rfl rfl ?_
    rw [List.append_nil]
    simp -implicitDefEqProofs only [vms, ↓reduceIte, Nat.reduceEqDiff, reduceCtorEq, hdh]
    refine fin _ ?_ ?_ ?_ ?_ <;> simp -implicitDefEqProofs only [vms, ↓reduceIte, Nat.reduceEqDiff, reduceCtorEq]

end
end Go.VM
end
