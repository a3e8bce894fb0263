/-
  A part of a machine over the model and of a walk by it, proved right against the model; proved outright, under no condition but what each theorem names.
-/
import Derived.Test.YtahmhofnilgfgaaDoorVWtoBB
import Derived.Test.YtahmhofnilgfgaaDoorEA
set_option linter.unusedVariables false
set_option linter.unusedSimpArgs false
section
set_option linter.unusedSimpArgs false
namespace Go.VM
open Go Go.Proofs Go.Bits

/-- what the program's own tables hold: how many bits a byte has -/
structure GlobB (C : Ctx) : Prop where
  bc : ∀ j, j < 256 → C.ext ⟨2, j, none⟩ = some (.int .u8 (blen j : Nat))

theorem or_nibbles : ((List.range 16).all fun r => (List.range 16).all fun k => decide (bits .or .i32 ((r * 16 : Nat) : Int) ((k : Nat) : Int) = ((r * 16 + k : Nat) : Int))) = true := by kernel_rfl

theorem or_i32 (r k : Nat) (hr : r < 16) (hk : k < 16) : bits .or .i32 ((r * 16 : Nat) : Int) (k : Int) = ((r * 16 + k : Nat) : Int) := by
  have h := List.all_eq_true.1 or_nibbles r (by simpa using hr)
  simpa using List.all_eq_true.1 h k (by simpa using hk)

/-- the mask of the lowest bits -/
theorem mask_u32 (x : Int) (k : Nat) (hk : k ≤ 16) (h1 : -65536 ≤ x) (h2 : x ≤ 65536) : bits .and .u32 (IntKind.u32.wrap x) (IntKind.u32.wrap (IntKind.u32.wrap (1 * 2 ^ k) - 1)) = ((x % 2 ^ k).toNat : Int) := by
  have hp : (2 : Nat) ^ k ≤ 2 ^ 16 := Nat.pow_le_pow_right (by omega) hk
  have hpos : 0 < (2 : Nat) ^ k := Nat.pow_pos (by decide)
  have e1 : IntKind.u32.wrap (IntKind.u32.wrap (1 * 2 ^ k) - 1) = ((2 ^ k - 1 : Nat) : Int) := by
    have : (1 : Int) * 2 ^ k = ((2 ^ k : Nat) : Int) := by simp
    rw [this, wrap_u32_id (x := ((2 ^ k : Nat) : Int)) (by omega) (by omega), wrap_u32_id (by omega) (by omega)]
    omega
  obtain ⟨y, hy⟩ : ∃ y : Nat, IntKind.u32.wrap x = (y : Int) := ⟨(IntKind.u32.wrap x).toNat, by have := wrap_u32_range x; omega⟩
  have hyr := wrap_u32_range x
  have hyx : (y : Int) = x % 4294967296 := by rw [← hy]; simp [IntKind.wrap, IntKind.bits, IntKind.signed]
  rw [hy] at hyr
  rw [e1, hy, Go.u32_and_nat _ _ (by omega) (by omega), Nat.and_two_pow_sub_one_eq_mod]
  have hdvd : ((2 ^ k : Nat) : Int) ∣ 4294967296 := by
    have : (2 : Nat) ^ k ∣ 2 ^ 32 := Nat.pow_dvd_pow 2 (by omega)
    exact Int.natCast_dvd_natCast.2 this
  have e2 : x % ((2 ^ k : Nat) : Int) = ((y % 2 ^ k : Nat) : Int) := by
    rw [Int.natCast_emod, hyx, Int.emod_emod_of_dvd _ hdvd]
  have e3 : (2 : Int) ^ k = ((2 ^ k : Nat) : Int) := by simp
  rw [e3, e2]
  rfl

theorem emitHuffRLE_spec (C : Ctx) (hP : C.P = Tryd.prog) (hG : GlobB C) (K : EncK) (buf : List Int) (hb : buf.length = 16) (p : List Bool) (hp : p.length < 8) (out : List Int) (ho : out.length ≤ 13000000) (h : Nat) (hh : h < 4) (run : Nat) (hrun : run < 16)
    (n : Int) (hn1 : -32767 ≤ n) (hn2 : n ≤ 32767) (code wide : Nat) (hv : (K.tab h)[run * 16 + blen n.natAbs]? = some ((code + 16777216 * wide : Nat) : Int)) (hw : wide ≤ 16) (hc : code < 2 ^ wide) :
    VCalls C 71 [.ptr 0 0, .int .i64 h, .int .i32 run, .int .i32 n] (encP K buf p out) [2]
      (fun u M' => u = .tup [] ∧ M' = encP K buf (feed (p, out) (bitsOf code wide ++ bitsOf (codedN n) (blen n.natAbs))).1 (feed (p, out) (bitsOf code wide ++ bitsOf (codedN n) (blen n.natAbs))).2) := by
  refine VCalls.of_fn (hs := kz c71) (F := F71) (by rw [hP]; exact is71) (by simp [F71]) ?_
  have hblen : blen n.natAbs ≤ 15 := blen_le (by omega)
  have hlt := lt_blen n.natAbs
  generalize hk : blen n.natAbs = k at hblen hlt hv ⊢
  have hneg : IntKind.i32.wrap (0 - n) = -n := by rw [wrap_i32_id (by omega) (by omega)]; omega
  have hsub : IntKind.i32.wrap (n - 1) = n - 1 := wrap_i32_id (by omega) (by omega)
  have hshl : vbin .shl (.int .i32 (run : Int)) (.int .u64 4) = some (.int .i32 ((run * 16 : Nat) : Int)) := by
    rw [vbin_shl_lit (by omega) (by decide)]
    congr 2
    show IntKind.i32.wrap ((run : Int) * 16) = _
    rw [wrap_i32_id (by omega) (by omega)]; omega
  have hor := or_i32 run k hrun (by omega)
  have hk32 : IntKind.u32.wrap ((k : Nat) : Int) = (k : Int) := wrap_u32_id (by omega) (by omega)
  have hki : IntKind.i32.wrap ((k : Nat) : Int) = (k : Int) := wrap_i32_id (by omega) (by omega)
  have hsl2 : vbin .shl (.int .u32 1) (.int .u32 (k : Int)) = some (.int .u32 (IntKind.u32.wrap (1 * 2 ^ k))) := by
    rw [vbin_shl_lit (by omega) (by simp [IntKind.bits]; omega)]; simp
  have hp2 : (2 : Nat) ^ k ≤ 2 ^ 15 := Nat.pow_le_pow_right (by omega) hblen
  have hcn : codedN n < 2 ^ k := by rw [← hk]; exact codedN_lt n
  have e2k : ((2 ^ k : Nat) : Int) = 2 ^ k := by simp
  have heh := emitHuff_spec C hP K buf hb p hp out (by omega) h hh (run * 16 + k) code wide hv hw hc
  -- what follows, once for all
  have tail : ∀ (b : Int) (e : Env) (Kf : VX → Env → Mem → Prop), -65536 ≤ b → b ≤ 65536 → (b % 2 ^ k).toNat = codedN n →
      e.get 0 = .ptr 0 0 → e.get 1 = .int .i64 h → e.get 2 = .int .i32 run → e.get 9 = .int .i32 b → e.get 10 = .int .u32 k →
      (∀ e' M', M' = encP K buf (feed (p, out) (bitsOf code wide ++ bitsOf (codedN n) k)).1 (feed (p, out) (bitsOf code wide ++ bitsOf (codedN n) k)).2 → Kf .normal e' M') →
      VWp C 7 [2] c71t e (encP K buf p out) Kf := by
    intro b e Kf hb1 hb2 hbc g0 g1 g2 g9 g10 hKf
    have hm := mask_u32 b k (by omega) hb1 hb2
    rw [hbc] at hm
    simp -implicitDefEqProofs only [vms, ↓reduceIte, Nat.reduceEqDiff, c71t, g0, g1, g2, g10, hshl, hki, hor]
    refine callK_of [2] rfl (by simp) heh ?_
    rintro _ _ ⟨rfl, rfl⟩
    have k0 : (e.erases [2]).get 0 = .ptr 0 0 := by rw [get_erases_eq, g0]; rfl
    have k9 : (e.erases [2]).get 9 = .int .i32 b := by rw [get_erases_eq, g9]; rfl
    have k10 : (e.erases [2]).get 10 = .int .u32 k := by rw [get_erases_eq, g10]; rfl
    by_cases hk0 : k = 0
    · subst hk0
      have hd : decide ((0 : Int) < ((0 : Nat) : Int)) = false := by decide
      simp -implicitDefEqProofs only [vms, ↓reduceIte, Nat.reduceEqDiff, reduceCtorEq, callC, Nat.reduceBEq, hd, k0, k9, k10]
      refine hKf _ _ ?_
      simp [bitsOf]
    · have hd : decide ((0 : Int) < (k : Int)) = true := by simp; omega
      simp -implicitDefEqProofs only [vms, ↓reduceIte, Nat.reduceEqDiff, reduceCtorEq, callC, Nat.reduceBEq, hd, hsl2, hm, k0, k9, k10]
      have hfl := feed_lt (bitsOf code wide) (s := (p, out)) hp
      have hol := feed_len (bitsOf code wide) (p, out)
      rw [bitsOf_length] at hol
      simp only at hol
      refine callK_of [2] rfl ?_ (emit_spec C hP K buf hb _ hfl (feed (p, out) (bitsOf code wide)).2 (by omega) (codedN n) k (by omega) hcn) ?_
      · intro b hb; exact .inr hb
      rintro _ _ ⟨rfl, rfl⟩
      simp -implicitDefEqProofs only [vms, ↓reduceIte, callC, Nat.reduceBEq]
      refine hKf _ _ ?_
      rw [feed_append]
  have bitc : ∀ (a : Nat), a < 256 → ∀ M, vidxA 256 1 (.raw (.pointer (some ⟨2, 0, none⟩))) (.int .i32 a) = some (.raw (.pointer (some ⟨2, a, none⟩))) ∧ vld C M (.raw (.pointer (some ⟨2, a, none⟩))) = some (.int .u8 (blen a : Nat)) := by
    intro a ha M
    refine ⟨?_, ?_⟩
    · rw [vidxA_raw (by omega) (by omega), Addr.add_lit]; simp
    · rw [vld_raw (hG.bc a ha)]; rfl
  have post : ∀ e' M', M' = encP K buf (feed (p, out) (bitsOf code wide ++ bitsOf (codedN n) k)).1 (feed (p, out) (bitsOf code wide ++ bitsOf (codedN n) k)).2 →
      fnPost 7 [] (fun u M' => u = V.tup [] ∧ M' = encP K buf (feed (p, out) (bitsOf code wide ++ bitsOf (codedN n) k)).1 (feed (p, out) (bitsOf code wide ++ bitsOf (codedN n) k)).2) .normal e' M' := by
    rintro e' _ rfl
    simp -implicitDefEqProofs only [vms, vres_nil]
    exact retGo_refl ⟨rfl, rfl⟩
  obtain ⟨a, ha⟩ : ∃ a : Nat, a = n.natAbs := ⟨_, rfl⟩
  rw [← ha] at hk hlt
  have hlM : (encP K buf p out).length = 7 := rfl
  simp -implicitDefEqProofs only [vms, ↓reduceIte, Nat.reduceEqDiff, Nat.reduceAdd, reduceCtorEq, F71, c71, hlM]
  apply condGo_dec <;> intro hn0
  · have e1 : -n = (a : Int) := by omega
    simp -implicitDefEqProofs only [vms, ↓reduceIte, Nat.reduceEqDiff, reduceCtorEq, hneg, hsub, e1]
    have hbc : ((n - 1) % 2 ^ k).toNat = codedN n := by
      have e3 : (n - 1) % ((2 ^ k : Nat) : Int) = n - 1 + ((2 ^ k : Nat) : Int) := by
        rw [← Int.add_emod_right, Int.emod_eq_of_lt (by omega) (by omega)]
      rw [← e2k, e3]
      unfold codedN
      rw [if_pos hn0, ← ha, hk, ← e2k]
      congr 1; omega
    apply condGo_dec <;> intro h256
    · have hbt := bitc a (Int.ofNat_lt.1 h256) (encP K buf p out)
      have i1 := hbt.1
      have i2 := hbt.2
      simp -implicitDefEqProofs only [vms, ↓reduceIte, Nat.reduceEqDiff, reduceCtorEq, i1, i2, hk, hk32]
      refine tail (n - 1) _ _ (by omega) (by omega) hbc ?_ ?_ ?_ ?_ ?_ post <;> rfl
    · obtain ⟨i1, i2⟩ := bitc (a / 256) (by omega) (encP K buf p out)
      have hdiv := blen_div a (by omega)
      have hb7 : blen (a / 256) ≤ 7 := blen_le (by omega)
      have hdv : ((a : Int) / 256) = ((a / 256 : Nat) : Int) := by omega
      have hw7 : IntKind.u32.wrap ((blen (a / 256) : Nat) : Int) = ((blen (a / 256) : Nat) : Int) := wrap_u32_id (by omega) (by omega)
      have hw8 : IntKind.u32.wrap (8 + ((blen (a / 256) : Nat) : Int)) = (k : Int) := by rw [wrap_u32_id (by omega) (by omega)]; omega
      simp -implicitDefEqProofs only [vms, ↓reduceIte, Nat.reduceEqDiff, reduceCtorEq, Nat.min_def, IntKind.bits, Nat.reduceLeDiff, Int.reducePow, Int.reduceToNat, Int.reduceLE, hdv, i1, i2, hw7, hw8]
      refine tail (n - 1) _ _ (by omega) (by omega) hbc ?_ ?_ ?_ ?_ ?_ post <;> rfl
  · have e1 : n = (a : Int) := by omega
    have hbc : (n % 2 ^ k).toNat = codedN n := by
      have e3 : n % ((2 ^ k : Nat) : Int) = n := Int.emod_eq_of_lt (by omega) (by omega)
      rw [← e2k, e3]
      unfold codedN
      rw [if_neg hn0]
    simp -implicitDefEqProofs only [vms, ↓reduceIte, Nat.reduceEqDiff, reduceCtorEq]
    have hlt256 : decide (n < 256) = decide ((a : Int) < 256) := by rw [e1]
    apply condGo_dec <;> intro h256
    · obtain ⟨i1, i2⟩ := bitc a (by omega) (encP K buf p out)
      rw [← e1] at i1
      simp -implicitDefEqProofs only [vms, ↓reduceIte, Nat.reduceEqDiff, reduceCtorEq, i1, i2, hk, hk32]
      refine tail n _ _ (by omega) (by omega) hbc ?_ ?_ ?_ ?_ ?_ post <;> rfl
    · obtain ⟨i1, i2⟩ := bitc (a / 256) (by omega) (encP K buf p out)
      have hdiv := blen_div a (by omega)
      have hb7 : blen (a / 256) ≤ 7 := blen_le (by omega)
      have hdv : (n / 256) = ((a / 256 : Nat) : Int) := by omega
      have hw7 : IntKind.u32.wrap ((blen (a / 256) : Nat) : Int) = ((blen (a / 256) : Nat) : Int) := wrap_u32_id (by omega) (by omega)
      have hw8 : IntKind.u32.wrap (8 + ((blen (a / 256) : Nat) : Int)) = (k : Int) := by rw [wrap_u32_id (by omega) (by omega)]; omega
      simp -implicitDefEqProofs only [vms, ↓reduceIte, Nat.reduceEqDiff, reduceCtorEq, Nat.min_def, IntKind.bits, Nat.reduceLeDiff, Int.reducePow, Int.reduceToNat, Int.reduceLE, hdv, i1, i2, hw7, hw8]
      refine tail n _ _ (by omega) (by omega) hbc ?_ ?_ ?_ ?_ ?_ post <;> rfl
end Go.VM
end

section
set_option linter.unusedSimpArgs false
namespace Go.VM
open Go Go.Proofs Go.Bits

theorem WriteR_spec (C : Ctx) (hP : C.P = Tryd.prog) (bytes : List Int) (R : Mem) (p : V) (ys : List Int) (hp : ∀ b, elems (zMem b ++ R) .u8 p = some ys) (hl : ∀ b, vlen (zMem b ++ R) p = some (.int .i64 ys.length))
    (hB : R.erase 1 = R) (hd : p.drops [1] = p) (ho : bytes.length + ys.length ≤ 16000000) :
    VCalls C 98 [.ptr 0 0, p] (zMem bytes ++ R) [1] (fun v M' => v = .tup [.int .i64 ys.length, .nili] ∧ M' = zMem (bytes ++ ys) ++ R) := by
  refine VCalls.of_fn (hs := kz c98) (F := F98) (by rw [hP]; exact is98) (by simp [F98]) ?_
  have hp0 := hp bytes
  have hl1 := hl (bytes ++ ys)
  simp only [zMem, List.cons_append, List.nil_append, List.length_append] at hp0 hl1
  simp -implicitDefEqProofs only [vms, ↓reduceIte, Nat.reduceEqDiff, Nat.reduceAdd, reduceCtorEq, F98, c98, zMem]
  refine app_of rfl rfl (.inr (by simp)) hp0 (by omega) ?_
  simp -implicitDefEqProofs only [vms, ↓reduceIte, Nat.reduceEqDiff, reduceCtorEq, callC, Nat.reduceBEq, hd, hB, hl1]
  show retGo _ (some (.tup [.int .i64 ys.length, .nili])) _ _
  exact retGo_refl ⟨rfl, by simp⟩

/-- the encoder's block under other numbers of what it names -/
def encBlkG (z a b c d : Nat) (K : EncK) (buf : List Int) (bits nb : Int) : Blk :=
  .own ([.iface 53 (.ptr z 0), .nili] ++ (intVs .u8 buf ++ ([.int .u32 bits, .int .u32 nb] ++ (intVs .u8 K.q ++ [.vec a K.l0.length, .vec b K.l1.length, .vec c K.l2.length, .vec d K.l3.length])))) 116

theorem renL_append (σ : Nat → Nat) (xs ys : List V) : V.renL σ (xs ++ ys) = V.renL σ xs ++ V.renL σ ys := by simp [V.renL_map]
theorem renL_ints (σ : Nat → Nat) (k : IntKind) (xs : List Int) : V.renL σ (intVs k xs) = intVs k xs := by
  simp only [V.renL_map, intVs, List.map_map]
  exact List.map_congr_left fun x _ => rfl

theorem encBlkG_ren (σ : Nat → Nat) (z a b c d : Nat) (K : EncK) (buf : List Int) (bits nb : Int) : (encBlkG z a b c d K buf bits nb).ren σ = encBlkG (σ z) (σ a) (σ b) (σ c) (σ d) K buf bits nb := by
  simp only [encBlkG, Blk.ren, renL_append, renL_ints]
  rfl

theorem encBlk_eq (K : EncK) (buf : List Int) (bits nb : Int) : encBlk K buf bits nb = encBlkG 1 3 4 5 6 K buf bits nb := rfl

theorem erase_intVs (b : Nat) (k : IntKind) (xs : List Int) : (intVs k xs).map (V.eraseB b) = intVs k xs := by
  simp only [intVs, List.map_map]
  exact List.map_congr_left fun x _ => rfl

theorem encBlkG_refs (z a b c d : Nat) (K : EncK) (buf : List Int) (bits nb : Int) : (encBlkG z a b c d K buf bits nb).refs = [z, a, b, c, d] := by
  have hi : ∀ (k : IntKind) (xs : List Int), V.refsL (intVs k xs) = [] := by
    intro k xs
    induction xs with
    | nil => rfl
    | cons x xs ih => simpa [intVs, V.refsL, V.refs] using ih
  have happ : ∀ xs ys : List V, V.refsL (xs ++ ys) = V.refsL xs ++ V.refsL ys := by
    intro xs ys
    induction xs with
    | nil => rfl
    | cons x xs ih => simp [V.refsL, ih]
  simp only [encBlkG, Blk.refs, happ, hi]
  rfl

/-- the encoder writes bytes that lie in its own block -/
theorem write_own (C : Ctx) (hP : C.P = Tryd.prog) (K : EncK) (buf : List Int) (hb : buf.length = 16) (bits nb : Int) (bytes : List Int) (o n c : Nat) (ys : List Int) (hn : n = ys.length)
    (hr : ∀ M : Mem, M[2]? = some (encBlkG 0 3 4 5 6 K buf bits nb) → M.range 2 o n = some (.agg (intVs .u8 ys))) (ho : bytes.length + ys.length ≤ 16000000) :
    VCalls C 42 [.ptr 0 0, .slice 0 o n c] (encM K buf bits nb bytes) [2] (fun v M' => v = .tup [] ∧ M' = encM K buf bits nb (bytes ++ ys)) := by
  refine VCalls.of_fn (hs := kz c42) (F := F42) (by rw [hP]; exact is42) (by simp [F42]) ?_
  have hints : ∀ (k : IntKind) (xs : List Int), vints k (intVs k xs) = some xs := by
    intro k xs
    induction xs with
    | nil => rfl
    | cons x xs ih => simp only [intVs, List.map_cons, vints, if_true] at ih ⊢; rw [ih]
  have hw := WriteR_spec C hP bytes [encBlkG 0 3 4 5 6 K buf bits nb, .vec .u32 K.l0 43, .vec .u32 K.l1 43, .vec .u32 K.l2 43, .vec .u32 K.l3 43] (.slice 2 o n c) ys
    (fun b => by simp only [elems]; rw [hr _ rfl]; exact hints _ _) (fun b => by rw [hn]; rfl) (by
      simp only [Mem.erase, List.map_cons, List.map_nil, Blk.erase, encBlkG, List.map_append, erase_intVs]
      rfl) (by simp [V.drops, V.refs]) ho
  simp -implicitDefEqProofs only [vms, ↓reduceIte, Nat.reduceEqDiff, Nat.reduceAdd, reduceCtorEq, F42, c42, encM, enc_err, enc_w, hP, methW, call98]
  refine ⟨rfl, ?_⟩
  refine callK_frame [1, 2, 0, 3, 4, 5, 6] hw rfl (by simp) rfl ⟨rfl, rfl, by rw [encBlkG_ren]; rfl, rfl, rfl, rfl, rfl, trivial⟩ rfl ?_ rfl (by simp [fpσ]) ?_ ?_
  · simp only [memCl, zMem, List.cons_append, List.nil_append, List.all_cons, List.all_nil, encBlkG_refs]
    rfl
  · simp [outs, fpσ, Blk.refs, encBlk_eq, encBlkG_refs]
  rintro _ _ ⟨rfl, rfl⟩ -
  have hmg : merge (encM K buf bits nb bytes) [1, 2, 0, 3, 4, 5, 6] (zMem (bytes ++ ys) ++ [encBlkG 0 3 4 5 6 K buf bits nb, .vec .u32 K.l0 43, .vec .u32 K.l1 43, .vec .u32 K.l2 43, .vec .u32 K.l3 43]) = encM K buf bits nb (bytes ++ ys) := by
    simp only [merge, zMem, List.cons_append, List.nil_append, List.map_cons, List.map_nil, encBlkG_ren]
    rfl
  change callC C 7 [2] (some 16) _ _ _ [2] (.tup [.int .i64 ys.length, .nili]) (merge (encM K buf bits nb bytes) [1, 2, 0, 3, 4, 5, 6] _)
  rw [hmg]
  have t0 : tupGo 0 (.tup [.int .i64 ys.length, .nili]) = some (.int .i64 ys.length) := rfl
  have t1 : tupGo 1 (.tup [.int .i64 ys.length, .nili]) = some .nili := rfl
  have dt : V.drops [2] (.tup [.int .i64 ys.length, .nili]) = .tup [.int .i64 ys.length, .nili] := rfl
  simp -implicitDefEqProofs only [vms, ↓reduceIte, Nat.reduceEqDiff, reduceCtorEq, callC, Nat.reduceBEq, encM, putB_err hb, vres_nil, t0, t1]
  exact retGo_refl ⟨rfl, rfl⟩
end Go.VM
end

section
set_option linter.unusedSimpArgs false
namespace Go.VM
open Go Go.Proofs Go.Bits

end Go.VM
end

section
set_option linter.unusedSimpArgs false
namespace Go.VM
open Go Go.Proofs Go.Bits

theorem round_gen' {C : Ctx} {n0 : Nat} {mv : List Nat} {vc : VC} {e : Env} {M : Mem} {Q : VX → Env → Mem → Prop} {k : Nat} (h : ∀ K, K = roundK n0 (VWp C n0 mv vc) k Q → VWp C n0 mv vc e M K) : VRounds n0 (VWp C n0 mv vc) (k + 1) e M Q :=
  round (h _ rfl)

/-- to the nearest whole number, halves away from nought -/
def rnd (a b : Int) : Int := if a < 0 then -((-a + b / 2) / b) else (a + b / 2) / b

theorem div_spec (C : Ctx) (hP : C.P = Tryd.prog) (M : Mem) (a b : Int) (ha : -1000000 ≤ a ∧ a ≤ 1000000) (hb : 1 ≤ b ∧ b ≤ 1000000) :
    VCalls C 70 [.int .i32 a, .int .i32 b] M [] (fun v M' => v = .int .i32 (rnd a b) ∧ M' = M) := by
  refine VCalls.of_fn (hs := kz c70) (F := F70) (by rw [hP]; exact is70) (by simp [F70]) ?_
  have h2 : b / 2 ≤ 500000 := by omega
  simp -implicitDefEqProofs only [vms, ↓reduceIte, Nat.reduceEqDiff, Nat.reduceAdd, reduceCtorEq, F70, c70]
  apply condGo_dec <;> intro h0
  · have e1 : IntKind.i32.wrap (a + b / 2) = a + b / 2 := wrap_i32_id (by omega) (by omega)
    have hq : (a + b / 2).tdiv b = (a + b / 2) / b := Int.tdiv_eq_ediv_of_nonneg (by omega)
    have hle : (a + b / 2) / b ≤ a + b / 2 := Int.ediv_le_self _ (by omega)
    have hge : 0 ≤ (a + b / 2) / b := Int.ediv_nonneg (by omega) (by omega)
    have e2 : vbin .quo (.int .i32 (a + b / 2)) (.int .i32 b) = some (.int .i32 ((a + b / 2) / b)) := by
      rw [vbin_quo (by omega), hq, wrap_i32_id (by omega) (by omega)]
    simp -implicitDefEqProofs only [vms, ↓reduceIte, Nat.reduceEqDiff, reduceCtorEq, Nat.min_def, IntKind.bits, Nat.reduceLeDiff, Int.reducePow, Int.reduceToNat, Int.reduceLE, e1, e2]
    exact retGo_refl ⟨by simp [rnd]; omega, rfl⟩
  · have e0 : IntKind.i32.wrap (0 - a) = -a := by rw [wrap_i32_id (by omega) (by omega)]; omega
    have e1 : IntKind.i32.wrap (-a + b / 2) = -a + b / 2 := wrap_i32_id (by omega) (by omega)
    have hq : (-a + b / 2).tdiv b = (-a + b / 2) / b := Int.tdiv_eq_ediv_of_nonneg (by omega)
    have hle : (-a + b / 2) / b ≤ -a + b / 2 := Int.ediv_le_self _ (by omega)
    have hge : 0 ≤ (-a + b / 2) / b := Int.ediv_nonneg (by omega) (by omega)
    have e2 : vbin .quo (.int .i32 (-a + b / 2)) (.int .i32 b) = some (.int .i32 ((-a + b / 2) / b)) := by
      rw [vbin_quo (by omega), hq, wrap_i32_id (by omega) (by omega)]
    have e3 : IntKind.i32.wrap (0 - (-a + b / 2) / b) = -((-a + b / 2) / b) := by rw [wrap_i32_id (by omega) (by omega)]; omega
    simp -implicitDefEqProofs only [vms, ↓reduceIte, Nat.reduceEqDiff, reduceCtorEq, Nat.min_def, IntKind.bits, Nat.reduceLeDiff, Int.reducePow, Int.reduceToNat, Int.reduceLE, e0, e1, e2, e3]
    exact retGo_refl ⟨by simp [rnd]; omega, rfl⟩

theorem rounded_spec (C : Ctx) (hP : C.P = Tryd.prog) (M : Mem) (a b : Int) (ha : -1000000 ≤ a ∧ a ≤ 1000000) (hb : 1 ≤ b ∧ b ≤ 1000000) :
    VCalls C 26 [.int .i64 a, .int .i64 b] M [] (fun v M' => v = .int .i64 (rnd a b) ∧ M' = M) := by
  refine VCalls.of_fn (hs := kz c26) (F := F26) (by rw [hP]; exact is26) (by simp [F26]) ?_
  have h2 : b / 2 ≤ 500000 := by omega
  have e2' : vbin .quo (.int .i64 b) (.int .i64 2) = some (.int .i64 (b / 2)) := by
    rw [vbin_quo (by omega), Int.tdiv_eq_ediv_of_nonneg (by omega), wrap_i64_id (by omega) (by omega)]
  simp -implicitDefEqProofs only [vms, ↓reduceIte, Nat.reduceEqDiff, Nat.reduceAdd, reduceCtorEq, F26, c26]
  apply condGo_dec <;> intro h0
  · have e0 : IntKind.i64.wrap (0 - a) = -a := by rw [wrap_i64_id (by omega) (by omega)]; omega
    have e1 : IntKind.i64.wrap (-a + b / 2) = -a + b / 2 := wrap_i64_id (by omega) (by omega)
    have hq : (-a + b / 2).tdiv b = (-a + b / 2) / b := Int.tdiv_eq_ediv_of_nonneg (by omega)
    have hle : (-a + b / 2) / b ≤ -a + b / 2 := Int.ediv_le_self _ (by omega)
    have hge : 0 ≤ (-a + b / 2) / b := Int.ediv_nonneg (by omega) (by omega)
    have e2 : vbin .quo (.int .i64 (-a + b / 2)) (.int .i64 b) = some (.int .i64 ((-a + b / 2) / b)) := by
      rw [vbin_quo (by omega), hq, wrap_i64_id (by omega) (by omega)]
    have e3 : IntKind.i64.wrap (0 - (-a + b / 2) / b) = -((-a + b / 2) / b) := by rw [wrap_i64_id (by omega) (by omega)]; omega
    simp -implicitDefEqProofs only [vms, ↓reduceIte, Nat.reduceEqDiff, reduceCtorEq, e2', e0, e1, e2, e3]
    exact retGo_refl ⟨by simp [rnd]; omega, rfl⟩
  · have e1 : IntKind.i64.wrap (a + b / 2) = a + b / 2 := wrap_i64_id (by omega) (by omega)
    have hq : (a + b / 2).tdiv b = (a + b / 2) / b := Int.tdiv_eq_ediv_of_nonneg (by omega)
    have hle : (a + b / 2) / b ≤ a + b / 2 := Int.ediv_le_self _ (by omega)
    have hge : 0 ≤ (a + b / 2) / b := Int.ediv_nonneg (by omega) (by omega)
    have e2 : vbin .quo (.int .i64 (a + b / 2)) (.int .i64 b) = some (.int .i64 ((a + b / 2) / b)) := by
      rw [vbin_quo (by omega), hq, wrap_i64_id (by omega) (by omega)]
    simp -implicitDefEqProofs only [vms, ↓reduceIte, Nat.reduceEqDiff, reduceCtorEq, e2', e1, e2]
    exact retGo_refl ⟨by simp [rnd]; omega, rfl⟩

/-- how often a number is halved until it is nought -/
theorem blen_half (a : Nat) (h : 0 < a) : blen a = blen (a / 2) + 1 := by
  unfold blen
  rw [if_neg (by omega)]
  by_cases h1 : a = 1
  · subst h1; decide
  · rw [if_neg (by omega), Nat.log2_def, if_pos (by omega)]

theorem size_loop (C : Ctx) (Q : VX → Env → Mem → Prop) (M : Mem) : ∀ (d a k : Nat), a < 2 ^ d → k + d ≤ 1000 → (∀ e9, Q (.exit 0) [(0, .int .i64 0), (3, .int .i64 (k + blen a : Nat)), (9, e9)] M) →
    VRounds M.length (VWp C M.length [] c27l0) (d + 1) [(0, .int .i64 (a : Nat)), (3, .int .i64 (k : Nat))] M Q := by
  intro d
  induction d with
  | zero =>
    intro a k ha hk hQ
    have h0 : a = 0 := by simpa using ha
    subst h0
    refine round_gen' fun K hK => ?_
    simp -implicitDefEqProofs only [vms, ↓reduceIte, Nat.reduceEqDiff, reduceCtorEq, c27l0, show ((0 : Nat) : Int) = 0 from rfl, Int.lt_irrefl]
    rw [hK]
    exact hQ _
  | succ d ih =>
    intro a k ha hk hQ
    refine round_gen' fun K hK => ?_
    by_cases h0 : a = 0
    · subst h0
      simp -implicitDefEqProofs only [vms, ↓reduceIte, Nat.reduceEqDiff, reduceCtorEq, c27l0, show ((0 : Nat) : Int) = 0 from rfl, Int.lt_irrefl]
      rw [hK]
      exact hQ _
    · have hd : decide ((0 : Int) < (a : Int)) = true := by simp; omega
      have hw : IntKind.i64.wrap ((k : Int) + 1) = ((k + 1 : Nat) : Int) := by rw [wrap_i64_id (by omega) (by omega)]; omega
      have hdv : (a : Int) / 2 = ((a / 2 : Nat) : Int) := by omega
      simp -implicitDefEqProofs only [vms, ↓reduceIte, Nat.reduceEqDiff, reduceCtorEq, Nat.min_def, IntKind.bits, Nat.reduceLeDiff, Int.reducePow, Int.reduceToNat, Int.reduceLE, c27l0, hd, hw, hdv]
      rw [hK]
      have hb := blen_half a (by omega)
      refine ih (a / 2) (k + 1) (by rw [Nat.pow_succ] at ha; omega) (by omega) (fun e9 => ?_)
      have := hQ e9
      rw [hb] at this
      rwa [show k + 1 + blen (a / 2) = k + (blen (a / 2) + 1) by omega]

theorem size_spec (C : Ctx) (hP : C.P = Tryd.prog) (M : Mem) (n : Int) (hn : -1000000 ≤ n ∧ n ≤ 1000000) :
    VCalls C 27 [.int .i64 n] M [] (fun v M' => v = .int .i64 (blen n.natAbs : Nat) ∧ M' = M) := by
  refine VCalls.of_fn (hs := kz c27) (F := F27) (by rw [hP]; exact is27) (by simp [F27]) ?_
  have hneg : IntKind.i64.wrap (0 - n) = -n := by rw [wrap_i64_id (by omega) (by omega)]; omega
  have hlt : n.natAbs < 2 ^ 20 := by omega
  simp -implicitDefEqProofs only [vms, ↓reduceIte, Nat.reduceEqDiff, reduceCtorEq, F27, c27]
  apply condGo_dec <;> intro h0
  · have e1 : -n = (n.natAbs : Int) := by omega
    simp -implicitDefEqProofs only [vms, ↓reduceIte, Nat.reduceEqDiff, reduceCtorEq, hneg, e1]
    apply VWp_loop_of (k := 21)
    refine size_loop C _ M 20 n.natAbs 0 hlt (by omega) (fun e9 => ?_)
    simp -implicitDefEqProofs only [vms, ↓reduceIte, Nat.reduceEqDiff, reduceCtorEq]
    exact retGo_refl ⟨rfl, rfl⟩
  · obtain ⟨a, ha⟩ : ∃ a : Nat, n = (a : Int) := ⟨n.natAbs, by omega⟩
    subst ha
    simp -implicitDefEqProofs only [vms, ↓reduceIte, Nat.reduceEqDiff, reduceCtorEq]
    apply VWp_loop_of (k := 21)
    have e2 : (a : Int).natAbs = a := by simp
    rw [e2] at hlt ⊢
    refine size_loop C _ M 20 a 0 hlt (by omega) (fun e9 => ?_)
    simp -implicitDefEqProofs only [vms, ↓reduceIte, Nat.reduceEqDiff, reduceCtorEq]
    exact retGo_refl ⟨rfl, rfl⟩

theorem coded_spec (C : Ctx) (hP : C.P = Tryd.prog) (M : Mem) (n : Int) (hn : -32767 ≤ n ∧ n ≤ 32767) :
    VCalls C 28 [.int .i64 n, .int .i64 (blen n.natAbs : Nat)] M [] (fun v M' => v = .int .u32 (codedN n : Nat) ∧ M' = M) := by
  refine VCalls.of_fn (hs := kz c28) (F := F28) (by rw [hP]; exact is28) (by simp [F28]) ?_
  have hk : blen n.natAbs ≤ 15 := blen_le (by omega)
  have hlt := lt_blen n.natAbs
  have hcn : codedN n < 2 ^ blen n.natAbs := codedN_lt n
  have hdef : codedN n = (if n < 0 then n + 2 ^ blen n.natAbs - 1 else n).toNat := rfl
  generalize blen n.natAbs = k at *
  have hp2 : (2 : Nat) ^ k ≤ 2 ^ 15 := Nat.pow_le_pow_right (by omega) hk
  have e2k : ((2 ^ k : Nat) : Int) = 2 ^ k := by simp
  have hsl : vbin .shl (.int .i64 1) (.int .i64 (k : Int)) = some (.int .i64 ((2 ^ k : Nat) : Int)) := by
    rw [vbin_shl_lit (by omega) (by simp [IntKind.bits]; omega)]
    congr 2
    have e : (1 : Int) * 2 ^ ((k : Int).toNat) = ((2 ^ k : Nat) : Int) := by simp
    rw [e, wrap_i64_id (by omega) (by omega)]
  rw [← e2k] at hdef
  simp -implicitDefEqProofs only [vms, ↓reduceIte, Nat.reduceEqDiff, Nat.reduceAdd, reduceCtorEq, F28, c28]
  apply condGo_dec <;> intro h0
  · rw [if_pos h0] at hdef
    have e1 : IntKind.i64.wrap (((2 ^ k : Nat) : Int) - 1) = ((2 ^ k : Nat) : Int) - 1 := wrap_i64_id (by omega) (by omega)
    have e3 : IntKind.i64.wrap (n + (((2 ^ k : Nat) : Int) - 1)) = n + (((2 ^ k : Nat) : Int) - 1) := wrap_i64_id (by omega) (by omega)
    have e4 : IntKind.u32.wrap (n + (((2 ^ k : Nat) : Int) - 1)) = (codedN n : Int) := by rw [wrap_u32_id (by omega) (by omega)]; omega
    simp -implicitDefEqProofs only [vms, ↓reduceIte, Nat.reduceEqDiff, reduceCtorEq, hsl, e1, e3, e4]
    exact retGo_refl ⟨rfl, rfl⟩
  · rw [if_neg h0] at hdef
    have e4 : IntKind.u32.wrap n = (codedN n : Int) := by rw [wrap_u32_id (by omega) (by omega)]; omega
    simp -implicitDefEqProofs only [vms, ↓reduceIte, Nat.reduceEqDiff, reduceCtorEq, e4]
    exact retGo_refl ⟨rfl, rfl⟩
end Go.VM
end

section
set_option linter.unusedSimpArgs false
namespace Go.VM
open Go Go.Proofs Go.Bits

/-! Calls on the head of a memory; the encoder's buffer. -/
theorem fpσ_range {n m i : Nat} (h : i < n) : fpσ (List.range n) m i = i := by
  unfold fpσ
  rw [if_pos (by simpa using h)]
  simp [h]

theorem V.ren_cl {n : Nat} {σ : Nat → Nat} (hσ : ∀ i, i < n → σ i = i) {v : V} (h : clB n v.refs = true) : v.ren σ = v := by
  rw [V.ren_congr v (σ' := id) (fun b hb => hσ b (clB_iff h b hb)), V.ren_id]

theorem Blk.ren_cl {n : Nat} {σ : Nat → Nat} (hσ : ∀ i, i < n → σ i = i) {B : Blk} (h : clB n B.refs = true) : B.ren σ = B := by
  cases B with
  | own cs T =>
    simp only [Blk.ren]
    rw [V.renL_congr cs (σ' := id) (fun b hb => hσ b (clB_iff h b hb))]
    rw [V.renL_map]
    congr 1
    conv => rhs; rw [← List.map_id cs]
    exact List.map_congr_left fun v _ => V.ren_id v
  | ints k xs T => rfl
  | vec k xs T => rfl

theorem renMem_cl {n : Nat} {σ : Nat → Nat} (hσ : ∀ i, i < n → σ i = i) {M : Mem} (h : memCl n M = true) : M.map (Blk.ren σ) = M := by
  conv => rhs; rw [← List.map_id M]
  exact List.map_congr_left fun B hB => Blk.ren_cl hσ (List.all_eq_true.1 h B hB)

theorem setAll_pre : ∀ (A A' R : Mem) (k : Nat) (P : Mem), P.length = k → A.length = A'.length → setAll (P ++ (A ++ R)) (List.range' k A.length) A' = P ++ (A' ++ R) := by
  intro A
  induction A with
  | nil => intro A' R k P hk hl; cases A' with
    | nil => rfl
    | cons _ _ => simp at hl
  | cons B A ih =>
    intro A' R k P hk hl
    cases A' with
    | nil => simp at hl
    | cons B' A' =>
      simp only [List.length_cons, List.range'_succ, setAll]
      have h1 : (P ++ (B :: A ++ R)).set k B' = (P ++ [B']) ++ (A ++ R) := by
        rw [List.set_append, if_neg (by omega)]
        simp [hk]
      rw [h1, ih A' R (k + 1) (P ++ [B']) (by simp [hk]) (by simpa using hl)]
      simp

theorem merge_pre (A A' R : Mem) (hl : A'.length = A.length) (hc : memCl A.length A' = true) : merge (A ++ R) (List.range A.length) A' = A' ++ R := by
  unfold merge
  rw [renMem_cl (n := A.length) (fun i hi => fpσ_range hi) hc]
  have h1 : A'.drop (List.range A.length).length = [] := by simp [hl]
  rw [h1, List.range_eq_range']
  have := setAll_pre A A' R 0 [] rfl hl.symm
  simp only [List.nil_append] at this
  rw [this]
  simp

section
variable {C : Ctx} {n0 : Nat} {mv : List Nat}

/-- a call whose contract speaks of the memory's head -/
theorem callK_pre {f : Nat} {vs : List V} {M0 M1 : Mem} {mv0 : List Nat} {v0 : V} {K : List Nat → V → Mem → Prop} (R : Mem) (h : VCalls C f vs M0 mv0 fun v M' => v = v0 ∧ M' = M1) (hk : allKnown vs = true)
    (hl : M1.length = M0.length) (hc0 : memCl M0.length M0 = true) (hc1 : memCl M0.length M1 = true) (hv : clB M0.length v0.refs = true) (hvs : clB M0.length (V.refsL vs) = true) (hmv : ∀ b ∈ mv0, n0 ≤ b ∨ b ∈ mv) (hml : clB M0.length mv0 = true)
    (hR : (R.all fun B => B.refs.all fun r => !mv0.contains r) = true) (hK : K mv0 v0 (M1 ++ R)) : callK C n0 mv f vs (M0 ++ R) K := by
  have hσ : ∀ i, i < M0.length → fpσ (List.range M0.length) (M0 ++ R).length i = i := fun i hi => fpσ_range hi
  have hmm : mv0.map (fpσ (List.range M0.length) (M0 ++ R).length) = mv0 := by
    conv => rhs; rw [← List.map_id mv0]
    exact List.map_congr_left fun b hb => hσ b (clB_iff hml b hb)
  refine ⟨hk, mv0, hmv, ?_⟩
  have := h.frame (List.range M0.length) (M0 ++ R) vs (K mv0) (by simp) List.nodup_range (fun i hi => by simp at hi ⊢; omega) (fun j b hb => ?_) ?_ (fun j b hb => clB_iff (List.all_eq_true.1 hc0 b (List.mem_of_getElem? hb))) (clB_iff hvs) ?_ ?_
  · rw [hmm] at this
    exact this
  · have hj : j < M0.length := (List.getElem?_eq_some_iff.1 hb).1
    rw [hσ j hj, Blk.ren_cl hσ (List.all_eq_true.1 hc0 b (List.mem_of_getElem? hb)), List.getElem?_append_left hj]
    exact hb
  · rw [V.renL_map]
    conv => lhs; rw [← List.map_id vs]
    refine List.map_congr_left fun v hv' => ?_
    refine (V.ren_cl hσ ?_).symm
    simp only [clB, List.all_eq_true, decide_eq_true_eq]
    intro b hb
    exact clB_iff hvs b (V.mem_refsL.2 ⟨v, hv', hb⟩)
  · intro i b hi hb r hr
    rw [hmm]
    have hge : M0.length ≤ i := by simpa using hi
    rw [List.getElem?_append_right hge] at hb
    have := List.all_eq_true.1 (List.all_eq_true.1 hR b (List.mem_of_getElem? hb)) r hr
    simpa using this
  · rintro v M' ⟨rfl, rfl⟩ -
    rw [V.ren_cl hσ hv, merge_pre M0 M' R hl hc1]
    exact hK
end

/-- cells in the middle of a block -/
theorem range_mid {M : Mem} {b : Nat} {pre post : List V} {k : IntKind} {mid : List Int} {T o n : Nat} (j : Nat) (h : M[b]? = some (.own (pre ++ (intVs k mid ++ post)) T)) (ho : o = pre.length + j) (hj : j + n ≤ mid.length) :
    M.range b o n = some (.agg (intVs k ((mid.drop j).take n))) := by
  subst ho
  unfold Mem.range
  rw [h]
  simp only
  rw [if_pos (by simp [intVs_length]; omega)]
  have hd : ((pre ++ (intVs k mid ++ post)).drop (pre.length + j)).take n = intVs k ((mid.drop j).take n) := by
    rw [List.drop_append, List.drop_eq_nil_of_le (by omega), List.nil_append, show pre.length + j - pre.length = j by omega, List.drop_append_of_le_length (by simp [intVs_length]; omega),
      List.take_append_of_le_length (by simp [intVs_length]; omega)]
    simp [intVs, List.map_drop, List.map_take]
  rw [hd]
  rw [if_pos ?_]
  simp only [List.all_eq_true, intVs, List.mem_map]
  rintro _ ⟨x, _, rfl⟩
  rfl

section
variable {K : EncK} {buf : List Int} {bits nb : Int}

theorem encM_cl {bytes : List Int} : memCl 7 (encM K buf bits nb bytes) = true := by
  simp only [memCl, encM, List.all_cons, List.all_nil, Blk.refs, encBlk, enc_refs]
  rfl
theorem encM_len {bytes : List Int} : (encM K buf bits nb bytes).length = 7 := rfl

theorem enc_set_buf (hb : buf.length = 16) (j : Nat) (hj : j < 16) (v : Int) : (encCells K buf bits nb).set (2 + j) (.int .u8 v) = encCells K (buf.set j v) bits nb := by
  unfold encCells
  rw [set_append_right' _ _ j _ _ (by simp), List.set_append, if_pos (by simp [intVs_length, hb]; omega)]
  simp [intVs, List.map_set]
theorem putB_buf (hb : buf.length = 16) {M : Mem} {v : Int} (o : Nat) (ho : 2 ≤ o) (h18 : o < 18) : putB M 0 o (.int .u8 v) (some (encBlk K buf bits nb)) = some (.undef, M.set 0 (encBlk K (buf.set (o - 2) v) bits nb)) := by
  obtain ⟨j, rfl⟩ : ∃ j, o = 2 + j := ⟨o - 2, by omega⟩
  rw [show 2 + j - 2 = j by omega]
  simp only [putB, encBlk, enc_len hb, enc_set_buf hb j (by omega)]
  rw [if_pos (by omega)]

theorem own_buf (n : Nat) (hn : n ≤ 16) (hb : buf.length = 16) : ∀ M : Mem, M[2]? = some (encBlkG 0 3 4 5 6 K buf bits nb) → M.range 2 2 n = some (.agg (intVs .u8 (buf.take n))) := by
  intro M h
  have := range_mid (M := M) (b := 2) (o := 2) (n := n) (mid := buf) 0 h rfl (by omega)
  simpa using this
theorem own_q (i : Nat) (hi : i < 2) (hb : buf.length = 16) : ∀ M : Mem, M[2]? = some (encBlkG 0 3 4 5 6 K buf bits nb) → M.range 2 (20 + 64 * i) 64 = some (.agg (intVs .u8 ((K.q.drop (64 * i)).take 64))) := by
  intro M h
  have h' : M[2]? = some (.own (([.iface 53 (.ptr 0 0), .nili] ++ intVs .u8 buf ++ [.int .u32 bits, .int .u32 nb]) ++ (intVs .u8 K.q ++ [.vec 3 K.l0.length, .vec 4 K.l1.length, .vec 5 K.l2.length, .vec 6 K.l3.length])) 116) := by
    rw [h]; simp [encBlkG]
  exact range_mid (64 * i) h' (by simp [intVs_length, hb]) (by rw [K.hq]; omega)
end

theorem flush_spec (C : Ctx) (hP : C.P = Tryd.prog) (K : EncK) (buf : List Int) (hb : buf.length = 16) (bits nb : Int) (bytes : List Int) :
    VCalls C 48 [.ptr 0 0] (encM K buf bits nb bytes) [] (fun v M' => v = .tup [] ∧ M' = encM K buf bits nb bytes) := by
  refine VCalls.of_fn (hs := kz c48) (F := F48) (by rw [hP]; exact is48) (by simp [F48]) ?_
  simp -implicitDefEqProofs only [vms, ↓reduceIte, Nat.reduceEqDiff, Nat.reduceAdd, reduceCtorEq, F48, c48, encM, enc_err, enc_w, hP, methF, call97]
  refine ⟨rfl, ?_⟩
  refine callK_of [] rfl (by simp) (Flush_spec C hP _ _) ?_
  rintro _ _ ⟨rfl, rfl⟩
  simp -implicitDefEqProofs only [vms, ↓reduceIte, Nat.reduceEqDiff, reduceCtorEq, callC, putB_err hb, vres_nil]
  exact retGo_refl ⟨rfl, rfl⟩

theorem i64_and255 (n : Int) : Go.bits .and .i64 n 255 = n % 256 := by
  have h255 : (BitVec.ofInt 64 255).toNat = 2 ^ 8 - 1 := by decide
  have key : (BitVec.ofInt 64 n &&& BitVec.ofInt 64 255).toNat = (n % ((2 ^ 64 : Nat) : Int)).toNat % 2 ^ 8 := by
    rw [BitVec.toNat_and, BitVec.toNat_ofInt, h255, Nat.and_two_pow_sub_one_eq_mod]
  show IntKind.i64.wrap ((BitVec.ofInt 64 n &&& BitVec.ofInt 64 255).toNat : Nat) = n % 256
  rw [key, IntKind.wrap_i64]
  omega

/-- the buffer behind a marker's header -/
def bufMH (buf : List Int) (m : Int) (l : Int) : List Int := (((buf.set 0 255).set 1 m).set 2 (l / 256)).set 3 (l % 256)

theorem wmh_spec (C : Ctx) (hP : C.P = Tryd.prog) (K : EncK) (buf : List Int) (hb : buf.length = 16) (bits nb : Int) (bytes : List Int) (m l : Int) (hl : 0 ≤ l ∧ l < 65536) (ho : bytes.length ≤ 15000000) :
    VCalls C 56 [.ptr 0 0, .int .u8 m, .int .i64 l] (encM K buf bits nb bytes) [2] (fun v M' => v = .tup [] ∧ M' = encM K (bufMH buf m l) bits nb (bytes ++ [255, m, l / 256, l % 256])) := by
  refine VCalls.of_fn (hs := kz c56) (F := F56) (by rw [hP]; exact is56) (by simp [F56]) ?_
  have i0 : vidxA 16 1 (.ptr 0 2) (.int .i64 0) = some (.ptr 0 2) := rfl
  have i1 : vidxA 16 1 (.ptr 0 2) (.int .i64 1) = some (.ptr 0 3) := rfl
  have i2 : vidxA 16 1 (.ptr 0 2) (.int .i64 2) = some (.ptr 0 4) := rfl
  have i3 : vidxA 16 1 (.ptr 0 2) (.int .i64 3) = some (.ptr 0 5) := rfl
  have hw1 : IntKind.u8.wrap (l / 256) = l / 256 := wrap_u8_id (by omega) (by omega)
  have hand : Go.bits .and .i64 l 255 = l % 256 := i64_and255 l
  have hw2 : IntKind.u8.wrap (l % 256) = l % 256 := wrap_u8_id (by omega) (by omega)
  have b1 : (buf.set 0 255).length = 16 := by simp [hb]
  have b2 : ((buf.set 0 255).set 1 m).length = 16 := by simp [hb]
  have b3 : (((buf.set 0 255).set 1 m).set 2 (l / 256)).length = 16 := by simp [hb]
  have pb0 := fun M => putB_buf (K := K) (bits := bits) (nb := nb) hb (M := M) (v := 255) 2 (by omega) (by omega)
  have pb1 := fun M => putB_buf (K := K) (bits := bits) (nb := nb) b1 (M := M) (v := m) 3 (by omega) (by omega)
  have pb2 := fun M => putB_buf (K := K) (bits := bits) (nb := nb) b2 (M := M) (v := l / 256) 4 (by omega) (by omega)
  have pb3 := fun M => putB_buf (K := K) (bits := bits) (nb := nb) b3 (M := M) (v := l % 256) 5 (by omega) (by omega)
  have hsl : vslice 16 1 none (some (.int .i64 4)) none (.ptr 0 2) = some (.slice 0 2 4 16) := rfl
  simp -implicitDefEqProofs only [vms, ↓reduceIte, Nat.reduceEqDiff, Nat.reduceAdd, reduceCtorEq, Nat.min_def, IntKind.bits, Nat.reduceLeDiff, Int.reducePow, Int.reduceToNat, Int.reduceLE, F56, c56, encM, i0, i1, i2, i3, pb0, pb1, pb2, pb3, hand, hw1, hw2, hsl]
  have hbb : bufMH buf m l = (((buf.set 0 255).set 1 m).set 2 (l / 256)).set 3 (l % 256) := rfl
  have hbl : (bufMH buf m l).length = 16 := by simp [bufMH, hb]
  have ht : (bufMH buf m l).take 4 = [255, m, l / 256, l % 256] := by
    match buf, hb with
    | [_, _, _, _, _, _, _, _, _, _, _, _, _, _, _, _], _ => rfl
  have w := write_own C hP K (bufMH buf m l) hbl bits nb bytes 2 4 16 [255, m, l / 256, l % 256] rfl (by rw [← ht]; exact own_buf 4 (by omega) hbl) (by simp; omega)
  refine callK_of [2] rfl (by simp) w ?_
  rintro _ _ ⟨rfl, rfl⟩
  simp -implicitDefEqProofs only [vms, ↓reduceIte, callC, Nat.reduceBEq, vres_nil]
  exact retGo_refl ⟨rfl, rfl⟩

/-- two tables -/
theorem dqt_spec (C : Ctx) (hP : C.P = Tryd.prog) (K : EncK) (buf : List Int) (hb : buf.length = 16) (bits nb : Int) (bytes : List Int) (ho : bytes.length ≤ 14000000) :
    VCalls C 43 [.ptr 0 0] (encM K buf bits nb bytes) [2] (fun v M' => v = .tup [] ∧ M' = encM K (bufMH buf 219 132) bits nb (bytes ++ [255, 219, 0, 132] ++ (0 :: K.q.take 64) ++ (1 :: K.q.drop 64))) := by
  refine VCalls.of_fn (hs := kz c43) (F := F43) (by rw [hP]; exact is43) (by simp [F43]) ?_
  have hbl : (bufMH buf 219 132).length = 16 := by simp [bufMH, hb]
  have hkq : ((K.q.drop 64).take 64) = K.q.drop 64 := List.take_of_length_le (by simp [K.hq])
  have hs0 : vslice 64 1 none none none (.ptr 0 20) = some (.slice 0 20 64 64) := rfl
  have hs1 : vslice 64 1 none none none (.ptr 0 84) = some (.slice 0 84 64 64) := rfl
  simp -implicitDefEqProofs only [vms, ↓reduceIte, reduceCtorEq, F43, c43, encM_len]
  refine callK_of [2] rfl (by simp) (wmh_spec C hP K buf hb bits nb bytes 219 132 (by omega) (by omega)) ?_
  rintro _ _ ⟨rfl, rfl⟩
  simp -implicitDefEqProofs only [vms, ↓reduceIte, reduceCtorEq, callC, Nat.reduceBEq, Int.reduceDiv, Int.reduceMod]
  apply VWp_loop_of (k := 3)
  refine round_gen fun K1 hK1 => ?_
  simp -implicitDefEqProofs only [vms, ↓reduceIte, Nat.reduceEqDiff, reduceCtorEq, Int.reduceLE, wl8, Int.reduceLT, c43l0]
  refine callK_of [2] rfl (by simp) (writeByte_spec C hP K _ hbl bits nb _ 0 (by simp; omega)) ?_
  rintro _ _ ⟨rfl, rfl⟩
  simp -implicitDefEqProofs only [vms, ↓reduceIte, Nat.reduceEqDiff, reduceCtorEq, Int.reduceToNat, Int.reduceLE, callC, Nat.reduceBEq, Nat.reduceLT, vidxA_lit, Nat.reduceMul, hs0]
  refine callK_of [2] rfl (by simp) (write_own C hP K _ hbl bits nb _ 20 64 64 (K.q.take 64) (by simp [K.hq]) (own_q 0 (by omega) hbl) (by simp [K.hq]; omega)) ?_
  rintro _ _ ⟨rfl, rfl⟩
  simp -implicitDefEqProofs only [vms, ↓reduceIte, Nat.reduceEqDiff, reduceCtorEq, Int.reduceLE, Int.reduceAdd, Int.reduceNeg, callC, Nat.reduceBEq, wl64]
  rw [hK1, roundK_normal]
  refine round_gen fun K1 hK1 => ?_
  simp -implicitDefEqProofs only [vms, ↓reduceIte, Nat.reduceEqDiff, reduceCtorEq, Int.reduceLE, wl8, Int.reduceLT, c43l0]
  refine callK_of [2] rfl (by simp) (writeByte_spec C hP K _ hbl bits nb _ 1 (by simp [K.hq]; omega)) ?_
  rintro _ _ ⟨rfl, rfl⟩
  simp -implicitDefEqProofs only [vms, ↓reduceIte, Nat.reduceEqDiff, Nat.reduceAdd, reduceCtorEq, Int.reduceToNat, Int.reduceLE, callC, Nat.reduceBEq, vidxA_lit, Nat.reduceMul, hs1]
  have oq := own_q (K := K) (buf := bufMH buf 219 132) (bits := bits) (nb := nb) 1 (by omega) hbl
  rw [hkq] at oq
  refine callK_of [2] rfl (by simp) (write_own C hP K _ hbl bits nb _ 84 64 64 (K.q.drop 64) (by simp [K.hq]) oq (by simp [K.hq]; omega)) ?_
  rintro _ _ ⟨rfl, rfl⟩
  simp -implicitDefEqProofs only [vms, ↓reduceIte, Nat.reduceEqDiff, reduceCtorEq, Int.reduceLE, Int.reduceAdd, Int.reduceNeg, callC, Nat.reduceBEq, wl64]
  rw [hK1, roundK_normal]
  refine round_gen fun K1 hK1 => ?_
  simp -implicitDefEqProofs only [vms, ↓reduceIte, Nat.reduceEqDiff, reduceCtorEq, Int.reduceLT, c43l0]
  rw [hK1]
  simp -implicitDefEqProofs only [vms, vres_nil]
  refine retGo_refl ⟨rfl, ?_⟩
  simp
end Go.VM
end

section
set_option linter.unusedSimpArgs false
namespace Go.VM
open Go Go.Proofs Go.Bits

/-! The encoder writes any bytes that lie outside; calls that make memory. -/
theorem Write_gen (C : Ctx) (hP : C.P = Tryd.prog) (M : Mem) (z zb : Nat) (bytes ys : List Int) (p : V) (hne : z ≠ zb) (hz : M[z]? = some (.own [.vec zb bytes.length] 55)) (hb : M[zb]? = some (.vec .u8 bytes 5))
    (hp : elems M .u8 p = some ys) (hl : ∀ (xs : List Int) (B : Blk), vlen (((M.erase zb).set zb (.vec .u8 xs 5)).set z B) p = some (.int .i64 ys.length)) (hd : p.drops [zb] = p) (ho : bytes.length + ys.length ≤ 16000000) :
    VCalls C 98 [.ptr z 0, p] M [zb] (fun v M' => v = .tup [.int .i64 ys.length, .nili] ∧ M' = ((M.erase zb).set zb (.vec .u8 (bytes ++ ys) 5)).set z (.own [.vec zb (bytes ++ ys).length] 55)) := by
  refine VCalls.of_fn (hs := kz c98) (F := F98) (by rw [hP]; exact is98) (by simp [F98]) ?_
  simp -implicitDefEqProofs only [vms, ↓reduceIte, Nat.reduceEqDiff, Nat.reduceAdd, reduceCtorEq, F98, c98, hz]
  refine app_of hb rfl (.inr (by simp)) hp (by omega) ?_
  have hz2 : ((M.erase zb).set zb (.vec .u8 (bytes ++ ys) 5))[z]? = some (.own [.undef] 55) := by
    rw [List.getElem?_set_ne (Ne.symm hne)]
    simp [Mem.erase, hz, Blk.erase, V.eraseB, V.refs]
  have hzc : ([zb].contains z) = false := by simp; exact hne
  have hl2 := hl (bytes ++ ys) (.own [.vec zb (bytes.length + ys.length)] 55)
  have hzb : (z == zb) = false := by simpa using hne
  simp -implicitDefEqProofs only [vms, ↓reduceIte, Nat.reduceEqDiff, reduceCtorEq, callC, hd, hzb, hz2, hl2]
  show retGo M.length (some (.tup [.int .i64 ys.length, .nili])) _ _
  exact retGo_refl ⟨rfl, by simp⟩

section
variable {K : EncK} {buf : List Int} {bits nb : Int}
theorem encBlk_erase : (encBlk K buf bits nb).erase 2 = encBlk K buf bits nb := by
  simp only [encBlk, encCells, Blk.erase, List.map_append, erase_intVs]
  rfl
theorem encM_erase {bytes : List Int} {R : Mem} (hR : R.erase 2 = R) (xs : List Int) : (((encM K buf bits nb bytes ++ R).erase 2).set 2 (.vec .u8 xs 5)).set 1 (.own [.vec 2 xs.length] 55) = encM K buf bits nb xs ++ R := by
  have h : (encM K buf bits nb bytes ++ R).erase 2 = [encBlk K buf bits nb, .own [.undef] 55, .vec .u8 bytes 5, .vec .u32 K.l0 43, .vec .u32 K.l1 43, .vec .u32 K.l2 43, .vec .u32 K.l3 43] ++ R := by
    have : (encM K buf bits nb bytes ++ R).erase 2 = (encM K buf bits nb bytes).erase 2 ++ R.erase 2 := by simp [Mem.erase]
    rw [this, hR]
    simp only [encM, Mem.erase, List.map_cons, List.map_nil, encBlk_erase]
    rfl
  rw [h]
  rfl

theorem write_any (C : Ctx) (hP : C.P = Tryd.prog) (K : EncK) (buf : List Int) (hb : buf.length = 16) (bits nb : Int) (bytes : List Int) (R : Mem) (hR : R.erase 2 = R) (p : V) (ys : List Int) (hp : elems (encM K buf bits nb bytes ++ R) .u8 p = some ys)
    (hl : ∀ M : Mem, (∀ i, 7 ≤ i → M[i]? = (encM K buf bits nb bytes ++ R)[i]?) → vlen M p = some (.int .i64 ys.length)) (hd : p.drops [2] = p) (hk : allKnown [p] = true) (ho : bytes.length + ys.length ≤ 16000000) :
    VCalls C 42 [.ptr 0 0, p] (encM K buf bits nb bytes ++ R) [2] (fun v M' => v = .tup [] ∧ M' = encM K buf bits nb (bytes ++ ys) ++ R) := by
  refine VCalls.of_fn (hs := kz c42) (F := F42) (by rw [hP]; exact is42) (by simp [F42]) ?_
  have m0 : (encM K buf bits nb bytes ++ R)[0]? = some (encBlk K buf bits nb) := rfl
  have hk2 : V.known p = true := by simpa [allKnown] using hk
  simp -implicitDefEqProofs only [vms, ↓reduceIte, Nat.reduceEqDiff, Nat.reduceAdd, reduceCtorEq, F42, c42, m0, enc_err, enc_w, hP, methW, call98]
  refine ⟨rfl, ?_⟩
  refine callK_of [2] (by show (V.known p && true) = true; rw [hk2]; rfl) (by simp) (Write_gen C hP (encM K buf bits nb bytes ++ R) 1 2 bytes ys p (by decide) rfl rfl hp (fun xs B => hl _ fun i hi => ?_) hd ho) ?_
  · rw [List.getElem?_set_ne (by omega), List.getElem?_set_ne (by omega)]
    have h1 : (Mem.erase (encM K buf bits nb bytes ++ R) 2)[i]? = (Mem.erase (encM K buf bits nb bytes) 2 ++ R)[i]? := by
      have : (encM K buf bits nb bytes ++ R).erase 2 = (encM K buf bits nb bytes).erase 2 ++ R.erase 2 := by simp [Mem.erase]
      rw [this, hR]
    rw [h1, List.getElem?_append_right (by simp [Mem.erase, encM_len]; omega), List.getElem?_append_right (by simp [encM_len]; omega)]
    simp [Mem.erase]
  rintro _ _ ⟨rfl, rfl⟩
  rw [encM_erase hR]
  have t0 : tupGo 0 (.tup [.int .i64 ys.length, .nili]) = some (.int .i64 ys.length) := rfl
  have t1 : tupGo 1 (.tup [.int .i64 ys.length, .nili]) = some .nili := rfl
  have dt : V.drops [2] (.tup [.int .i64 ys.length, .nili]) = .tup [.int .i64 ys.length, .nili] := rfl
  have m0 : (encM K buf bits nb (bytes ++ ys) ++ R)[0]? = some (encBlk K buf bits nb) := rfl
  have ms : (encM K buf bits nb (bytes ++ ys) ++ R).set 0 (encBlk K buf bits nb) = encM K buf bits nb (bytes ++ ys) ++ R := rfl
  simp -implicitDefEqProofs only [vms, ↓reduceIte, Nat.reduceEqDiff, reduceCtorEq, callC, Nat.reduceBEq, m0, putB_err hb, ms, vres_nil, t0, t1]
  exact retGo_refl ⟨rfl, rfl⟩
end

theorem merge_nil (M M' : Mem) : merge M [] M' = M ++ M'.map (Blk.ren (M.length + ·)) := by
  unfold merge
  have : fpσ [] M.length = (M.length + ·) := by funext i; simp [fpσ]
  rw [this]
  simp [setAll]

section
variable {C : Ctx} {n0 : Nat} {mv : List Nat}
/-- a call that makes memory alone -/
theorem callK_new {f : Nat} {vs : List V} {v0 : V} {M M1 : Mem} {K : List Nat → V → Mem → Prop} (h : VCalls C f vs [] [] fun v M' => v = v0 ∧ M' = M1) (hk : allKnown vs = true) (hvs : V.refsL vs = []) (v1 : V) (M2 : Mem)
    (hv : v0.ren (M.length + ·) = v1) (hM : M1.map (Blk.ren (M.length + ·)) = M2) (hK : K [] v1 (M ++ M2)) : callK C n0 mv f vs M K := by
  refine callK_fr [] h hk List.nodup_nil rfl trivial ?_ rfl (by rw [hvs]; rfl) ?_
  · rw [V.renL_map]
    conv => lhs; rw [← List.map_id vs]
    refine List.map_congr_left fun v hv => (V.ren_of_nil ?_ _).symm
    have : ∀ b, b ∉ v.refs := fun b hb => by
      have := V.mem_refsL.2 ⟨v, hv, hb⟩
      rw [hvs] at this; cases this
    exact List.eq_nil_iff_forall_not_mem.2 this
  · rintro _ _ ⟨rfl, rfl⟩ -
    rw [merge_nil]
    have hf : fpσ [] M.length = (M.length + ·) := by funext i; simp [fpσ]
    rw [hf, hM, hv]
    exact hK
end

theorem stGo_agg {M : Mem} {n b T : Nat} {vs cs : List V} (h : M[b]? = some (.own cs T)) (h1 : n ≠ 1) (hv : (vs.all V.one) = true) (hn : vs.length = n) (hl : cs.length = n) : stGo M n (.agg vs) (.ptr b 0) = some (.undef, M.set b (.own vs T)) := by
  simp only [stGo, Mem.put, h]
  rw [if_neg (by intro hh; exact h1 hh.1)]
  have : V.cells (.agg vs) = some vs := by simp only [V.cells, hv, if_true]
  rw [this]
  simp only
  rw [if_pos ⟨hn, by omega⟩]
  have : splice cs 0 vs = vs := by simp [splice]; omega
  rw [this]

def putA (M : Mem) (n b : Nat) (vs : List V) : Option Blk → Option (V × Mem)
  | some (.own cs T) => if (vs.all V.one) = true ∧ vs.length = n ∧ cs.length = n then some (.undef, M.set b (.own vs T)) else stGo M n (.agg vs) (.ptr b 0)
  | _ => stGo M n (.agg vs) (.ptr b 0)
theorem stGo_putA {M : Mem} {n b : Nat} {vs : List V} (h1 : (n = 1) = False) : stGo M n (.agg vs) (.ptr b 0) = putA M n b vs M[b]? := by
  unfold putA
  split
  · rename_i cs T h
    split
    · rename_i hc
      rw [stGo_agg h (by simp [h1]) hc.1 hc.2.1 hc.2.2]
    · rfl
  · rfl
theorem putA_own {M : Mem} {n b T : Nat} {vs cs : List V} (h1 : (vs.all V.one) = true) (h2 : vs.length = n) (h3 : cs.length = n) : putA M n b vs (some (.own cs T)) = some (.undef, M.set b (.own vs T)) := by
  simp only [putA, h1, h2, h3, and_self, if_true]

/-- cells of a block at hand -/
def rangeB : Option Blk → Nat → Nat → Option V
  | some (.own cs _), o, n => if o + n ≤ cs.length then (let r := (cs.drop o).take n; if r.all V.known then some (.agg r) else none) else none
  | some (.ints k xs _), o, n => if o = 0 ∧ n = xs.length then some (.ints k xs) else if o + n ≤ xs.length then some (.ints k ((xs.drop o).take n)) else none
  | some (.vec k xs _), o, n => if o + n ≤ xs.length then some (.ints k ((xs.drop o).take n)) else none
  | none, _, _ => none
theorem range_eqB {M : Mem} {b o n : Nat} : M.range b o n = rangeB M[b]? o n := by
  unfold Mem.range rangeB
  cases M[b]? with
  | none => rfl
  | some B => cases B <;> rfl
theorem rangeB_ints {k : IntKind} {xs : List Int} {T n : Nat} (hn : n = xs.length) : rangeB (some (.ints k xs T)) 0 n = some (.ints k xs) := by simp [rangeB, hn]
end Go.VM
end
