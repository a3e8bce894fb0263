/-
  A part of a small machine over the model, or of a walk by it, proved right against the model. Proved outright, under no condition but what each theorem names.
-/
import Derived.Test.YtahmhofnilgfgaaVQ
namespace Go.VM
open Go

/-! One operation, step by step: rules that fit where the shape is known. -/
def cellB : Option Blk → Nat → Option V
  | some (.own cs _), o => cs[o]?
  | some (.ints k xs _), o => intO k xs[o]?
  | some (.vec k xs _), o => intO k xs[o]?
  | none, _ => none
where intO (k : IntKind) : Option Int → Option V
  | some n => some (.int k n)
  | none => none

section
variable {C : Ctx} {M : Mem} {e : Env} {b o n sz : Nat} {k k' : IntKind} {i m : Int} {v : V} {cs : List V} {xs : List Int} {T : Nat}

theorem vld_ptr : vld C M (.ptr b o) = cellB M[b]? o := by
  simp only [vld, Mem.cell]
  cases h : M[b]? with
  | none => rfl
  | some B =>
    cases B with
    | own cs T => rfl
    | ints k xs T => simp only [cellB]; cases xs[o]? <;> rfl
    | vec k xs T => simp only [cellB]; cases xs[o]? <;> rfl
theorem vld_raw {a : Addr} {u : Value} (h : C.ext a = some u) : vld C M (.raw (.pointer (some a))) = some (V.ofVal u) := by simp [vld, h]
theorem cellB_own : cellB (some (.own cs T)) o = cs[o]? := rfl
theorem cellB_ints (h : xs[o]? = some m) : cellB (some (.ints k xs T)) o = some (.int k m) := by simp [cellB, h, cellB.intO]
theorem cellB_vec (h : xs[o]? = some m) : cellB (some (.vec k xs T)) o = some (.int k m) := by simp [cellB, h, cellB.intO]

def lenB : Option Blk → Nat → Option V
  | some (.vec _ xs _), n => if xs.length = n then some (.int .i64 n) else none
  | _, _ => none
theorem vlen_slice {c} : vlen M (.slice b o n c) = some (.int .i64 n) := rfl
theorem vlen_nils : vlen M .nils = some (.int .i64 0) := rfl
theorem vlen_vec : vlen M (.vec b n) = lenB M[b]? n := by
  simp only [vlen]
  split <;> rename_i h
  · rw [h]; rfl
  · cases hb : M[b]? with
    | none => rfl
    | some B => cases B <;> first | rfl | exact absurd hb (h _ _ _)
theorem lenB_vec (h : xs.length = n) : lenB (some (.vec k xs T)) n = some (.int .i64 n) := by simp [lenB, h]

theorem vidxA_ptr (h1 : 0 ≤ i) (h2 : i < n) : vidxA n sz (.ptr b o) (.int k i) = some (.ptr b (o + i.toNat * sz)) := by simp [vidxA, h1, h2]
theorem vidxA_raw {a : Addr} (h1 : 0 ≤ i) (h2 : i < n) : vidxA n sz (.raw (.pointer (some a))) (.int k i) = some (.raw (.pointer (some (a.add (i.toNat * sz))))) := by simp [vidxA, h1, h2]
theorem vidxS_slice {c} (h1 : 0 ≤ i) (h2 : i < n) : vidxS M sz (.slice b o n c) (.int k i) = some (.ptr b (o + i.toNat * sz)) := by simp [vidxS, h1, h2]
theorem vidxS_vec (h : M[b]? = some (.vec k' xs T)) (hl : xs.length = n) (h1 : 0 ≤ i) (h2 : i < n) : vidxS M sz (.vec b n) (.int k i) = some (.ptr b (i.toNat * sz)) := by simp [vidxS, h, hl, h1, h2]
theorem vidxV_ints (h1 : 0 ≤ i) (h2 : i < n) (h : xs[i.toNat]? = some m) : vidxV false n 1 (.ints k xs) (.int k' i) = some (.int k m) := by simp [vidxV, h1, h2, vpart, h]

theorem vbin_add {a b : Int} : vbin .add (.int k a) (.int k b) = some (.int k (k.wrap (a + b))) := by simp [vbin]
theorem vbin_sub {a b : Int} : vbin .sub (.int k a) (.int k b) = some (.int k (k.wrap (a - b))) := by simp [vbin]
theorem vbin_mul {a b : Int} : vbin .mul (.int k a) (.int k b) = some (.int k (k.wrap (a * b))) := by simp [vbin]
theorem vbin_quo {a b : Int} (h : b ≠ 0) : vbin .quo (.int k a) (.int k b) = some (.int k (k.wrap (a.tdiv b))) := by simp [vbin, h]
theorem vbin_rem {a b : Int} (h : b ≠ 0) : vbin .rem (.int k a) (.int k b) = some (.int k (a.tmod b)) := by simp [vbin, h]
theorem vbin_and {a b : Int} : vbin .and (.int k a) (.int k b) = some (.int k (bits .and k a b)) := by simp [vbin]
theorem vbin_or {a b : Int} : vbin .or (.int k a) (.int k b) = some (.int k (bits .or k a b)) := by simp [vbin]
theorem vbin_xor {a b : Int} : vbin .xor (.int k a) (.int k b) = some (.int k (bits .xor k a b)) := by simp [vbin]
theorem vbin_eql {a b : Int} : vbin .eql (.int k a) (.int k b) = some (.bool (decide (a = b))) := by simp [vbin]; rfl
theorem vbin_neq {a b : Int} : vbin .neq (.int k a) (.int k b) = some (.bool (!decide (a = b))) := by simp [vbin]; rfl
theorem vbin_lss {a b : Int} : vbin .lss (.int k a) (.int k b) = some (.bool (decide (a < b))) := by simp [vbin]
theorem vbin_leq {a b : Int} : vbin .leq (.int k a) (.int k b) = some (.bool (decide (a ≤ b))) := by simp [vbin]
theorem vbin_gtr {a b : Int} : vbin .gtr (.int k a) (.int k b) = some (.bool (decide (b < a))) := by simp [vbin]
theorem vbin_geq {a b : Int} : vbin .geq (.int k a) (.int k b) = some (.bool (decide (b ≤ a))) := by simp [vbin]
theorem vbin_shl {a b : Int} (h : 0 ≤ b) : vbin .shl (.int k a) (.int k' b) = some (.int k (k.wrap (a * 2 ^ (min b.toNat k.bits)))) := by
  have : ¬ b < 0 := by omega
  simp [vbin, this]
theorem vbin_shr {a b : Int} (h : 0 ≤ b) : vbin .shr (.int k a) (.int k' b) = some (.int k (a.fdiv (2 ^ (min b.toNat k.bits)))) := by
  have : ¬ b < 0 := by omega
  simp [vbin, this]
theorem vbin_shr_lit {a b : Int} (h : 0 ≤ b) (h1 : b.toNat ≤ k.bits) : vbin .shr (.int k a) (.int k' b) = some (.int k (a / 2 ^ b.toNat)) := by
  have h0 : ¬ b < 0 := by omega
  simp only [vbin, h0, if_false, Nat.min_eq_left h1]
  rw [Int.fdiv_eq_ediv_of_nonneg _ (Int.le_of_lt (Int.pow_pos (by decide)))]
theorem vbin_shl_lit {a b : Int} (h : 0 ≤ b) (h1 : b.toNat ≤ k.bits) : vbin .shl (.int k a) (.int k' b) = some (.int k (k.wrap (a * 2 ^ b.toNat))) := by
  have h0 : ¬ b < 0 := by omega
  simp only [vbin, h0, if_false, Nat.min_eq_left h1]
theorem vun_neg {a : Int} : vun .neg (.int k a) = some (.int k (k.wrap (0 - a))) := rfl
theorem vun_not {t : Bool} : vun .not (.bool t) = some (.bool (!t)) := rfl

theorem vop_mov {x} : vop C e M (.mov x) = some (x.ev e, M) := rfl
def pickGo : V → V → V → Mem → Option (V × Mem)
  | .bool t, a, b, M => some (if t then a else b, M)
  | _, _, _, _ => none
theorem vop_pick {c a b} : vop C e M (.pick c a b) = pickGo (c.ev e) (a.ev e) (b.ev e) M := by simp only [vop]; cases c.ev e <;> rfl
theorem pickGo_bool {t : Bool} {a b : V} : pickGo (.bool t) a b M = some (if t then a else b, M) := rfl
def nilGo : V → Mem → Option (V × Mem)
  | .ptr b o, M => some (.ptr b o, M)
  | .raw (.pointer (some a)), M => some (.raw (.pointer (some a)), M)
  | .fn f cap, M => some (.fn f cap, M)
  | _, _ => none
theorem vop_nilck {x} : vop C e M (.nilck x) = nilGo (x.ev e) M := by simp only [vop]; split <;> simp_all [nilGo]
theorem nilGo_ptr : nilGo (.ptr b o) M = some (.ptr b o, M) := rfl
theorem nilGo_raw {a} : nilGo (.raw (.pointer (some a))) M = some (.raw (.pointer (some a)), M) := rfl
theorem nilGo_fn {f cap} : nilGo (.fn f cap) M = some (.fn f cap, M) := rfl
/-- the value alone -/
def valGo (M : Mem) : Option V → Option (V × Mem)
  | some v => some (v, M)
  | none => none
theorem valGo_some : valGo M (some v) = some (v, M) := rfl
theorem vop_bin {op x y} : vop C e M (.bin op x y) = valGo M (vbin op (x.ev e) (y.ev e)) := by simp only [vop]; cases vbin op (x.ev e) (y.ev e) <;> rfl
theorem vop_un {op x} : vop C e M (.un op x) = valGo M (vun op (x.ev e)) := by simp only [vop]; cases vun op (x.ev e) <;> rfl
def vconv (k : IntKind) : V → Option V
  | .int _ n => some (.int k (k.wrap n))
  | _ => none
theorem vop_conv {x} : vop C e M (.conv k x) = valGo M (vconv k (x.ev e)) := by simp only [vop]; cases x.ev e <;> rfl
theorem vconv_int : vconv k (.int k' i) = some (.int k (k.wrap i)) := rfl
def vfld (off : Nat) : V → Option V
  | .ptr b o => some (.ptr b (o + off))
  | _ => none
theorem vop_fld {off x} : vop C e M (.fld off x) = valGo M (vfld off (x.ev e)) := by simp only [vop]; cases x.ev e <;> rfl
theorem vfld_ptr {off} : vfld off (.ptr b o) = some (.ptr b (o + off)) := rfl
theorem vop_idxA {x j} : vop C e M (.idxA n sz x j) = valGo M (vidxA n sz (x.ev e) (j.ev e)) := by simp only [vop]; cases vidxA n sz (x.ev e) (j.ev e) <;> rfl
theorem vop_idxS {x j} : vop C e M (.idxS sz x j) = valGo M (vidxS M sz (x.ev e) (j.ev e)) := by simp only [vop]; cases vidxS M sz (x.ev e) (j.ev e) <;> rfl
theorem vop_ld {x} : vop C e M (.ld x) = valGo M (vld C M (x.ev e)) := by simp only [vop]; cases vld C M (x.ev e) <;> rfl
def vldA (M : Mem) (n : Nat) : V → Option V
  | .ptr b o => M.range b o n
  | _ => none
theorem vop_ldA {x} : vop C e M (.ldA n x) = valGo M (vldA M n (x.ev e)) := by
  simp only [vop]
  cases x.ev e <;> simp only [vldA, valGo]
  rename_i b o
  cases M.range b o n <;> rfl
theorem vldA_ptr : vldA M n (.ptr b o) = M.range b o n := rfl
theorem range_ints (h : M[b]? = some (.ints k xs T)) (hn : n = xs.length) : M.range b 0 n = some (.ints k xs) := by simp [Mem.range, h, hn]
def stGo (M : Mem) (n : Nat) (v : V) : V → Option (V × Mem)
  | .ptr b o => match M.put b o n v with
    | some M' => some (.undef, M')
    | none => none
  | _ => none
theorem vop_st {x y} : vop C e M (.st n x y) = stGo M n (y.ev e) (x.ev e) := by simp only [vop]; cases x.ev e <;> rfl
theorem stGo_own (h : M[b]? = some (.own cs T)) (hv : v.one = true) (ho : o < cs.length) : stGo M 1 v (.ptr b o) = some (.undef, M.set b (.own (cs.set o v) T)) := by
  simp only [stGo]; rw [Mem_put_own h rfl hv ho]
theorem stGo_ints (h : M[b]? = some (.ints k xs T)) (ho : o < xs.length) : stGo M 1 (.int k m) (.ptr b o) = some (.undef, M.set b (.ints k (xs.set o m) T)) := by
  simp only [stGo]; rw [Mem_put_ints h rfl ho]
theorem stGo_all {ys : List Int} (h : M[b]? = some (.ints k xs T)) (hn : n = ys.length) (hl : ys.length = xs.length) : stGo M n (.ints k ys) (.ptr b 0) = some (.undef, M.set b (.ints k ys T)) := by
  simp only [stGo, Mem.put, h]
  rw [if_pos ⟨trivial, hn, by omega⟩, if_pos ⟨trivial, by omega⟩]
theorem vop_alloc {B} : vop C e M (.alloc B) = some (.ptr M.length 0, M ++ [B]) := rfl
def boxGo (M : Mem) : Option Blk → Option (V × Mem)
  | some b => some (.ptr M.length 0, M ++ [b])
  | none => none
theorem vop_box {x} : vop C e M (.box T x) = boxGo M (vbox T (x.ev e)) := by simp only [vop]; cases vbox T (x.ev e) <;> rfl
theorem boxGo_some {B} : boxGo M (some B) = some (.ptr M.length 0, M ++ [B]) := rfl
theorem vbox_ints : vbox T (.ints k xs) = some (.ints k xs T) := rfl
theorem vbox_int : vbox T (.int k i) = some (.own [.int k i] T) := rfl
theorem vbox_bool {t} : vbox T (.bool t) = some (.own [.bool t] T) := rfl
theorem vbox_ptr : vbox T (.ptr b o) = some (.own [.ptr b o] T) := rfl
def tupGo (i : Nat) : V → Option V
  | .tup vs => match vs[i]? with
    | some v => if v.known then some v else none
    | none => none
  | _ => none
theorem vop_tupx {x j} : vop C e M (.tupx x j) = valGo M (tupGo j (x.ev e)) := by
  simp only [vop]
  cases x.ev e <;> simp only [tupGo, valGo]
  rename_i vs
  cases vs[j]? with
  | none => rfl
  | some u => simp only; cases u.known <;> rfl
theorem tupGo_tup {vs : List V} {j : Nat} (h : vs[j]? = some v) (hk : v.known = true) : tupGo j (.tup vs) = some v := by simp [tupGo, h, hk]
def knownGo : Option V → Option V
  | some v => if v.known then some v else none
  | none => none
theorem knownGo_int : knownGo (some (.int k i)) = some (.int k i) := rfl
theorem vop_idxV {g x j} : vop C e M (.idxV g n sz x j) = valGo M (knownGo (vidxV g n sz (x.ev e) (j.ev e))) := by
  simp only [vop]
  cases vidxV g n sz (x.ev e) (j.ev e) with
  | none => rfl
  | some u => simp only [knownGo]; cases u.known <;> rfl
theorem vop_part {g off x} : vop C e M (.part g off n x) = valGo M (knownGo (vpart g off n (x.ev e))) := by
  simp only [vop]
  cases vpart g off n (x.ev e) with
  | none => rfl
  | some u => simp only [knownGo]; cases u.known <;> rfl
theorem vop_build {z ps} : vop C e M (.build z ps) = valGo M (vfill (ps.map fun (o, n, x) => (o, n, x.ev e)) z) := by
  simp only [vop]
  cases vfill (ps.map fun (o, n, x) => (o, n, x.ev e)) z <;> rfl
theorem vfill_nil {z} : vfill [] z = some z := rfl
theorem vop_mkfn {f cap} (h : ((cap.map (X.ev e)).all V.known) = true) : vop C e M (.mkfn f cap) = some (.fn f (cap.map (X.ev e)), M) := by simp [vop, h]
theorem vop_len {x} : vop C e M (.len x) = valGo M (vlen M (x.ev e)) := by simp only [vop]; cases vlen M (x.ev e) <;> rfl

theorem vres1_tmp {t} : vres1 e M (.tmp t) = knownGo (some (e.get t)) := rfl
def cellsGo (M : Mem) (n : Nat) : V → Option V
  | .ptr b o => M.range b o n
  | _ => none
theorem vres1_cells {t} : vres1 e M (.cells t n) = cellsGo M n (e.get t) := by simp only [vres1]; cases e.get t <;> rfl
theorem cellsGo_ptr : cellsGo M n (.ptr b o) = M.range b o n := rfl
theorem knownGo_bool {t} : knownGo (some (.bool t)) = some (.bool t) := rfl
theorem knownGo_ints : knownGo (some (.ints k xs)) = some (.ints k xs) := rfl
end
end Go.VM
