/-
  A part of a small machine over the model, or of a walk by it, proved right against the model. Proved outright, under no condition but what each theorem names.
-/
import Derived.Test.YtahmhofnilgfgaaVC
namespace Go.VM
open Go

/-! Quiet operations: they leave the world alone. -/
section
variable {C : Ctx} {ρ : Nat → Nat} {κ : Nat → Option Nat} {M : Mem} {w : World} {e : Env} {n : Nat} {a : Act}

theorem sizeT_run {P : Program} {t s : Nat} (h : sizeT P t = some s) (w : World) : (sizeOf t).run P w = .ok s w := by
  unfold sizeT at h
  split at h
  · rename_i i hi; cases h; simp [sizeOf, typeInfo, hi]
  · cases h

theorem zeroT_run {P : Program} {t : Nat} {z : Value} (h : zeroT P t = some z) (w : World) : (zeroValue t).run P w = .ok z w := by
  unfold zeroT at h
  split at h
  · rename_i i hi; simp [zeroValue, typeInfo, hi, h]
  · cases h

theorem aggT_run {P : Program} {t : Nat} {b : Bool} (h : aggT P t = some b) (w : World) : (isAgg t).run P w = .ok b w := by
  unfold aggT at h
  split at h
  · rename_i fs hu; cases h; simp [isAgg, run_underlying hu]
  · rename_i n el hu; cases h; simp [isAgg, run_underlying hu]
  · rename_i d h1 h2 hu
    cases h
    simp only [isAgg, Sem.run_bind, run_underlying hu, Result.andThen_ok]
    rfl
  · cases h

/-- the form in which execOp hands a value on -/
theorem exec_value {P : Program} {s : Sem Value} {x : Value} {w' : World} (h : s.run P w = .ok x w') :
    ((do let r ← s; pure (Next.value r)) : Sem Next).run P w = .ok (.value x) w' := by simp [h]

theorem known_ne {v : V} (h : v.known = true) : v ≠ .undef := by rintro rfl; cases h

theorem q_mov (hE : EnvRel ρ κ e n a) (hcl : EnvCl M.length e) (o : Oper) (x : Operand) (ho : o.op = .move x ∨ o.op = .assign x) :
    QOut ρ κ M.length w ((execOp a.eval o).run C.P w) ((compX x).ev e) := by
  refine ⟨a.eval x, ?_, fun hu => ev_real hE x hu, ev_cl hcl x⟩
  rcases ho with ho | ho <;> simp [execOp, ho]

theorem q_pick (hE : EnvRel ρ κ e n a) (hcl : EnvCl M.length e) (o : Oper) (c x y : Operand) (ho : o.op = .pick c x y) (t : Bool) (hc : (compX c).ev e = .bool t) :
    QOut ρ κ M.length w ((execOp a.eval o).run C.P w) (if t then (compX x).ev e else (compX y).ev e) := by
  have h := ev_real hE c (by rw [hc]; simp)
  rw [hc] at h
  simp only [V.real] at h
  refine ⟨if t then a.eval x else a.eval y, ?_, ?_, ?_⟩
  · simp [execOp, ho, h, asBool]
  · cases t
    · exact fun hu => ev_real hE y hu
    · exact fun hu => ev_real hE x hu
  · cases t
    · exact ev_cl hcl y
    · exact ev_cl hcl x

theorem q_nilck (hE : EnvRel ρ κ e n a) (hcl : EnvCl M.length e) (o : Oper) (x : Operand) (ho : o.op = .nilCheck x) (v : V) (M' : Mem)
    (h : vop C e M (.nilck (compX x)) = some (v, M')) :
    M' = M ∧ QOut ρ κ M.length w ((execOp a.eval o).run C.P w) v := by
  have hcx := ev_cl hcl x
  simp only [vop] at h
  split at h
  · rename_i b off hv
    cases h
    have hr := ev_real hE x (by rw [hv]; simp)
    rw [hv] at hr hcx
    refine ⟨rfl, QOut.known ?_ hcx⟩
    simp [execOp, ho, hr, V.real]
  · rename_i ad hv
    cases h
    have hr := ev_real hE x (by rw [hv]; simp)
    rw [hv] at hr hcx
    refine ⟨rfl, QOut.known ?_ hcx⟩
    simp [execOp, ho, hr, V.real]
  · rename_i f cap hv
    cases h
    have hr := ev_real hE x (by rw [hv]; simp)
    rw [hv] at hr hcx
    refine ⟨rfl, QOut.known ?_ hcx⟩
    simp [execOp, ho, hr, V.real]
  · cases h

theorem q_bin (hE : EnvRel ρ κ e n a) (o : Oper) (op : BinOp) (t t' : TypeId) (x y : Operand) (ho : o.op = .binOp op t x y t') (v : V)
    (h : vbin op ((compX x).ev e) ((compX y).ev e) = some v) :
    QOut ρ κ M.length w ((execOp a.eval o).run C.P w) v := by
  have hx : (compX x).ev e ≠ .undef := by intro hu; rw [hu] at h; simp [vbin] at h
  have hy : (compX y).ev e ≠ .undef := by intro hu; rw [hu] at h; unfold vbin at h; split at h <;> simp_all
  obtain ⟨hr, hn⟩ := run_bin (P := C.P) w op t _ _ v h ρ κ x y
  refine QOut.known ?_ (cl_nil hn)
  simp only [execOp, ho, ev_real hE x hx, ev_real hE y hy]
  exact exec_value hr

theorem q_un (hE : EnvRel ρ κ e n a) (o : Oper) (op : UnOp) (t : TypeId) (x : Operand) (ho : o.op = .unOp op t x) (v : V)
    (h : vun op ((compX x).ev e) = some v) :
    QOut ρ κ M.length w ((execOp a.eval o).run C.P w) v := by
  have hx : (compX x).ev e ≠ .undef := by intro hu; rw [hu] at h; simp [vun] at h
  have hr := ev_real hE x hx
  unfold vun at h
  split at h
  · rename_i k m hv
    rw [hv] at hr
    cases op <;> simp only at h <;> cases h
    · refine QOut.known ?_ (cl_nil rfl)
      simp [execOp, ho, hr, V.real, Op.unary, Op.intArith]
    · refine QOut.known ?_ (cl_nil rfl)
      simp [execOp, ho, hr, V.real, Op.unary, Op.intBits, bits]
  · rename_i b hv
    rw [hv] at hr
    cases op <;> simp only at h <;> cases h
    refine QOut.known ?_ (cl_nil rfl)
    simp [execOp, ho, hr, V.real, Op.unary]
  · cases h

theorem q_conv (hE : EnvRel ρ κ e n a) (o : Oper) (src dst : TypeId) (x : Operand) (ho : o.op = .convert src dst x) (d : TypeDesc) (k : IntKind)
    (hs : C.P.underlying src = some d) (hd : C.P.underlying dst = some (.int k)) (k' : IntKind) (m : Int) (h : (compX x).ev e = .int k' m) :
    QOut ρ κ M.length w ((execOp a.eval o).run C.P w) (.int k (k.wrap m)) := by
  have hr := ev_real hE x (by rw [h]; simp)
  rw [h] at hr
  refine QOut.known ?_ (cl_nil rfl)
  simp only [execOp, ho, hr, V.real]
  refine exec_value ?_
  simp only [convert, Sem.run_bind, run_underlying hs, run_underlying hd, Result.andThen_ok, Conv.intToInt]
  simp

theorem q_fld (hE : EnvRel ρ κ e n a) (hcl : EnvCl M.length e) (o : Oper) (s : TypeId) (x : Operand) (f : Nat) (ho : o.op = .fieldAddr s x f) (fs : Array Field) (fd : Field) (sz : Nat)
    (hs : C.P.underlying s = some (.struct fs)) (hf : fs[f]? = some fd) (hz : sizeT C.P fd.type = some (sz + 1)) (b off : Nat) (h : (compX x).ev e = .ptr b off) :
    QOut ρ κ M.length w ((execOp a.eval o).run C.P w) (.ptr b (off + fd.offset)) := by
  have hr := ev_real hE x (by rw [h]; simp)
  have hcx := ev_cl hcl x
  rw [h] at hr hcx
  refine QOut.known ?_ (by intro r hr; exact hcx r (by simpa [V.refs] using hr))
  simp only [execOp, ho, hr, V.real]
  refine exec_value ?_
  simp only [Instr.fieldAt, Sem.run_bind, run_underlying hs, Result.andThen_ok, hf, Instr.sureAddr, Sem.run_pure, fieldPlace, sizeT_run hz]
  simp [Addr.add_lit]

theorem q_idxA (hE : EnvRel ρ κ e n a) (hcl : EnvCl M.length e) (o : Oper) (t : TypeId) (x i : Operand) (ho : o.op = .indexAddr t x i) (len el sz : Nat)
    (hs : C.P.underlying t = some (.array len el)) (hz : sizeT C.P el = some sz) (v : V) (h : vidxA len sz ((compX x).ev e) ((compX i).ev e) = some v) :
    QOut ρ κ M.length w ((execOp a.eval o).run C.P w) v := by
  have hcx := ev_cl hcl x
  unfold vidxA at h
  split at h
  · rename_i b off k j hx hi
    split at h
    · rename_i hb
      cases h
      have hr := ev_real hE x (by rw [hx]; simp)
      have hri := ev_real hE i (by rw [hi]; simp)
      rw [hx] at hr hcx
      rw [hi] at hri
      refine QOut.known ?_ (by intro r hr; exact hcx r (by simpa [V.refs] using hr))
      simp only [execOp, ho, hr, hri, V.real]
      refine exec_value ?_
      simp only [Instr.indexAt, asIntOf, Sem.run_bind, Sem.run_pure, Result.andThen_ok, run_underlying hs, Instr.sureAddr, hb.1, hb.2, and_self, if_true, sizeT_run hz]
      simp [Addr.add_lit]
    · cases h
  · rename_i ad k j hx hi
    split at h
    · rename_i hb
      cases h
      have hr := ev_real hE x (by rw [hx]; simp)
      have hri := ev_real hE i (by rw [hi]; simp)
      rw [hx] at hr hcx
      rw [hi] at hri
      refine QOut.known ?_ (cl_nil rfl)
      simp only [execOp, ho, hr, hri, V.real]
      refine exec_value ?_
      simp only [Instr.indexAt, asIntOf, Sem.run_bind, Sem.run_pure, Result.andThen_ok, run_underlying hs, Instr.sureAddr, hb.1, hb.2, and_self, if_true, sizeT_run hz]
    · cases h
  · cases h

theorem q_idxS (hR : Rel C ρ κ M w) (hE : EnvRel ρ κ e n a) (hcl : EnvCl M.length e) (o : Oper) (t : TypeId) (x i : Operand) (ho : o.op = .indexAddr t x i) (el sz : Nat)
    (hs : C.P.underlying t = some (.slice el)) (hz : sizeT C.P el = some sz) (v : V) (h : vidxS M sz ((compX x).ev e) ((compX i).ev e) = some v) :
    QOut ρ κ M.length w ((execOp a.eval o).run C.P w) v := by
  have hcx := ev_cl hcl x
  unfold vidxS at h
  split at h
  · rename_i b off len cap k j hx hi
    split at h
    · rename_i hb
      cases h
      have hr := ev_real hE x (by rw [hx]; simp)
      have hri := ev_real hE i (by rw [hi]; simp)
      rw [hx] at hr hcx
      rw [hi] at hri
      refine QOut.known ?_ (by intro r hr; exact hcx r (by simpa [V.refs] using hr))
      simp only [execOp, ho, hr, hri, V.real]
      refine exec_value ?_
      simp only [Instr.indexAt, asIntOf, Sem.run_bind, Sem.run_pure, Result.andThen_ok, run_underlying hs, hb.1, hb.2, and_self, if_true, sizeT_run hz]
      simp [Addr.add_lit]
    · cases h
  · rename_i b len k j hx hi
    split at h
    · rename_i k2 xs T hM
      split at h
      · rename_i hb
        cases h
        have hr := ev_real hE x (by rw [hx]; simp)
        have hri := ev_real hE i (by rw [hi]; simp)
        rw [hx] at hr hcx
        rw [hi] at hri
        have hbk := hR.blk b _ hM
        rcases hbk with ⟨_, hnil⟩ | ⟨c, cells, hk, _⟩
        · subst hnil
          have := hb.1; simp at this
          omega
        refine QOut.known ?_ (by intro r hr; exact hcx r (by simpa [V.refs] using hr))
        simp only [execOp, ho, hr, hri, V.real, hk]
        refine exec_value ?_
        simp only [Instr.indexAt, asIntOf, Sem.run_bind, Sem.run_pure, Result.andThen_ok, run_underlying hs, hb.2.1, hb.2.2, and_self, if_true, sizeT_run hz]
        simp [Addr.add_lit]
      · cases h
    · cases h
  · rename_i ad len cap k j hx hi
    split at h
    · rename_i hb
      cases h
      have hr := ev_real hE x (by rw [hx]; simp)
      have hri := ev_real hE i (by rw [hi]; simp)
      rw [hx] at hr hcx
      rw [hi] at hri
      refine QOut.known ?_ (cl_nil rfl)
      simp only [execOp, ho, hr, hri, V.real]
      refine exec_value ?_
      simp only [Instr.indexAt, asIntOf, Sem.run_bind, Sem.run_pure, Result.andThen_ok, run_underlying hs, hb.1, hb.2, and_self, if_true, sizeT_run hz]
    · cases h
  · cases h

end
end Go.VM
