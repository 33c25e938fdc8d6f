/- The engine's operations: what each operation yields, one lemma each. -/
import Derived.Test.YtdjilplpbaackaaDoorEng
import Derived.IntWalk
set_option linter.unusedVariables false
set_option linter.unusedSimpArgs false
namespace Go.Proofs.YtdjilplpbaackaaDoor.Eng
open Go

/-! ### What the types say -/
def scalarT (P : Program) (T : TypeId) : Bool := match P.underlying T with | some (.struct _) | some (.array _ _) | none => false | _ => true
def sizeT (P : Program) (T : TypeId) : Option Nat := (P.info? T).map (·.size)
def fieldT (P : Program) (T f : Nat) : Option Nat :=
  match P.underlying T with
  | some (.struct fs) => (match fs[f]? with
    | some fl => (match P.info? fl.type with
      | some i => if i.size = 0 then none else some fl.offset
      | none => none)
    | none => none)
  | _ => none
def arrT (P : Program) (T : TypeId) : Option (Nat × Nat) :=
  match P.underlying T with
  | some (.array n e) => (match P.info? e with | some i => some (n, i.size) | none => none)
  | _ => none
def sliceT (P : Program) (T : TypeId) : Option Nat :=
  match P.underlying T with
  | some (.slice e) => (match P.info? e with | some i => some i.size | none => none)
  | _ => none
def intT (P : Program) (T : TypeId) : Option IntKind := match P.underlying T with | some (.int k) => some k | _ => none
def someT (P : Program) (T : TypeId) : Bool := (P.underlying T).isSome
def ifaceT (P : Program) (T : TypeId) : Bool := match P.underlying T with | some (.interface _) => true | _ => false

section
variable {P : Program} {T : TypeId}
theorem scalarT_spec (h : scalarT P T = true) : (isAgg T).run P = fun w => .ok false w := by
  funext w
  unfold scalarT at h
  unfold isAgg underlying
  cases hu : P.underlying T with
  | none => simp [hu] at h
  | some d => cases d <;> simp_all
theorem sizeT_spec {n : Nat} (h : sizeT P T = some n) (w : World) : (sizeOf T).run P w = .ok n w := by
  unfold sizeT at h
  unfold sizeOf typeInfo
  cases hi : P.info? T with
  | none => simp [hi] at h
  | some i => simp [hi] at h; simp [hi, h]
theorem underlying_spec {d : TypeDesc} (h : P.underlying T = some d) (w : World) : (underlying T).run P w = .ok d w := by
  simp [underlying, h]
end

/-! ### Walking a region -/
section
variable {P : Program} {ops : List Oper} {K : Kont} {σ : Env} {w : World} {o : Oper} {rest : List Oper} {v : Value} {d : Nat}
def Yd (P : Program) (o : Oper) (σ : Env) (w : World) (v : Value) : Prop := (execOp (ev σ) o).run P w = .ok (.value v) w
theorem wantedE_none (hg : o.guard = none) : wantedE ops o σ = true := by simp [wantedE, hg]
theorem RL_nil (h : K σ w) : RL P ops [] σ w K := h
theorem RL_v (hg : o.guard = none) (hd : o.dst = some d) (hy : Yd P o σ w v) (h : RL P ops rest (upd σ d v) w K) : RL P ops (o :: rest) σ w K := by
  unfold RL; rw [if_pos (wantedE_none hg), hy, hd]; exact h
theorem RL_gv (hw : wantedE ops o σ = true) (hd : o.dst = some d) (hy : Yd P o σ w v) (h : RL P ops rest (upd σ d v) w K) : RL P ops (o :: rest) σ w K := by
  unfold RL; rw [if_pos hw, hy, hd]; exact h
theorem RL_skip (hw : wantedE ops o σ = false) (hd : o.dst = some d) (h : RL P ops rest (upd σ d undef) w K) : RL P ops (o :: rest) σ w K := by
  unfold RL; rw [if_neg (by rw [hw]; exact Bool.false_ne_true), hd]; exact h
theorem RD_nil (h : RL P ops rest σ w K) : RD P ops w 0 rest σ K := h
theorem RD_v {n : Nat} (hg : o.guard = none) (hd : o.dst = some d) (hy : Yd P o σ w v) (h : RD P ops w n rest (upd σ d v) K) : RD P ops w (n + 1) (o :: rest) σ K := by
  unfold RD; rw [if_pos (wantedE_none hg), hd]; exact ⟨v, hy, h⟩
theorem RD_gv {n : Nat} (hw : wantedE ops o σ = true) (hd : o.dst = some d) (hy : Yd P o σ w v) (h : RD P ops w n rest (upd σ d v) K) : RD P ops w (n + 1) (o :: rest) σ K := by
  unfold RD; rw [if_pos hw, hd]; exact ⟨v, hy, h⟩
theorem RD_skip {n : Nat} (hw : wantedE ops o σ = false) (hd : o.dst = some d) (h : RD P ops w n rest (upd σ d undef) K) : RD P ops w (n + 1) (o :: rest) σ K := by
  unfold RD; rw [if_neg (by rw [hw]; exact Bool.false_ne_true), hd]; exact h
/-- An operation that hands back a value and another world. -/
def Yw (P : Program) (o : Oper) (σ : Env) (w : World) (v : Value) (w' : World) : Prop := (execOp (ev σ) o).run P w = .ok (.value v) w'
theorem RL_w {w' : World} (hg : o.guard = none) (hd : o.dst = some d) (hy : Yw P o σ w v w') (h : RL P ops rest (upd σ d v) w' K) : RL P ops (o :: rest) σ w K := by
  unfold RL; rw [if_pos (wantedE_none hg), hy, hd]; exact h
theorem RL_w0 {w' : World} (hg : o.guard = none) (hd : o.dst = none) (hy : Yw P o σ w v w') (h : RL P ops rest σ w' K) : RL P ops (o :: rest) σ w K := by
  unfold RL; rw [if_pos (wantedE_none hg), hy, hd]; exact h

variable {T U : TypeId} {x y z : Operand}
theorem yd_move (ho : o.op = .move x) : Yd P o σ w (ev σ x) := by simp [Yd, execOp, ho]
theorem yd_assign (ho : o.op = .assign x) : Yd P o σ w (ev σ x) := by simp [Yd, execOp, ho]
theorem yd_pick {r : Bool} (ho : o.op = .pick x y z) (hx : ev σ x = .bool r) : Yd P o σ w (cond r (ev σ y) (ev σ z)) := by
  cases r <;> simp [Yd, execOp, ho, hx, asBool]
theorem yd_nil {p : Addr} (ho : o.op = .nilCheck x) (hx : ev σ x = .pointer (some p)) : Yd P o σ w (.pointer (some p)) := by
  simp [Yd, execOp, ho, hx]
theorem add_none (b p n : Nat) : Addr.add ⟨b, p, none⟩ n = ⟨b, p + n, none⟩ := by
  unfold Addr.add; split <;> simp_all
theorem yd_field {f off b p : Nat} (ho : o.op = .fieldAddr T x f) (ht : fieldT P T f = some off) (hx : ev σ x = .pointer (some ⟨b, p, none⟩)) :
    Yd P o σ w (.pointer (some ⟨b, p + off, none⟩)) := by
  unfold fieldT at ht
  cases hu : P.underlying T with
  | none => simp [hu] at ht
  | some dd =>
    cases dd <;> simp [hu] at ht
    rename_i fs
    cases hf : fs[f]? with
    | none => simp [hf] at ht
    | some fl =>
      simp [hf] at ht
      cases hi : P.info? fl.type with
      | none => simp [hi] at ht
      | some i =>
        simp [hi] at ht
        obtain ⟨h0, rfl⟩ := ht
        simp [Yd, execOp, ho, hx, Instr.fieldAt, Instr.sureAddr, underlying, hu, hf, fieldPlace, sizeOf, typeInfo, hi, h0, add_none]
theorem yd_load {p : Addr} (ho : o.op = .load T x) (ht : scalarT P T = true) (hx : ev σ x = .pointer (some p)) (hc : w.cell? p = some v) : Yd P o σ w v := by
  have := scalarT_spec ht
  simp [Yd, execOp, ho, hx, Instr.loadAt, Instr.sureAddr, loadVar, this, hc]
theorem arrT_spec {n s : Nat} (ht : arrT P T = some (n, s)) : ∃ e, P.underlying T = some (.array n e) ∧ sizeT P e = some s := by
  unfold arrT at ht
  cases hu : P.underlying T with
  | none => simp [hu] at ht
  | some dd =>
    cases dd <;> simp [hu] at ht
    rename_i m e
    cases hi : P.info? e with
    | none => simp [hi] at ht
    | some i => simp [hi] at ht; obtain ⟨rfl, rfl⟩ := ht; exact ⟨e, rfl, by simp [sizeT, hi]⟩
theorem sliceT_spec {s : Nat} (ht : sliceT P T = some s) : ∃ e, P.underlying T = some (.slice e) ∧ sizeT P e = some s := by
  unfold sliceT at ht
  cases hu : P.underlying T with
  | none => simp [hu] at ht
  | some dd =>
    cases dd <;> simp [hu] at ht
    rename_i e
    cases hi : P.info? e with
    | none => simp [hi] at ht
    | some i => simp [hi] at ht; exact ⟨e, rfl, by simp [sizeT, hi, ht]⟩
theorem yd_ix {n s b p : Nat} {k : IntKind} {q : Int} (ho : o.op = .indexAddr T x y) (ht : arrT P T = some (n, s)) (hx : ev σ x = .pointer (some ⟨b, p, none⟩))
    (hi : ev σ y = .int k q) (i : Nat) (hq : q = (i : Int)) (hlt : i < n) : Yd P o σ w (.pointer (some ⟨b, p + i * s, none⟩)) := by
  obtain ⟨e, hu, hs⟩ := arrT_spec ht
  have hs' := sizeT_spec hs
  subst hq
  simp [Yd, execOp, ho, hx, hi, Instr.indexAt, Instr.sureAddr, asIntOf, underlying, hu, hlt, hs', add_none]
theorem yd_ix1 {n b p : Nat} {k : IntKind} {q : Int} (ho : o.op = .indexAddr T x y) (ht : arrT P T = some (n, 1)) (hx : ev σ x = .pointer (some ⟨b, p, none⟩))
    (hi : ev σ y = .int k q) (i : Nat) (hq : q = (i : Int)) (hlt : i < n) : Yd P o σ w (.pointer (some ⟨b, p + i, none⟩)) := by
  simpa using yd_ix (w := w) ho ht hx hi i hq hlt
theorem yd_ixs {b p n c : Nat} {k : IntKind} {q : Int} (ho : o.op = .indexAddr T x y) (ht : sliceT P T = some 1) (hx : ev σ x = .slice (some ⟨b, p, none⟩) n c)
    (hi : ev σ y = .int k q) (i : Nat) (hq : q = (i : Int)) (hlt : i < n) : Yd P o σ w (.pointer (some ⟨b, p + i, none⟩)) := by
  obtain ⟨e, hu, hs⟩ := sliceT_spec ht
  have hs' := sizeT_spec hs
  subst hq
  simp [Yd, execOp, ho, hx, hi, Instr.indexAt, Instr.sureAddr, asIntOf, underlying, hu, hlt, hs', add_none]
theorem yd_mki (ho : o.op = .makeInterface T x) (ht : P.underlying T ≠ none) (hi : ifaceT P T = false) : Yd P o σ w (.iface T (ev σ x)) := by
  cases hu : P.underlying T with
  | none => exact (ht hu).elim
  | some dd => cases dd <;> simp_all [Yd, execOp, Instr.makeInterface, underlying, ifaceT]
theorem yd_extract {vs : Array Value} {i : Nat} (ho : o.op = .extract x i) (hx : ev σ x = .tuple vs) (hv : vs[i]? = some v) : Yd P o σ w v := by
  simp [Yd, execOp, ho, hx, Instr.extract, hv]
theorem yd_len {n c s : Nat} {a : Option Addr} (ho : o.op = .call ⟨.builtin .len, #[x], #[T]⟩) (ht : sliceT P T = some s) (hx : ev σ x = .slice a n c) : Yd P o σ w (.int .i64 n) := by
  obtain ⟨e, hu, hs⟩ := sliceT_spec ht
  simp [Yd, execOp, ho, hx, resolve, invoke, builtin, Builtin.len_, underlying, hu, goInt]
theorem yd_not {r : Bool} (ho : o.op = .unOp .not T x) (hx : ev σ x = .bool r) : Yd P o σ w (.bool (!r)) := by
  simp [Yd, execOp, ho, hx, Op.unary]

/-! integers -/
variable {k : IntKind} {a b : Int}
theorem yd_bin {op : BinOp} (ho : o.op = .binOp op T x y U) (hx : ev σ x = .int k a) (hy : ev σ y = .int k b) (h : (binOp op T (.int k a) (.int k b)).run P w = .ok v w) : Yd P o σ w v := by
  have hg : (eqGuard op T x y (.int k a) (.int k b)).run P w = .ok () w := by unfold eqGuard; cases op <;> simp
  simp [Yd, execOp, ho, hx, hy, hg, h]
theorem yd_add (ho : o.op = .binOp .add T x y U) (hx : ev σ x = .int k a) (hy : ev σ y = .int k b) (c : Int) (hc : k.wrap (a + b) = c) : Yd P o σ w (.int k c) :=
  yd_bin ho hx hy (by simp [binOp, Op.intArith, hc])
theorem yd_sub (ho : o.op = .binOp .sub T x y U) (hx : ev σ x = .int k a) (hy : ev σ y = .int k b) (c : Int) (hc : k.wrap (a - b) = c) : Yd P o σ w (.int k c) :=
  yd_bin ho hx hy (by simp [binOp, Op.intArith, hc])
theorem yd_mul (ho : o.op = .binOp .mul T x y U) (hx : ev σ x = .int k a) (hy : ev σ y = .int k b) (c : Int) (hc : k.wrap (a * b) = c) : Yd P o σ w (.int k c) :=
  yd_bin ho hx hy (by simp [binOp, Op.intArith, hc])
theorem yd_add64 (ho : o.op = .binOp .add T x y U) (hx : ev σ x = .int .i64 a) (hy : ev σ y = .int .i64 b) (h : -9223372036854775808 ≤ a + b ∧ a + b ≤ 9223372036854775807) : Yd P o σ w (.int .i64 (a + b)) :=
  yd_add ho hx hy _ (IntWalk.i64_in _ h)
theorem yd_sub64 (ho : o.op = .binOp .sub T x y U) (hx : ev σ x = .int .i64 a) (hy : ev σ y = .int .i64 b) (h : -9223372036854775808 ≤ a - b ∧ a - b ≤ 9223372036854775807) : Yd P o σ w (.int .i64 (a - b)) :=
  yd_sub ho hx hy _ (IntWalk.i64_in _ h)
theorem yd_add32 (ho : o.op = .binOp .add T x y U) (hx : ev σ x = .int .i32 a) (hy : ev σ y = .int .i32 b) (h : -2147483648 ≤ a + b ∧ a + b ≤ 2147483647) : Yd P o σ w (.int .i32 (a + b)) :=
  yd_add ho hx hy _ (IntWalk.i32_in _ h)
theorem yd_sub32 (ho : o.op = .binOp .sub T x y U) (hx : ev σ x = .int .i32 a) (hy : ev σ y = .int .i32 b) (h : -2147483648 ≤ a - b ∧ a - b ≤ 2147483647) : Yd P o σ w (.int .i32 (a - b)) :=
  yd_sub ho hx hy _ (IntWalk.i32_in _ h)
theorem yd_lt (r : Bool) (ho : o.op = .binOp .lss T x y U) (hx : ev σ x = .int k a) (hy : ev σ y = .int k b) (h : decide (a < b) = r) : Yd P o σ w (.bool r) :=
  yd_bin ho hx hy (by simp [binOp, Op.intCmp, ← h])
theorem yd_le (r : Bool) (ho : o.op = .binOp .leq T x y U) (hx : ev σ x = .int k a) (hy : ev σ y = .int k b) (h : decide (a ≤ b) = r) : Yd P o σ w (.bool r) :=
  yd_bin ho hx hy (by simp [binOp, Op.intCmp, ← h])
theorem yd_gt (r : Bool) (ho : o.op = .binOp .gtr T x y U) (hx : ev σ x = .int k a) (hy : ev σ y = .int k b) (h : decide (b < a) = r) : Yd P o σ w (.bool r) :=
  yd_bin ho hx hy (by simp [binOp, Op.intCmp, ← h])
theorem yd_ge (r : Bool) (ho : o.op = .binOp .geq T x y U) (hx : ev σ x = .int k a) (hy : ev σ y = .int k b) (h : decide (b ≤ a) = r) : Yd P o σ w (.bool r) :=
  yd_bin ho hx hy (by simp [binOp, Op.intCmp, ← h])
theorem yd_eq (r : Bool) (ho : o.op = .binOp .eql T x y U) (hx : ev σ x = .int k a) (hy : ev σ y = .int k b) (h : decide (a = b) = r) : Yd P o σ w (.bool r) :=
  yd_bin ho hx hy (by have h' : (a == b) = r := h; simp [binOp, Op.intCmp, h'])
theorem yd_ne (r : Bool) (ho : o.op = .binOp .neq T x y U) (hx : ev σ x = .int k a) (hy : ev σ y = .int k b) (h : decide (a = b) = !r) : Yd P o σ w (.bool r) :=
  yd_bin ho hx hy (by have h' : (a == b) = !r := h; simp [binOp, Op.intCmp, bne, h'])
theorem yd_shl {k' : IntKind} (ho : o.op = .binOp .shl T x y U) (hx : ev σ x = .int k a) (hy : ev σ y = .int k' b) (hb : 0 ≤ b) (c : Int) (hc : k.wrap (a * 2 ^ (min b.toNat k.bits)) = c) : Yd P o σ w (.int k c) := by
  have hb' : ¬ b < 0 := by omega
  have hg : (eqGuard .shl T x y (.int k a) (.int k' b)).run P w = .ok () w := by unfold eqGuard; simp
  simp [Yd, execOp, ho, hx, hy, hg, binOp, Op.shift, hb', hc]
theorem yd_shr {k' : IntKind} (ho : o.op = .binOp .shr T x y U) (hx : ev σ x = .int k a) (hy : ev σ y = .int k' b) (hb : 0 ≤ b) (c : Int) (hc : a.fdiv (2 ^ (min b.toNat k.bits)) = c) : Yd P o σ w (.int k c) := by
  have hb' : ¬ b < 0 := by omega
  have hg : (eqGuard .shr T x y (.int k a) (.int k' b)).run P w = .ok () w := by unfold eqGuard; simp
  simp [Yd, execOp, ho, hx, hy, hg, binOp, Op.shift, hb', hc]
theorem yd_and (ho : o.op = .binOp .and T x y U) (hx : ev σ x = .int k a) (hy : ev σ y = .int k b) (c : Int) (hc : k.wrap ((BitVec.ofInt k.bits a &&& BitVec.ofInt k.bits b).toNat : Int) = c) : Yd P o σ w (.int k c) :=
  yd_bin ho hx hy (by simp only [binOp, Op.intBits, ← hc]; simp)
theorem yd_or (ho : o.op = .binOp .or T x y U) (hx : ev σ x = .int k a) (hy : ev σ y = .int k b) (c : Int) (hc : k.wrap ((BitVec.ofInt k.bits a ||| BitVec.ofInt k.bits b).toNat : Int) = c) : Yd P o σ w (.int k c) :=
  yd_bin ho hx hy (by simp only [binOp, Op.intBits, ← hc]; simp)
theorem yd_conv {k' : IntKind} (ho : o.op = .convert T U x) (hs : someT P T = true) (ht : intT P U = some k') (hx : ev σ x = .int k a) (c : Int) (hc : k'.wrap a = c) : Yd P o σ w (.int k' c) := by
  unfold intT at ht
  unfold someT at hs
  cases hu : P.underlying U with
  | none => simp [hu] at ht
  | some du =>
    cases du <;> simp [hu] at ht
    subst ht
    cases hv : P.underlying T with
    | none => simp [hv] at hs
    | some dt => cases dt <;> simp [Yd, execOp, ho, hx, convert, underlying, hu, hv, Conv.intToInt, hc]

/-! stores, calls -/
theorem run_storeVar {b p : Nat} {u : Value} (hs : sizeT P T = some 1) (hv : v.oneCell' = true) (hc : w.cell? ⟨b, p, none⟩ = some u) (hf : w.frozen? ⟨b, p, none⟩ = false) :
    (storeVar T ⟨b, p, none⟩ v).run P w = .ok () (w.setCell ⟨b, p, none⟩ v) := by
  have hs' := sizeT_spec hs
  have hc1 : v.cells = #[v] := by cases v <;> first | rfl | simp [Value.oneCell'] at hv
  have hv' : v.oneCell' = true := by cases v <;> first | rfl | simp [Value.oneCell'] at hv
  have h1 := run_store P w ⟨b, p, none⟩ v .plain hv'
  rw [hc] at h1
  simp only [hf] at h1
  simp [storeVar, hc1, hs', storeCells, add_none, h1]
theorem RL_store {b p : Nat} {u : Value} (hg : o.guard = none) (hd : o.dst = none) (ho : o.op = .store T x y) (hs : sizeT P T = some 1) (hx : ev σ x = .pointer (some ⟨b, p, none⟩))
    (hy : ev σ y = v) (hv : v.oneCell' = true) (hc : w.cell? ⟨b, p, none⟩ = some u) (hf : w.frozen? ⟨b, p, none⟩ = false)
    (h : RL P ops rest σ (w.setCell ⟨b, p, none⟩ v) K) : RL P ops (o :: rest) σ w K := by
  have h1 := run_storeVar hs hv hc hf (P := P)
  have hr : (execOp (ev σ) o).run P w = .ok .skip (w.setCell ⟨b, p, none⟩ v) := by
    simp [execOp, ho, hx, hy, Instr.storeAt, Instr.sureAddr, h1]
  unfold RL; rw [if_pos (wantedE_none hg), hr, hd]; exact h
/-- The function is one that is entered. -/
structure Entered (P : Program) (f : FuncId) : Prop where
  ex : ∃ fn, P.funcs[f]? = some fn ∧ (fn.name == "runtime.NumGoroutine") = false ∧ fn.body.isNone = false
theorem Entered.mk' {f : FuncId} {fn : Func} (h1 : P.funcs[f]? = some fn) (h2 : (fn.name == "runtime.NumGoroutine") = false) (h3 : fn.body.isNone = false) : Entered P f := ⟨fn, h1, h2, h3⟩
theorem run_callFunc {f : FuncId} (h : Entered P f) (args : Array Value) : (callFunc f args).run P w = .ok (.enter f args) w := by
  obtain ⟨fn, h1, h2, h3⟩ := h.ex
  simp only [callFunc, Sem.run_bind, run_program, Result.andThen_ok, h1, h2, h3]
  rfl
theorem run_call {f : FuncId} {xs : Array Operand} {ts : Array TypeId} (ho : o.op = .call ⟨.value (.func f), xs, ts⟩) (hf : Entered P f) {vs : List Value} (hvs : xs.toList.map (ev σ) = vs) :
    (execOp (ev σ) o).run P w = .ok (.enter f vs.toArray) w := by
  have e : xs.map (ev σ) = vs.toArray := by
    subst hvs; apply Array.ext'; simp
  simp [execOp, ho, resolve, Deferred.ofValue, ev, e, invoke, run_callFunc hf]
theorem RL_call {f : FuncId} {xs : Array Operand} {ts : Array TypeId} {R : Ending → World → Prop} (hg : o.guard = none) (hd : o.dst = some d) (ho : o.op = .call ⟨.value (.func f), xs, ts⟩) (hf : Entered P f)
    {vs : List Value} (hvs : xs.toList.map (ev σ) = vs) (hc : Calls P f vs.toArray w R) (h : ∀ e w', R e w' → ∃ v, e = .returned v ∧ RL P ops rest (upd σ d v) w' K) : RL P ops (o :: rest) σ w K := by
  unfold RL; rw [if_pos (wantedE_none hg), run_call ho hf hvs, hd]
  exact hc.mono h
theorem RL_gcall {f : FuncId} {xs : Array Operand} {ts : Array TypeId} {R : Ending → World → Prop} (hg : wantedE ops o σ = true) (hd : o.dst = some d) (ho : o.op = .call ⟨.value (.func f), xs, ts⟩) (hf : Entered P f)
    {vs : List Value} (hvs : xs.toList.map (ev σ) = vs) (hc : Calls P f vs.toArray w R) (h : ∀ e w', R e w' → ∃ v, e = .returned v ∧ RL P ops rest (upd σ d v) w' K) : RL P ops (o :: rest) σ w K := by
  unfold RL; rw [if_pos hg, run_call ho hf hvs, hd]
  exact hc.mono h
end

/-! ### A function's body -/
section
variable {P : Program} {f : FuncId} {fn : Func} {c : Code} {w : World} {R : Ending → World → Prop}
theorem calls_of_CW {K : Kont} {N : Nat} {σ : Env} (args : Array Value) (hf : P.funcs[f]? = some fn) (hb : fn.body = some c) (hN : fn.ntmps = N)
    (hσ : Has N { tmps := args ++ Array.replicate (N - args.size) undef, defers := [] } σ)
    (hr : ∀ a w, ∀ σ, Has N a σ → K σ w → ∃ v, (results fn a.tmps).run P w = .ok v w ∧ R (.returned v) w)
    (h : CW P N c K K [] [] σ w) : Calls P f args w R := by
  subst hN
  refine calls_of_wp hf hb (Go.wp_mono (h _ hσ) fun e a w hq => ?_)
  cases e with
  | normal => obtain ⟨σ, h1, h2⟩ := hq; exact ⟨h1.defers, hr a w σ h1 h2⟩
  | ret => obtain ⟨σ, h1, h2⟩ := hq; exact ⟨h1.defers, hr a w σ h1 h2⟩
  | exit i => obtain ⟨σ, K, h1, h2, h3⟩ := hq; simp [asc] at h2
  | goto i => obtain ⟨σ, K, h1, h2, h3⟩ := hq; simp [asc] at h2
  | _ => exact hq.elim
def und : Env := fun _ => undef
theorem has_args (args : List Value) (N : Nat) (hN : args.length ≤ N) :
    Has N { tmps := args.toArray ++ Array.replicate (N - args.toArray.size) undef, defers := [] } (fun t => args.getD t undef) := by
  refine ⟨by simp; omega, rfl, fun t => ?_⟩
  simp only [Array.getD_eq_getD_getElem?, List.getD_eq_getElem?_getD]
  rw [Array.getElem?_append]
  split
  · simp
  · rename_i h
    simp only [List.size_toArray, Nat.not_lt] at h
    rw [Array.getElem?_replicate, List.getElem?_eq_none h]
    split <;> rfl
theorem has_ext {N : Nat} {a : Act} {σ σ' : Env} (h : Has N a σ) (he : ∀ t, σ t = σ' t) : Has N a σ' := ⟨h.size, h.defers, fun t => (h.get t).trans (he t)⟩
/-- One result, in a slot. -/
theorem calls1 {t N : Nat} {args : List Value} {vs : Array Value} (hf : P.funcs[f]? = some fn) (hb : fn.body = some c) (hN : fn.ntmps = N) (hres : fn.results = #[.tmp t]) (hvs : vs = args.toArray) (hle : args.length ≤ N)
    (h : ∀ K : Kont, (∀ σ w, R (.returned (σ t)) w → K σ w) → CW P N c K K [] [] (fun t => args.getD t undef) w) : Calls P f vs w R := by
  subst hvs
  exact calls_of_CW args.toArray hf hb hN (has_args args N hle) (fun a w σ ha hK => ⟨σ t, by rw [results_tmp hres, ha.get], hK⟩)
    (h (fun σ w => R (.returned (σ t)) w) (fun _ _ h => h))
/-- Two results, in slots. -/
theorem calls2 {t u N : Nat} {args : List Value} {vs : Array Value} (hf : P.funcs[f]? = some fn) (hb : fn.body = some c) (hN : fn.ntmps = N) (hres : fn.results = #[.tmp t, .tmp u]) (hvs : vs = args.toArray) (hle : args.length ≤ N)
    (h : ∀ K : Kont, (∀ σ w, R (.returned (.tuple #[σ t, σ u])) w → K σ w) → CW P N c K K [] [] (fun t => args.getD t undef) w) : Calls P f vs w R := by
  subst hvs
  exact calls_of_CW args.toArray hf hb hN (has_args args N hle) (fun a w σ ha hK => ⟨_, by rw [results_tmp2 hres, ha.get, ha.get], hK⟩)
    (h (fun σ w => R (.returned (.tuple #[σ t, σ u])) w) (fun _ _ h => h))
/-- No result. -/
theorem calls0 {N : Nat} {args : List Value} {vs : Array Value} (hf : P.funcs[f]? = some fn) (hb : fn.body = some c) (hN : fn.ntmps = N) (hres : fn.results = #[]) (hvs : vs = args.toArray) (hle : args.length ≤ N)
    (h : ∀ K : Kont, (∀ σ w, R (.returned (.tuple #[])) w → K σ w) → CW P N c K K [] [] (fun t => args.getD t undef) w) : Calls P f vs w R := by
  subst hvs
  exact calls_of_CW args.toArray hf hb hN (has_args args N hle) (fun a w σ ha hK => ⟨_, results_none hres _ _ _, hK⟩)
    (h (fun _ w => R (.returned (.tuple #[])) w) (fun _ _ h => h))
end
/-! ### Slots known at a head -/
def upds (β : Env) : List (Nat × Value) → Env
  | [] => β
  | (d, v) :: l => upd (upds β l) d v
def AtS (σ : Env) : List (Nat × Value) → Prop
  | [] => True
  | (d, v) :: l => σ d = v ∧ AtS σ l
theorem upd_self {σ : Env} {d : Nat} {v : Value} (h : σ d = v) : upd σ d v = σ := by
  funext t
  by_cases ht : t = d
  · subst ht; rw [upd_same, h]
  · rw [upd_ne _ _ _ _ ht]
theorem upds_self {σ : Env} : ∀ {l : List (Nat × Value)}, AtS σ l → upds σ l = σ
  | [], _ => rfl
  | (d, v) :: l, h => by
    show upd (upds σ l) d v = σ
    rw [upds_self h.2]; exact upd_self h.1
section
variable {P : Program} {N : Nat} {Kn Kr : Kont} {Kx Kg : List (Nat × Kont)} {σ : Env} {w : World}
theorem CW_at {c : Code} {l : List (Nat × Value)} (h : AtS σ l) (k : CW P N c Kn Kr Kx Kg (upds σ l) w) : CW P N c Kn Kr Kx Kg σ w := by
  rw [← upds_self h]; exact k
/-- A loop that is left in its first round. -/
theorem CW_once {c : Code} (h : CW P N c (fun _ _ => False) Kr Kx Kg σ w) : CW P N (.loop c) Kn Kr Kx Kg σ w :=
  CW_loop (n := 0) (fun σ' w' n => σ' = σ ∧ w' = w) ⟨rfl, rfl⟩ fun σ' w' n ⟨h1, h2⟩ K hK => by
    subst h1; subst h2; exact h.mono fun _ _ hf => hf.elim
end
section
variable {P : Program} {ops : List Oper} {K : Kont} {σ : Env} {w : World} {o : Oper} {rest : List Oper} {v : Value} {T : TypeId} {x y : Operand}
/-- A store, the world behind it under a name. -/
theorem RL_storeW {b p : Nat} {u : Value} (S : World → Prop) (hg : o.guard = none) (hd : o.dst = none) (ho : o.op = .store T x y) (hs : sizeT P T = some 1) (hx : ev σ x = .pointer (some ⟨b, p, none⟩))
    (hy : ev σ y = v) (hv : v.oneCell' = true) (hc : w.cell? ⟨b, p, none⟩ = some u) (hf : w.frozen? ⟨b, p, none⟩ = false)
    (hS : S (w.setCell ⟨b, p, none⟩ v)) (h : ∀ w', S w' → RL P ops rest σ w' K) : RL P ops (o :: rest) σ w K :=
  RL_store hg hd ho hs hx hy hv hc hf (h _ hS)
end
end Go.Proofs.YtdjilplpbaackaaDoor.Eng
