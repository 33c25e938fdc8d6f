/- Closed facts on the model's entries for internal/reflectlite at this program's numbers (109: impl.own, 105: FormatError, 111: its pointer, 65: error, 158: reflectlite's rtype, 4: the number of package variables); calls of entries, more operations. After the worked example errors.As at a concrete target. -/
import Derived.Test.YtdjilplpbaackaaDoorEngApp
import Derived.Test.YtdjilplpbaackaaDoorStat
import Derived.WalkKit
import Derived.LaidEql
import Derived.Stop.Asserts
import Derived.RowKitTokens
set_option linter.unusedVariables false
set_option linter.unusedSimpArgs false
namespace Go.Proofs.YtdjilplpbaackaaDoor.Eng
open Go Go.RowKit Go.Extern.Stop Go.Stop Go.Extern
noncomputable abbrev MD : Nat := Tryd.prog.types.size + Made.depth
abbrev hnd (t : Nat) : Value := .pointer (some ⟨4, t, none⟩)
abbrev rty (t : Nat) : Value := .iface 158 (.agg #[hnd t])
theorem typeOf105 (v : Value) (w : World) : (ReflectliteType.typeOf #[.iface 105 v]).run Tryd.prog w = .ok (rty 105) w := by kernel_rfl
theorem typeOf109 (v : Value) (w : World) : (ReflectliteType.typeOf #[.iface 109 v]).run Tryd.prog w = .ok (rty 109) w := by kernel_rfl
theorem valueOf111 (t : Addr) (w : World) : (ReflectliteValue.unpack (.iface 111 (.pointer (some t)))).run Tryd.prog w
    = .ok (.agg #[hnd 111, .pointer (some ⟨w.heap.size, 0, none⟩), .int .u64 150]) (w.alloc (.cells #[.pointer (some t)] 111)) := by kernel_rfl
theorem valueOf105 (e : ByteArray) (w : World) : (ReflectliteValue.unpack (.iface 105 (.string e))).run Tryd.prog w
    = .ok (.agg #[hnd 105, .pointer (some ⟨w.heap.size, 0, none⟩), .int .u64 152]) (w.alloc (.cells #[.string e] 105)) := by kernel_rfl
theorem type111 (a : Addr) (w : World) : (ReflectliteValue.methodAny (ReflectliteValue.valueError "reflectlite.Value.Type" 0) (fun t _ _ _ => ReflectliteType.toType t) #[.agg #[hnd 111, .pointer (some a), .int .u64 150]]).run Tryd.prog w
    = .ok (rty 111) w := by kernel_rfl
theorem kind111 (w : World) : ((ReflectliteType.abiMethod fun t => (fun a : Nat => Value.int IntKind.u8 (a : Int)) <$> Rtype.kind t) #[hnd 111]).run Tryd.prog w = .ok (.int .u8 22) w := by kernel_rfl
theorem kind105 (w : World) : ((ReflectliteType.abiMethod fun t => (fun a : Nat => Value.int IntKind.u8 (a : Int)) <$> Rtype.kind t) #[hnd 105]).run Tryd.prog w = .ok (.int .u8 24) w := by kernel_rfl
theorem methKind (h : Value) (w : World) : (Go.method MD 158 (.agg #[h]) "Kind").run Tryd.prog w = .ok (56, h) w := by kernel_rfl
theorem methElem (h : Value) (w : World) : (Go.method MD 158 (.agg #[h]) "Elem").run Tryd.prog w = .ok (85, .agg #[h]) w := by kernel_rfl
theorem methImplements (h : Value) (w : World) : (Go.method MD 158 (.agg #[h]) "Implements").run Tryd.prog w = .ok (86, .agg #[h]) w := by kernel_rfl
theorem methAssignableTo (h : Value) (w : World) : (Go.method MD 158 (.agg #[h]) "AssignableTo").run Tryd.prog w = .ok (83, .agg #[h]) w := by kernel_rfl
theorem methComparable (h : Value) (w : World) : (Go.method MD 158 (.agg #[h]) "Comparable").run Tryd.prog w = .ok (84, .agg #[h]) w := by kernel_rfl
theorem elem111 (w : World) : (ReflectliteType.method ReflectliteType.elem #[.agg #[hnd 111]]).run Tryd.prog w = .ok (rty 105) w := by kernel_rfl
theorem implements105 (w : World) : (ReflectliteType.relation "Implements" ReflectliteType.implements_ #[.agg #[hnd 105], rty 65]).run Tryd.prog w = .ok (.bool true) w := by kernel_rfl
theorem assignable105 (w : World) : (ReflectliteType.relation "AssignableTo" ReflectliteType.assignableTo #[.agg #[hnd 105], rty 105]).run Tryd.prog w = .ok (.bool true) w := by kernel_rfl
theorem parts111 (a : Addr) (w : World) : (ReflectliteValue.parts (.agg #[hnd 111, .pointer (some a), .int .u64 150])).run Tryd.prog w = .ok (some (111, a, 150)) w := by kernel_rfl
theorem isNil111 (a p : Addr) (W : World) (ha : W.cell? a = some (.pointer (some p))) :
    (ReflectliteValue.method (ReflectliteValue.valueError "reflectlite.Value.IsNil" 0) ReflectliteValue.isNil #[.agg #[hnd 111, .pointer (some a), .int .u64 150]]).run Tryd.prog W = .ok (.bool false) W := by
  show (ReflectliteValue.parts (.agg #[hnd 111, .pointer (some a), .int .u64 150]) >>= _).run Tryd.prog W = _
  simp only [Sem.run_bind, parts111, Result.andThen]
  simp [ReflectliteValue.isNil, loadVar, isAgg, underlying, Tryd.underlying111, ha, Result.andThen]
theorem elemOf111 (w : World) : (Rtype.elem? 111).run Tryd.prog w = .ok (some 105) w := by kernel_rfl
theorem mk105 (p : Addr) (w : World) : (ReflectliteValue.mk 105 p ReflectliteValue.flagAddr).run Tryd.prog w = .ok (.agg #[hnd 105, .pointer (some p), .int .u64 408]) w := by kernel_rfl
theorem elemV111 (a p : Addr) (W : World) (ha : W.cell? a = some (.pointer (some p))) :
    (ReflectliteValue.method (ReflectliteValue.valueError "reflectlite.Value.Elem" 0) ReflectliteValue.elem #[.agg #[hnd 111, .pointer (some a), .int .u64 150]]).run Tryd.prog W
      = .ok (.agg #[hnd 105, .pointer (some p), .int .u64 408]) W := by
  show (ReflectliteValue.parts (.agg #[hnd 111, .pointer (some a), .int .u64 150]) >>= _).run Tryd.prog W = _
  simp only [Sem.run_bind, parts111, Result.andThen]
  simp [ReflectliteValue.elem, loadVar, isAgg, underlying, Tryd.underlying111, ha, Result.andThen, elemOf111, mk105]
theorem parts105a (a : Addr) (w : World) : (ReflectliteValue.parts (.agg #[hnd 105, .pointer (some a), .int .u64 408])).run Tryd.prog w = .ok (some (105, a, 408)) w := by kernel_rfl
theorem parts105 (a : Addr) (w : World) : (ReflectliteValue.parts (.agg #[hnd 105, .pointer (some a), .int .u64 152])).run Tryd.prog w = .ok (some (105, a, 152)) w := by kernel_rfl
theorem direct105 (w : World) : (Rtype.directlyAssignable 105 105).run Tryd.prog w = .ok true w := by kernel_rfl
theorem size105 (w : World) : (sizeOf 105).run Tryd.prog w = .ok 1 w := by kernel_rfl
theorem set105 (ta b : Addr) (e : ByteArray) (old : Value) (W : World) (hb : W.cell? b = some (.string e)) (ht : W.cell? ta = some old) (hf : W.frozen? ta = false) :
    (ReflectliteValue.set #[.agg #[hnd 105, .pointer (some ta), .int .u64 408], .agg #[hnd 105, .pointer (some b), .int .u64 152]]).run Tryd.prog W
      = .ok (.tuple #[]) (W.setCell ta (.string e)) := by
  show (ReflectliteValue.parts (.agg #[hnd 105, .pointer (some ta), .int .u64 408]) >>= fun _ => ReflectliteValue.parts (.agg #[hnd 105, .pointer (some b), .int .u64 152]) >>= _).run Tryd.prog W = _
  simp only [Sem.run_bind, parts105a, parts105, Result.andThen]
  simp [ReflectliteValue.flagAddr, loadVar, isAgg, underlying, Tryd.underlying105, hb, Result.andThen, direct105, storeVar, Value.cells, storeCells, Addr.add, size105]
  rw [run_store Tryd.prog W ta _ _ (by rfl)]
  simp [ht, hf]
theorem tassert160 (e : ByteArray) (w : World) : (Instr.typeAssert (.iface 105 (.string e)) 65 160 true).run Tryd.prog w = .ok (.tuple #[.nilIface, .bool false]) w := run_typeAssert_lacksB Tryd.underlying160 (by kernel_rfl) (by kernel_rfl) _ 65 w
theorem tassert163 (e : ByteArray) (w : World) : (Instr.typeAssert (.iface 105 (.string e)) 65 163 true).run Tryd.prog w = .ok (.tuple #[.nilIface, .bool false]) w := run_typeAssert_lacksB Tryd.underlying163 (by kernel_rfl) (by kernel_rfl) _ 65 w
theorem tassert164 (e : ByteArray) (w : World) : (Instr.typeAssert (.iface 105 (.string e)) 65 164 true).run Tryd.prog w = .ok (.tuple #[.nilIface, .bool false]) w := run_typeAssert_lacksB Tryd.underlying164 (by kernel_rfl) (by kernel_rfl) _ 65 w
theorem x30 (a : Array Value) (w : World) : (callFunc 30 a).run Tryd.prog w = ((ReflectliteType.typeOf a).run Tryd.prog w).andThen fun v w' => .ok (.value v) w' :=
  run_callFunc_extern Tryd.func30 (by kernel_rfl) (by kernel_rfl) (by kernel_rfl) (by kernel_rfl) a w
theorem x32 (a : Array Value) (w : World) : (callFunc 32 a).run Tryd.prog w = ((ReflectliteValue.unpack (a.getD 0 (.tuple #[]))).run Tryd.prog w).andThen fun v w' => .ok (.value v) w' :=
  run_callFunc_extern (e := fun args => ReflectliteValue.unpack (args.getD 0 (.tuple #[]))) Tryd.func32 (by kernel_rfl) (by kernel_rfl) (by kernel_rfl) (by kernel_rfl) a w
theorem x33 (a : Array Value) (w : World) : (callFunc 33 a).run Tryd.prog w = ((ReflectliteValue.methodAny (ReflectliteValue.valueError "reflectlite.Value.Type" 0) (fun t _ _ _ => ReflectliteType.toType t) a).run Tryd.prog w).andThen fun v w' => .ok (.value v) w' :=
  run_callFunc_extern Tryd.func33 (by kernel_rfl) (by kernel_rfl) (by kernel_rfl) (by kernel_rfl) a w
theorem x34 (a : Array Value) (w : World) : (callFunc 34 a).run Tryd.prog w = ((ReflectliteValue.method (ReflectliteValue.valueError "reflectlite.Value.IsNil" 0) ReflectliteValue.isNil a).run Tryd.prog w).andThen fun v w' => .ok (.value v) w' :=
  run_callFunc_extern Tryd.func34 (by kernel_rfl) (by kernel_rfl) (by kernel_rfl) (by kernel_rfl) a w
theorem x39 (a : Array Value) (w : World) : (callFunc 39 a).run Tryd.prog w = ((ReflectliteValue.method (ReflectliteValue.valueError "reflectlite.Value.Elem" 0) ReflectliteValue.elem a).run Tryd.prog w).andThen fun v w' => .ok (.value v) w' :=
  run_callFunc_extern Tryd.func39 (by kernel_rfl) (by kernel_rfl) (by kernel_rfl) (by kernel_rfl) a w
theorem x40 (a : Array Value) (w : World) : (callFunc 40 a).run Tryd.prog w = ((ReflectliteValue.set a).run Tryd.prog w).andThen fun v w' => .ok (.value v) w' :=
  run_callFunc_extern Tryd.func40 (by kernel_rfl) (by kernel_rfl) (by kernel_rfl) (by kernel_rfl) a w
theorem x56 (a : Array Value) (w : World) : (callFunc 56 a).run Tryd.prog w = (((ReflectliteType.abiMethod fun t => (fun a : Nat => Value.int IntKind.u8 (a : Int)) <$> Rtype.kind t) a).run Tryd.prog w).andThen fun v w' => .ok (.value v) w' :=
  run_callFunc_extern Tryd.func56 (by kernel_rfl) (by kernel_rfl) (by kernel_rfl) (by kernel_rfl) a w
theorem x83 (a : Array Value) (w : World) : (callFunc 83 a).run Tryd.prog w = ((ReflectliteType.relation "AssignableTo" ReflectliteType.assignableTo a).run Tryd.prog w).andThen fun v w' => .ok (.value v) w' :=
  run_callFunc_extern Tryd.func83 (by kernel_rfl) (by kernel_rfl) (by kernel_rfl) (by kernel_rfl) a w
theorem x84 (w : World) : (callFunc 84 #[.agg #[hnd 109]]).run Tryd.prog w = .ok (.value (.bool true)) w := by kernel_rfl
theorem x85 (a : Array Value) (w : World) : (callFunc 85 a).run Tryd.prog w = ((ReflectliteType.method ReflectliteType.elem a).run Tryd.prog w).andThen fun v w' => .ok (.value v) w' :=
  run_callFunc_extern Tryd.func85 (by kernel_rfl) (by kernel_rfl) (by kernel_rfl) (by kernel_rfl) a w
theorem x86 (a : Array Value) (w : World) : (callFunc 86 a).run Tryd.prog w = ((ReflectliteType.relation "Implements" ReflectliteType.implements_ a).run Tryd.prog w).andThen fun v w' => .ok (.value v) w' :=
  run_callFunc_extern Tryd.func86 (by kernel_rfl) (by kernel_rfl) (by kernel_rfl) (by kernel_rfl) a w
theorem xt {w w' : World} {f : FuncId} {a : Array Value} {m : Sem Value} {v : Value} (hx : (callFunc f a).run Tryd.prog w = (m.run Tryd.prog w).andThen fun v w' => .ok (.value v) w') (h : m.run Tryd.prog w = .ok v w') : (callFunc f a).run Tryd.prog w = .ok (.value v) w' := by
  rw [hx, h]; rfl

section
variable {P : Program} {ops : List Oper} {K : Kont} {σ : Env} {w : World} {o : Oper} {rest : List Oper} {v : Value} {d : Nat} {T U : TypeId} {x y : Operand}
theorem RL_ext {f : FuncId} {xs : Array Operand} {ts : Array TypeId} {w' : World} {vs : List Value} (hg : wantedE ops o σ = true) (hd : o.dst = some d) (ho : o.op = .call ⟨.value (.func f), xs, ts⟩) (hvs : xs.toList.map (ev σ) = vs)
    (hr : (callFunc f vs.toArray).run P w = .ok (.value v) w') (h : RL P ops rest (upd σ d v) w' K) : RL P ops (o :: rest) σ w K := by
  unfold RL
  have e : xs.map (ev σ) = vs.toArray := by subst hvs; apply Array.ext'; simp
  have h2 : (execOp (ev σ) o).run P w = .ok (.value v) w' := by
    simp [execOp, ho, resolve, Deferred.ofValue, ev, e, invoke, hr]
  rw [if_pos hg, h2, hd]; exact h
theorem RL_mext {f : FuncId} {xs : Array Operand} {ts : Array TypeId} {w' : World} {vs : List Value} {name : String} {t : TypeId} {r r' : Value} (hg : wantedE ops o σ = true) (hd : o.dst = some d) (ho : o.op = .call ⟨.invoke x name, xs, ts⟩) (hx : ev σ x = .iface t r)
    (hm : (method (P.types.size + Made.depth) t r name).run P w = .ok (f, r') w) (hvs : xs.toList.map (ev σ) = vs)
    (hr : (callFunc f (r' :: vs).toArray).run P w = .ok (.value v) w') (h : RL P ops rest (upd σ d v) w' K) : RL P ops (o :: rest) σ w K := by
  unfold RL
  have e : xs.map (ev σ) = vs.toArray := by subst hvs; apply Array.ext'; simp
  have h2 : (execOp (ev σ) o).run P w = .ok (.value v) w' := by
    simp only [execOp, ho, resolve, e, hx, Sem.run_bind, Sem.run_pure, Result.andThen_ok, invoke]
    have h0 : (#[Value.iface t r] ++ vs.toArray)[0]? = some (.iface t r) := by simp
    have h1 : (#[Value.iface t r] ++ vs.toArray).extract 1 (#[Value.iface t r] ++ vs.toArray).size = vs.toArray := by
      apply Array.ext'; simp
    simp only [h0, h1, callMethod, Sem.run_bind, run_program, Result.andThen_ok, hm]
    rw [show #[r'] ++ vs.toArray = (r' :: vs).toArray by apply Array.ext'; simp]
    exact hr
  rw [if_pos hg, h2, hd]; exact h
theorem yd_tassert {ok : Bool} {u : Value} (ho : o.op = .typeAssert x T U ok) (hx : ev σ x = u) (h : (Instr.typeAssert u T U ok).run P w = .ok v w) : Yd P o σ w v := by
  simp only [Yd, execOp, ho, hx, Sem.run_bind, h, Result.andThen_ok, Sem.run_pure]
/-- A store of an array or a struct. -/
theorem RL_storeAgg {b p n : Nat} {vs : List Value} {cs : Array Value} {T' : TypeId} (S : World → Prop) (hg : o.guard = none) (hd : o.dst = none) (ho : o.op = .store T x y) (hs : sizeT P T = some n) (hx : ev σ x = .pointer (some ⟨b, p, none⟩))
    (hy : ev σ y = .agg vs.toArray) (hn : vs.length = n) (hb : w.heap[b]? = some (.cells cs T' (0, 0))) (hfit : p + n ≤ cs.size) (hone : ∀ v ∈ vs, v.oneCell' = true)
    (hS : S (setCells w b p vs)) (h : ∀ w', S w' → RL P ops rest σ w' K) : RL P ops (o :: rest) σ w K := by
  subst hn
  have hs' := sizeT_spec hs
  have hst := run_storeCells (P := P) (b := b) (p := p) vs 0 w cs T' hb (by omega) hone
  have hc : (Value.agg vs.toArray).cells = vs.toArray := rfl
  have hr : (execOp (ev σ) o).run P w = .ok .skip (setCells w b p vs) := by
    simp only [execOp, ho, hx, hy, Instr.storeAt, Instr.sureAddr, Sem.run_bind, Sem.run_pure, Result.andThen_ok, storeVar, hs', hc, List.size_toArray, ne_eq, not_true_eq_false, if_false, hst, Nat.add_zero]
  unfold RL; rw [if_pos (wantedE_none hg), hr, hd]; exact h _ hS
end
end Go.Proofs.YtdjilplpbaackaaDoor.Eng
