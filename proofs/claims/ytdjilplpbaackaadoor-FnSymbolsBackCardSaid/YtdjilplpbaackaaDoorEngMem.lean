/- The engine, more: rows of cells read and written, copy, slices cut, calls through an interface. -/
import Derived.Test.YtdjilplpbaackaaDoorDec
set_option linter.unusedVariables false
set_option linter.unusedSimpArgs false
namespace Go.Proofs.YtdjilplpbaackaaDoor.Eng
open Go

/-! ### Rows -/
theorem run_loadCellsFrom {P : Program} {w : World} {b p : Nat} : ∀ (vs : List Value) (i : Nat) (acc : Array Value),
    (∀ k v, vs[k]? = some v → w.cell? ⟨b, p + (i + k), none⟩ = some v) → (loadCellsFrom ⟨b, p, none⟩ i vs.length acc).run P w = .ok (acc ++ vs.toArray) w
  | [], i, acc, h => by simp [loadCellsFrom]
  | v :: vs, i, acc, h => by
    have h0 : w.cell? ⟨b, p + i, none⟩ = some v := by simpa using h 0 v rfl
    have ih := run_loadCellsFrom (P := P) (w := w) (b := b) (p := p) vs (i + 1) (acc.push v) (fun k x hx => by
      have := h (k + 1) x (by simpa using hx)
      rwa [show i + 1 + k = i + (k + 1) by omega])
    simp only [List.length_cons, loadCellsFrom, Sem.run_bind, add_none, run_load, h0, Result.andThen_ok, ih]
    congr 1
    apply Array.ext'; simp
theorem run_loadCells {P : Program} {w : World} {b p : Nat} (vs : List Value) (h : ∀ k v, vs[k]? = some v → w.cell? ⟨b, p + k, none⟩ = some v) :
    (loadCells ⟨b, p, none⟩ vs.length).run P w = .ok vs.toArray w := by
  have := run_loadCellsFrom (P := P) vs 0 #[] (w := w) (b := b) (p := p) (by simpa using h)
  simpa [loadCells] using this
/-- Cells stored one behind the other. -/
def setCells (w : World) (b : Nat) : Nat → List Value → World
  | _, [] => w
  | p, v :: vs => setCells (w.setCell ⟨b, p, none⟩ v) b (p + 1) vs
theorem run_storeCells {P : Program} {b p : Nat} : ∀ (vs : List Value) (i : Nat) (w : World) (c : Array Value) (T : TypeId), w.heap[b]? = some (.cells c T (0, 0)) → p + i + vs.length ≤ c.size →
    (∀ v ∈ vs, v.oneCell' = true) → (storeCells ⟨b, p, none⟩ vs i).run P w = .ok () (setCells w b (p + i) vs)
  | [], i, w, c, T, h, hl, h1 => rfl
  | v :: vs, i, w, c, T, h, hl, h1 => by
    have hlt : p + i < c.size := by simp at hl; omega
    have hc : w.cell? ⟨b, p + i, none⟩ = some c[p + i] := by rw [cell_of_blk h, Array.getElem?_eq_getElem hlt]
    have hs := run_store P w ⟨b, p + i, none⟩ v .plain (h1 v (List.mem_cons_self ..))
    rw [hc] at hs
    simp only [frozen_of_blk h, Bool.false_eq_true, if_false] at hs
    have ih := run_storeCells (P := P) (b := b) (p := p) vs (i + 1) (w.setCell ⟨b, p + i, none⟩ v) _ T (set_blk_same h v) (by simp at hl ⊢; omega) (fun x hx => h1 x (List.mem_cons_of_mem _ hx))
    simp only [storeCells, Sem.run_bind, add_none, hs, Result.andThen_ok, ih, setCells]
    rw [show p + (i + 1) = p + i + 1 by omega]
theorem Fr.setCells {S : Nat → Prop} {a : World} {b : Nat} (hb : b < a.heap.size → S b) : ∀ (vs : List Value) (p : Nat) (w : World), Fr S a w → Fr S a (setCells w b p vs)
  | [], _, _, h => h
  | v :: vs, p, w, h => Fr.setCells hb vs (p + 1) _ (h.set hb v)
theorem setCells_ne {b k : Nat} (hk : k ≠ b) : ∀ (vs : List Value) (p : Nat) (w : World), (setCells w b p vs).heap[k]? = w.heap[k]?
  | [], _, _ => rfl
  | v :: vs, p, w => by rw [setCells, setCells_ne hk vs, set_blk_ne hk]
theorem setCells_size {b : Nat} : ∀ (vs : List Value) (p : Nat) (w : World), (setCells w b p vs).heap.size = w.heap.size
  | [], _, _ => rfl
  | v :: vs, p, w => by rw [setCells, setCells_size vs]; simp [World.setCell]
/-- What a row of cells reads behind a store of a row. -/
def putRow (f : Nat → Option Value) (p : Nat) (vs : List Value) : Nat → Option Value := fun k => if p ≤ k ∧ k < p + vs.length then vs[k - p]? else f k
theorem setCells_blk {b : Nat} : ∀ (vs : List Value) (p : Nat) (w : World) (c : Array Value) (T : TypeId) (fr : Nat × Nat), w.heap[b]? = some (.cells c T fr) → p + vs.length ≤ c.size →
    ∃ c', (setCells w b p vs).heap[b]? = some (.cells c' T fr) ∧ c'.size = c.size ∧ ∀ k, c'[k]? = putRow (fun k => c[k]?) p vs k
  | [], p, w, c, T, fr, h, hl => ⟨c, h, rfl, fun k => by simp [putRow]; intro h1 h2; omega⟩
  | v :: vs, p, w, c, T, fr, h, hl => by
    obtain ⟨c', h1, h2, h3⟩ := setCells_blk vs (p + 1) _ _ T fr (set_blk_same h v) (by simp at hl ⊢; omega)
    refine ⟨c', h1, by simpa using h2, fun k => ?_⟩
    rw [h3]
    simp only [putRow, List.length_cons]
    simp only [List.length_cons] at hl
    by_cases hk : k = p
    · subst hk
      rw [if_neg (by omega), if_pos (by omega), Array.getElem?_setIfInBounds, if_pos rfl, if_pos (by omega)]
      simp
    · by_cases hk2 : p + 1 ≤ k ∧ k < p + 1 + vs.length
      · rw [if_pos hk2, if_pos (by omega)]
        rw [show k - p = (k - (p + 1)) + 1 by omega]
        simp
      · rw [if_neg hk2, if_neg (by omega), Array.getElem?_setIfInBounds, if_neg (by omega)]

/-! ### Bytes -/
def u8v (x : Nat) : Value := .int .u8 x
/-- The slice's address leads to these bytes. -/
def SrcH (H : Array Obj) (sa : Option Addr) (xs : List Nat) : Prop :=
  xs = [] ∨ ∃ b p c T fr, sa = some ⟨b, p, none⟩ ∧ H[b]? = some (.cells c T fr) ∧ ∀ k x, xs[k]? = some x → c[p + k]? = some (u8v x)
theorem SrcH.cell {w : World} {b p : Nat} {xs : List Nat} (h : SrcH w.heap (some ⟨b, p, none⟩) xs) {k x : Nat} (hx : xs[k]? = some x) : w.cell? ⟨b, p + k, none⟩ = some (u8v x) := by
  rcases h with rfl | ⟨b', p', c, T, fr, e, hb, hc⟩
  · simp at hx
  · cases e; rw [cell_of_blk hb]; exact hc k x hx

section
variable {P : Program} {ops : List Oper} {K : Kont} {σ : Env} {w : World} {o : Oper} {rest : List Oper} {v : Value} {d : Nat} {T U : TypeId} {x y : Operand}
/-- copy. -/
theorem RL_copy {b p dl dc sl sc : Nat} {sa : Option Addr} {c : Array Value} {T' : TypeId} (S : World → Prop) (hg : o.guard = none) (hd : o.dst = some d) (ho : o.op = .call ⟨.builtin .copy, #[x, y], #[T, U]⟩)
    (ht : sliceT P T = some 1) (hx : ev σ x = .slice (some ⟨b, p, none⟩) dl dc) (hy : ev σ y = .slice sa sl sc) (vs : List Value) (hn : vs.length = min sl dl)
    (hsrc : vs = [] ∨ ∃ bs ps, sa = some ⟨bs, ps, none⟩ ∧ ∀ k v, vs[k]? = some v → w.cell? ⟨bs, ps + k, none⟩ = some v)
    (hb : w.heap[b]? = some (.cells c T' (0, 0))) (hfit : p + vs.length ≤ c.size) (hone : ∀ v ∈ vs, v.oneCell' = true)
    (hS : S (setCells w b p vs)) (h : ∀ w', S w' → RL P ops rest (upd σ d (.int .i64 (vs.length : Nat))) w' K) : RL P ops (o :: rest) σ w K := by
  refine RL_w hg hd (w' := setCells w b p vs) ?_ (h _ hS)
  obtain ⟨e, hu, hs⟩ := sliceT_spec ht
  have hs' := sizeT_spec hs
  have hst := run_storeCells (P := P) (b := b) (p := p) vs 0 w c T' hb (by simpa using hfit) hone
  have hfc : (Builtin.firstCells 1 (Nat.min sl dl) (.slice sa sl sc)).run P w = .ok vs.toArray w := by
    have hn' : Nat.min sl dl = vs.length := hn.symm
    rw [hn']
    rcases hsrc with rfl | ⟨bs, ps, rfl, hcell⟩
    · cases sa <;> simp [Builtin.firstCells, loadCells, loadCellsFrom]
    · have := run_loadCells (P := P) vs hcell
      simp only [Builtin.firstCells, Nat.mul_one]; exact this
  simp only [Yw, execOp, ho, resolve, List.map_toArray, List.map_cons, List.map_nil, hx, hy, Sem.run_bind, Result.andThen_ok, Sem.run_pure, invoke, builtin]
  simp only [Builtin.copy_, List.getElem?_toArray, List.getElem?_cons_zero, List.getElem?_cons_succ, Sem.run_bind, underlying_spec hu, Result.andThen_ok, Builtin.lenOf, Sem.run_pure, hs', hfc, hst, Nat.add_zero, goInt, hn]
theorem yd_slice_lo {b p n cc : Nat} {k : IntKind} {q : Int} (ho : o.op = .slice T x (some y) none none) (ht : sliceT P T = some 1) (hx : ev σ x = .slice (some ⟨b, p, none⟩) n cc)
    (hy : ev σ y = .int k q) (i : Nat) (hq : q = (i : Int)) (hi : i ≤ n) : Yd P o σ w (.slice (some ⟨b, if cc = i then p else p + i, none⟩) (n - i) (cc - i)) := by
  obtain ⟨e, hu, hs⟩ := sliceT_spec ht
  have hs' := sizeT_spec hs
  subst hq
  simp only [Yd, execOp, ho, hx, Option.map_some, Option.map_none, hy]
  simp [Instr.sliceAt, underlying, hu, Instr.slice, Instr.sliceBounds, Instr.sliceBound, asIntOf, hi, hs', add_none]
  split <;> simp
theorem yd_slice_lo_nil {n cc : Nat} {k : IntKind} {q : Int} (ho : o.op = .slice T x (some y) none none) (ht : sliceT P T = some 1) (hx : ev σ x = .slice none n cc)
    (hy : ev σ y = .int k q) (i : Nat) (hq : q = (i : Int)) (hi : i ≤ n) : Yd P o σ w (.slice none (n - i) (cc - i)) := by
  obtain ⟨e, hu, hs⟩ := sliceT_spec ht
  have hs' := sizeT_spec hs
  subst hq
  simp only [Yd, execOp, ho, hx, Option.map_some, Option.map_none, hy]
  simp [Instr.sliceAt, underlying, hu, Instr.slice, Instr.sliceBounds, Instr.sliceBound, asIntOf, hi, hs']
theorem yd_slice_lohi {z : Operand} {b p n cc : Nat} {k k' : IntKind} {q r : Int} (ho : o.op = .slice T x (some y) (some z) none) (ht : sliceT P T = some 1) (hx : ev σ x = .slice (some ⟨b, p, none⟩) n cc)
    (hy : ev σ y = .int k q) (hz : ev σ z = .int k' r) (i j : Nat) (hq : q = (i : Int)) (hr : r = (j : Int)) (hi : i ≤ j) (hj : j ≤ cc) : Yd P o σ w (.slice (some ⟨b, if cc = i then p else p + i, none⟩) (j - i) (cc - i)) := by
  obtain ⟨e, hu, hs⟩ := sliceT_spec ht
  have hs' := sizeT_spec hs
  subst hq hr
  simp only [Yd, execOp, ho, hx, Option.map_some, Option.map_none, hy, hz]
  simp [Instr.sliceAt, underlying, hu, Instr.slice, Instr.sliceBounds, Instr.sliceBound, asIntOf, hi, hj, hs', add_none]
  split <;> simp
/-- Slices of an array. -/
theorem yd_slice_arr {lo hi : Option Operand} {b p n l h : Nat} {v : Value} (ho : o.op = .slice T x lo hi none) (ht : arrT P T = some (n, 1)) (hx : ev σ x = .pointer (some ⟨b, p, none⟩))
    (hlo : match lo with | none => l = 0 | some y => ∃ k, ev σ y = .int k (l : Int)) (hhi : match hi with | none => h = n | some y => ∃ k, ev σ y = .int k (h : Int)) (hlh : l ≤ h) (hhn : h ≤ n)
    (hv : v = .slice (some ⟨b, if n = l then p else p + l, none⟩) (h - l) (n - l)) : Yd P o σ w v := by
  subst hv
  obtain ⟨e, hu, hs⟩ := arrT_spec ht
  have hs' := sizeT_spec hs
  have hb : (Instr.sliceBounds false n n (lo.map (ev σ)) (hi.map (ev σ)) none).run P w = .ok (l, h, n) w := by
    cases lo with
    | none =>
      cases hi with
      | none => subst hlo hhi; simp [Instr.sliceBounds]
      | some z => obtain ⟨k, hz⟩ := hhi; subst hlo; simp [Instr.sliceBounds, Instr.sliceBound, asIntOf, hz, hhn]
    | some y =>
      obtain ⟨k', hy⟩ := hlo
      cases hi with
      | none => subst hhi; simp [Instr.sliceBounds, Instr.sliceBound, asIntOf, hy, hlh]
      | some z => obtain ⟨k, hz⟩ := hhi; simp [Instr.sliceBounds, Instr.sliceBound, asIntOf, hy, hz, hhn, hlh]
  simp only [Yd, execOp, ho, hx]
  simp [Instr.sliceAt, underlying, hu, Instr.sureAddr, hb, hs', add_none]
  split <;> rfl
/-- A call through an interface value. -/
theorem run_invoke {f : FuncId} {xs : Array Operand} {ts : Array TypeId} {name : String} {t : TypeId} {r r' : Value} (ho : o.op = .call ⟨.invoke x name, xs, ts⟩) (hx : ev σ x = .iface t r)
    (hm : (method (P.types.size + Made.depth) t r name).run P w = .ok (f, r') w) (hf : Entered P f) {vs : List Value} (hvs : xs.toList.map (ev σ) = vs) :
    (execOp (ev σ) o).run P w = .ok (.enter f (r' :: vs).toArray) w := by
  have e : xs.map (ev σ) = vs.toArray := by subst hvs; apply Array.ext'; simp
  simp only [execOp, ho, resolve, e, hx, Sem.run_bind, Sem.run_pure, Result.andThen_ok, invoke]
  have h0 : (#[Value.iface t r] ++ vs.toArray)[0]? = some (.iface t r) := by simp
  have h1 : (#[Value.iface t r] ++ vs.toArray).extract 1 (#[Value.iface t r] ++ vs.toArray).size = vs.toArray := by
    apply Array.ext'; simp
  simp only [h0, h1, callMethod, Sem.run_bind, run_program, Result.andThen_ok, hm]
  rw [show #[r'] ++ vs.toArray = (r' :: vs).toArray by apply Array.ext'; simp]
  exact run_callFunc hf _
theorem RL_invoke {f : FuncId} {xs : Array Operand} {ts : Array TypeId} {name : String} {t : TypeId} {r r' : Value} {R : Ending → World → Prop} (hg : o.guard = none) (hd : o.dst = some d) (ho : o.op = .call ⟨.invoke x name, xs, ts⟩) (hx : ev σ x = .iface t r)
    (hm : (method (P.types.size + Made.depth) t r name).run P w = .ok (f, r') w) (hf : Entered P f) {vs : List Value} (hvs : xs.toList.map (ev σ) = vs)
    (hc : Calls P f (r' :: vs).toArray w R) (h : ∀ e w', R e w' → ∃ v, e = .returned v ∧ RL P ops rest (upd σ d v) w' K) : RL P ops (o :: rest) σ w K := by
  unfold RL; rw [if_pos (wantedE_none hg), run_invoke ho hx hm hf hvs, hd]
  exact hc.mono h
theorem yd_mv {v : Value} (ho : o.op = .move x ∨ o.op = .assign x) (hx : ev σ x = v) : Yd P o σ w v := by
  subst hx
  rcases ho with ho | ho
  · exact yd_move ho
  · exact yd_assign ho
theorem yd_nili {t : TypeId} {r : Value} (ho : o.op = .nilCheck x) (hx : ev σ x = .iface t r) : Yd P o σ w (.iface t r) := by
  simp [Yd, execOp, ho, hx]
/-! comparisons of interface values -/
theorem ifaceT_spec (h : ifaceT P T = true) : ∃ ms, P.underlying T = some (.interface ms) := by
  unfold ifaceT at h
  cases hu : P.underlying T with
  | none => simp [hu] at h
  | some d => cases d <;> simp [hu] at h; exact ⟨_, rfl⟩
theorem equalIn_nil {ms : Array (String × TypeId)} (hu : P.underlying T = some (.interface ms)) (t : TypeId) (r : Value) (dd : Nat) : (Op.equalIn (dd + 1) T (.iface t r) .nilIface).run P w = .ok false w := by
  simp only [Op.equalIn, Sem.run_bind, underlying_spec hu, Result.andThen_ok, Sem.run_pure]
theorem equalIn_nil' {ms : Array (String × TypeId)} (hu : P.underlying T = some (.interface ms)) (dd : Nat) : (Op.equalIn (dd + 1) T .nilIface .nilIface).run P w = .ok true w := by
  simp only [Op.equalIn, Sem.run_bind, underlying_spec hu, Result.andThen_ok, Sem.run_pure]
theorem equal_nil {ms : Array (String × TypeId)} (hu : P.underlying T = some (.interface ms)) (t : TypeId) (r : Value) : (Op.equal T (.iface t r) .nilIface).run P w = .ok false w := equalIn_nil hu t r 9999
theorem equal_nil' {ms : Array (String × TypeId)} (hu : P.underlying T = some (.interface ms)) : (Op.equal T .nilIface .nilIface).run P w = .ok true w := equalIn_nil' hu 9999
theorem yd_ne_nil {t : TypeId} {r : Value} (ho : o.op = .binOp .neq T x (.const .nilIface) U) (ht : ifaceT P T = true) (hx : ev σ x = .iface t r) : Yd P o σ w (.bool true) := by
  obtain ⟨ms, hu⟩ := ifaceT_spec ht
  have h1 : (eqGuard .neq T x (.const .nilIface) (.iface t r) .nilIface).run P w = .ok () w := by unfold eqGuard; simp
  have h2 := equal_nil (w := w) hu t r
  have h3 : ev σ (.const .nilIface) = .nilIface := rfl
  simp [Yd, execOp, ho, hx, h3, h1, binOp, h2]
theorem yd_ne_nil' (ho : o.op = .binOp .neq T x (.const .nilIface) U) (ht : ifaceT P T = true) (hx : ev σ x = .nilIface) : Yd P o σ w (.bool false) := by
  obtain ⟨ms, hu⟩ := ifaceT_spec ht
  have h1 : (eqGuard .neq T x (.const .nilIface) .nilIface .nilIface).run P w = .ok () w := by unfold eqGuard; simp
  have h2 := equal_nil' (w := w) hu
  have h3 : ev σ (.const .nilIface) = .nilIface := rfl
  simp [Yd, execOp, ho, hx, h3, h1, binOp, h2]
theorem yd_eq_nil {t : TypeId} {r : Value} (ho : o.op = .binOp .eql T x (.const .nilIface) U) (ht : ifaceT P T = true) (hx : ev σ x = .iface t r) : Yd P o σ w (.bool false) := by
  obtain ⟨ms, hu⟩ := ifaceT_spec ht
  have h1 : (eqGuard .eql T x (.const .nilIface) (.iface t r) .nilIface).run P w = .ok () w := by unfold eqGuard; simp
  have h2 := equal_nil (w := w) hu t r
  have h3 : ev σ (.const .nilIface) = .nilIface := rfl
  simp [Yd, execOp, ho, hx, h3, h1, binOp, h2]
theorem yd_eq_nil' (ho : o.op = .binOp .eql T x (.const .nilIface) U) (ht : ifaceT P T = true) (hx : ev σ x = .nilIface) : Yd P o σ w (.bool true) := by
  obtain ⟨ms, hu⟩ := ifaceT_spec ht
  have h1 : (eqGuard .eql T x (.const .nilIface) .nilIface .nilIface).run P w = .ok () w := by unfold eqGuard; simp
  have h2 := equal_nil' (w := w) hu
  have h3 : ev σ (.const .nilIface) = .nilIface := rfl
  simp [Yd, execOp, ho, hx, h3, h1, binOp, h2]
/-- Two interface values of one type: their values are compared. -/
theorem yd_cmp_same {op : BinOp} {t : TypeId} {r s : Value} {e : Bool} (hop : op = .eql ∨ op = .neq) (ho : o.op = .binOp op T x y U) (ht : ifaceT P T = true) (hx : ev σ x = .iface t r) (hy : ev σ y = .iface t s)
    (hc : (P.info? t).map (·.comparable) = some true) (he : ∀ dd, (Op.equalIn (dd + 1) t r s).run P w = .ok e w) : Yd P o σ w (.bool (match op with | .neq => !e | _ => e)) := by
  obtain ⟨ms, hu⟩ := ifaceT_spec ht
  have h1 : (eqGuard op T x y (.iface t r) (.iface t s)).run P w = .ok () w := by unfold eqGuard; simp
  cases hi : P.info? t with
  | none => simp [hi] at hc
  | some i =>
    simp only [hi, Option.map_some, Option.some.injEq] at hc
    have hti : (typeInfo t).run P w = .ok i w := by simp [typeInfo, hi]
    have h2 : (Op.equal T (.iface t r) (.iface t s)).run P w = .ok e w := by
      show (Op.equalIn (9998 + 1 + 1) T _ _).run P w = _
      generalize 9998 = dd
      rw [Op.equalIn]
      simp only [Sem.run_bind, underlying_spec hu, Result.andThen_ok, ne_eq, not_true_eq_false, if_false, hti, hc, Bool.not_true, Bool.false_eq_true, he dd, Sem.run_pure]
    rcases hop with rfl | rfl
    · simp [Yd, execOp, ho, hx, hy, h1, binOp, h2]
    · simp [Yd, execOp, ho, hx, hy, h1, binOp, h2]
theorem yd_cmp_other {op : BinOp} {t u : TypeId} {r s : Value} (hop : op = .eql ∨ op = .neq) (ho : o.op = .binOp op T x y U) (ht : ifaceT P T = true) (hx : ev σ x = .iface t r) (hy : ev σ y = .iface u s) (hne : t ≠ u) :
    Yd P o σ w (.bool (match op with | .neq => true | _ => false)) := by
  obtain ⟨ms, hu⟩ := ifaceT_spec ht
  have h1 : (eqGuard op T x y (.iface t r) (.iface u s)).run P w = .ok () w := by unfold eqGuard; simp
  have h2 : (Op.equal T (.iface t r) (.iface u s)).run P w = .ok false w := by
    show (Op.equalIn (9999 + 1) T _ _).run P w = _
    generalize 9999 = dd
    rw [Op.equalIn]
    simp only [Sem.run_bind, underlying_spec hu, Result.andThen_ok, ne_eq, hne, not_false_eq_true, if_true, Sem.run_pure]
  rcases hop with rfl | rfl
  · simp [Yd, execOp, ho, hx, hy, h1, binOp, h2]
  · simp [Yd, execOp, ho, hx, hy, h1, binOp, h2]
theorem equalIn_ptr {t elem : TypeId} {a : Addr} (hu : P.underlying t = some (.pointer elem)) (hs : sizeT P elem = some 1) (dd : Nat) : (Op.equalIn (dd + 1) t (.pointer (some a)) (.pointer (some a))).run P w = .ok true w := by
  have hs' := sizeT_spec hs
  simp only [Op.equalIn, Sem.run_bind, underlying_spec hu, Result.andThen_ok, Sem.run_pure, hs', ne_eq, Nat.succ_ne_self, not_false_eq_true, if_true, sameAddr, beq_self_eq_true]
theorem equalIn_str {t : TypeId} {a b : ByteArray} (hu : P.underlying t = some .string) (dd : Nat) : (Op.equalIn (dd + 1) t (.string a) (.string b)).run P w = .ok (a == b) w := by
  simp only [Op.equalIn, Sem.run_bind, underlying_spec hu, Result.andThen_ok, Sem.run_pure]
end
end Go.Proofs.YtdjilplpbaackaaDoor.Eng
