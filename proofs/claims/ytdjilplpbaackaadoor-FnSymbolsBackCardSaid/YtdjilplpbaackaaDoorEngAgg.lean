/- The engine, more: new blocks, clear, arrays loaded whole. -/
import Derived.Test.YtdjilplpbaackaaDoorEngMem
set_option linter.unusedVariables false
set_option linter.unusedSimpArgs false
namespace Go.Proofs.YtdjilplpbaackaaDoor.Eng
open Go

def zeroT (P : Program) (T : TypeId) : Option Value := (P.info? T).bind (·.zero)
theorem zeroT_spec {P : Program} {T : TypeId} {v : Value} (h : zeroT P T = some v) (w : World) : (zeroValue T).run P w = .ok v w := by
  unfold zeroT at h
  unfold zeroValue typeInfo
  cases hi : P.info? T with
  | none => simp [hi] at h
  | some i => simp [hi] at h; simp [hi, h]
/-- Block B is n cells of type T, cell i is f i. -/
def ArrP (H : Array Obj) (B : Nat) (T : TypeId) (n : Nat) (f : Nat → Value) : Prop := ∃ c, H[B]? = some (.cells c T (0, 0)) ∧ c.size = n ∧ ∀ i, i < n → c[i]? = some (f i)
section
variable {w : World} {B : Nat} {T : TypeId} {n : Nat} {f : Nat → Value}
theorem ArrP.ld (h : ArrP w.heap B T n f) {i : Nat} (hi : i < n) : w.cell? ⟨B, i, none⟩ = some (f i) := by
  obtain ⟨c, hc, _, hf⟩ := h; rw [cell_of_blk hc, hf i hi]
theorem ArrP.fz (h : ArrP w.heap B T n f) {i : Nat} : w.frozen? ⟨B, i, none⟩ = false := by obtain ⟨c, hc, _, _⟩ := h; exact frozen_of_blk hc
theorem ArrP.lt {H : Array Obj} (h : ArrP H B T n f) : B < H.size := by obtain ⟨c, hc, _, _⟩ := h; exact blk_lt hc
theorem ArrP.of_eq {H H' : Array Obj} (h : ArrP H B T n f) (he : H'[B]? = H[B]?) : ArrP H' B T n f := by
  obtain ⟨c, hc, h2⟩ := h; exact ⟨c, he.trans hc, h2⟩
theorem ArrP.fr {S : Nat → Prop} {w' : World} (h : ArrP w.heap B T n f) (hF : Fr S w w') (hB : ¬ S B) : ArrP w'.heap B T n f := h.of_eq (hF.block B h.lt hB)
theorem ArrP.congr {H : Array Obj} {g : Nat → Value} (h : ArrP H B T n f) (he : ∀ i, i < n → f i = g i) : ArrP H B T n g := by
  obtain ⟨c, hc, hs, hf⟩ := h; exact ⟨c, hc, hs, fun i hi => by rw [hf i hi, he i hi]⟩
theorem ArrP.set (h : ArrP w.heap B T n f) {i : Nat} (hi : i < n) {v : Value} {g : Nat → Value} (hv : g i = v) (hg : ∀ j, j < n → j ≠ i → g j = f j) : ArrP (w.setCell ⟨B, i, none⟩ v).heap B T n g := by
  obtain ⟨c, hc, hs, hf⟩ := h
  refine ⟨_, set_blk_same hc v, by simpa using hs, fun j hj => ?_⟩
  rw [Array.getElem?_setIfInBounds]
  by_cases hij : i = j
  · subst hij; rw [if_pos rfl, if_pos (by omega), hv]
  · rw [if_neg hij, hf j hj, hg j hj (Ne.symm hij)]
theorem ArrP.set_ne (h : ArrP w.heap B T n f) {b p : Nat} (hb : b ≠ B) (v : Value) : ArrP (w.setCell ⟨b, p, none⟩ v).heap B T n f := h.of_eq (set_blk_ne (Ne.symm hb) v)
end
theorem alloc_get {w : World} {o : Obj} : (w.alloc o).heap[w.heap.size]? = some o := by
  show (w.heap.push o)[w.heap.size]? = _
  simp
theorem alloc_old {w : World} {o : Obj} {b : Nat} (h : b < w.heap.size) : (w.alloc o).heap[b]? = w.heap[b]? := by
  show (w.heap.push o)[b]? = _
  rw [Array.getElem?_push, if_neg (by omega)]
theorem alloc_size {w : World} {o : Obj} : (w.alloc o).heap.size = w.heap.size + 1 := by
  show (w.heap.push o).size = _
  rw [Array.size_push]
section
variable {P : Program} {ops : List Oper} {K : Kont} {σ : Env} {w : World} {o : Oper} {rest : List Oper} {v : Value} {d : Nat} {T U : TypeId} {x y : Operand}
theorem RL_alloc {z : Value} (S : World → Prop) (hg : o.guard = none) (hd : o.dst = some d) (ho : o.op = .alloc T) (hz : zeroT P T = some z) (hS : S (w.alloc (.cells z.cells T (0, 0))))
    (h : ∀ w', S w' → RL P ops rest (upd σ d (.pointer (some ⟨w.heap.size, 0, none⟩))) w' K) : RL P ops (o :: rest) σ w K := by
  refine RL_w hg hd (w' := w.alloc (.cells z.cells T (0, 0))) ?_ (h _ hS)
  have hz' := zeroT_spec hz
  simp only [Yw, execOp, ho, Instr.alloc, newVar, newRow, Sem.run_bind, hz', Result.andThen_ok, Sem.run_pure, run_newObj, World.alloc]
theorem RL_box (S : World → Prop) (hg : o.guard = none) (hd : o.dst = some d) (ho : o.op = .box T x) (hx : ev σ x = v) (hS : S (w.alloc (.cells v.cells T (0, 0))))
    (h : ∀ w', S w' → RL P ops rest (upd σ d (.pointer (some ⟨w.heap.size, 0, none⟩))) w' K) : RL P ops (o :: rest) σ w K := by
  refine RL_w hg hd (w' := w.alloc (.cells v.cells T (0, 0))) ?_ (h _ hS)
  simp only [Yw, execOp, ho, hx, Instr.box, newVar, newRow, Sem.run_bind, Result.andThen_ok, Sem.run_pure, run_newObj, World.alloc]
theorem zeroCells_one (z : Value) (n : Nat) : (Builtin.zeroCells #[z] n).toList = List.replicate n z := by
  unfold Builtin.zeroCells
  apply List.ext_getElem?
  intro i
  simp only [List.size_toArray, List.length_cons, List.length_nil, Nat.zero_add, Nat.mul_one, Nat.mod_one, Array.getElem?_toList, Array.getElem?_map, List.getElem?_replicate]
  rw [Array.getElem?_range]
  split <;> rfl
/-- clear of a slice of one-cell elements. -/
theorem RL_clear {b p n c : Nat} {z : Value} {cs : Array Value} {T' e : TypeId} (S : World → Prop) (hg : o.guard = none) (hd : o.dst = none) (ho : o.op = .call ⟨.builtin .clear, #[x], #[T]⟩)
    (hu : P.underlying T = some (.slice e)) (hz : zeroT P e = some z) (hz1 : z.oneCell' = true) (hx : ev σ x = .slice (some ⟨b, p, none⟩) n c) (hn : 0 < n)
    (hb : w.heap[b]? = some (.cells cs T' (0, 0))) (hfit : p + n ≤ cs.size)
    (hS : S (setCells w b p (List.replicate n z))) (h : ∀ w', S w' → RL P ops rest σ w' K) : RL P ops (o :: rest) σ w K := by
  refine RL_w0 hg hd (v := .tuple #[]) (w' := setCells w b p (List.replicate n z)) ?_ (h _ hS)
  have hz' := zeroT_spec hz
  have hc1 : z.cells = #[z] := by cases z <;> first | rfl | simp [Value.oneCell'] at hz1
  have hst := run_storeCells (P := P) (b := b) (p := p) (List.replicate n z) 0 w cs T' hb (by simpa using hfit) (fun v hv => by rw [List.eq_of_mem_replicate hv]; exact hz1)
  obtain ⟨m, rfl⟩ : ∃ m, n = m + 1 := ⟨n - 1, by omega⟩
  simp only [Yw, execOp, ho, resolve, List.map_toArray, List.map_cons, List.map_nil, hx, Sem.run_bind, Result.andThen_ok, Sem.run_pure, invoke, builtin]
  simp only [Builtin.clear_, List.getElem?_toArray, List.getElem?_cons_zero, Sem.run_bind, underlying_spec hu, Result.andThen_ok, hz', hc1, zeroCells_one, hst, Sem.run_pure, Nat.add_zero]
def aggT (P : Program) (T : TypeId) : Bool := match P.underlying T with | some (.struct _) | some (.array _ _) => true | _ => false
theorem aggT_spec (h : aggT P T = true) (w : World) : (isAgg T).run P w = .ok true w := by
  unfold aggT at h
  unfold isAgg underlying
  cases hu : P.underlying T with
  | none => simp [hu] at h
  | some d => cases d <;> simp_all
theorem yd_load_agg {b p n : Nat} (ho : o.op = .load T x) (ht : aggT P T = true) (hs : sizeT P T = some n) (hx : ev σ x = .pointer (some ⟨b, p, none⟩)) (vs : List Value) (hn : vs.length = n)
    (hc : ∀ k v, vs[k]? = some v → w.cell? ⟨b, p + k, none⟩ = some v) : Yd P o σ w (.agg vs.toArray) := by
  have h1 := aggT_spec ht w
  have h2 := sizeT_spec hs w
  have h3 := run_loadCells (P := P) vs hc
  subst hn
  simp only [Yd, execOp, ho, hx, Instr.loadAt, Instr.sureAddr, loadVar, Sem.run_bind, Sem.run_pure, Result.andThen_ok, h1, if_true, h2, h3]
theorem yd_index {n : Nat} {k : IntKind} {q : Int} {cs : Array Value} {e : TypeId} (ho : o.op = .index T x y) (hu : P.underlying T = some (.array n e)) (hs : sizeT P e = some 1) (he : scalarT P e = true) (hx : ev σ x = .agg cs)
    (hy : ev σ y = .int k q) (i : Nat) (hq : q = (i : Int)) (hlt : i < n) (hv : cs[i]? = some v) : Yd P o σ w v := by
  have h2 := sizeT_spec hs w
  have h1 := scalarT_spec he
  subst hq
  simp only [Yd, execOp, ho, hx, hy, Instr.index, asIntOf, Sem.run_bind, Sem.run_pure, Result.andThen_ok, underlying_spec hu]
  rw [if_pos (by omega)]
  simp only [Sem.run_bind, h2, Result.andThen_ok, Int.toNat_natCast, Nat.mul_one, part, h1, Bool.false_eq_true, if_false, hv, Sem.run_pure]
end
end Go.Proofs.YtdjilplpbaackaaDoor.Eng
