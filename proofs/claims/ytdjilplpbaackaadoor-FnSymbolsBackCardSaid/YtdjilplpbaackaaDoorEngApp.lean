/- The engine, more: values built, slices built and appended to, strings of bytes. -/
import Derived.Test.YtdjilplpbaackaaDoorEngAgg
import Derived.Laws.AppendOwn
import Derived.Laws.IdiomStrings
import Derived.Great.BuildSlice
import Derived.Laws.StructEq
set_option linter.unusedVariables false
set_option linter.unusedSimpArgs false
namespace Go.Proofs.YtdjilplpbaackaaDoor.Eng
open Go

theorem Fr.grown {S : Nat → Prop} {w0 w w' : World} {row : Option Nat} (h : Fr S w0 w) (hg : w.grownBy w' row) (hrow : ∀ k, row = some k → w0.heap.size ≤ k) : Fr S w0 w' :=
  ⟨hg.os.trans h.os, hg.tape.trans h.tape, hg.output.trans h.output, Nat.le_trans h.size hg.size, fun k hk hs => (hg.block k (Nat.lt_of_lt_of_le hk h.size) (fun e => by have := hrow k e.symm; omega)).trans (h.block k hk hs)⟩
/-- A slice of one-cell elements that the run has made itself. -/
def Own (w : World) (base : Nat) (e : TypeId) (v : Value) (xs : List Value) : Prop := w.ownsRow base e 1 v xs.length xs
theorem Own.nil (w : World) (base : Nat) (e : TypeId) : Own w base e (.slice none 0 0) [] := World.ownsRow_nil w base e 1
theorem Own.of_eq {w w' : World} {base : Nat} {e : TypeId} {v : Value} {xs : List Value} (h : Own w base e v xs) (hk : ∀ k, base ≤ k → k < w.heap.size → v.ownBlock = some k → w'.heap[k]? = w.heap[k]?) : Own w' base e v xs := by
  refine ⟨h.1, ?_⟩
  rcases h.2 with hn | ⟨g, cap, cur, rfl, hb, hgg, rest⟩
  · exact .inl hn
  · exact .inr ⟨g, cap, cur, rfl, hb, (hk g hb (blk_lt hgg) rfl).trans hgg, rest⟩
theorem Own.fr {w w' : World} {base : Nat} {e : TypeId} {v : Value} {xs : List Value} {S : Nat → Prop} (h : Own w base e v xs) (hF : Fr S w w') (hS : ∀ k, base ≤ k → ¬ S k) : Own w' base e v xs :=
  h.of_eq fun k hb hk _ => hF.block k hk (hS k hb)
theorem Own.form {w : World} {base : Nat} {e : TypeId} {v : Value} {xs : List Value} (h : Own w base e v xs) : ∃ a cap, v = .slice a xs.length cap ∧ xs.length ≤ cap := by
  rcases h.2 with ⟨rfl, hn⟩ | ⟨g, cap, cur, rfl, hb, hgg, hc, rest⟩
  · exact ⟨none, 0, by rw [hn], by omega⟩
  · exact ⟨_, cap, rfl, hc⟩
theorem Own.cells' {w : World} {base : Nat} {e : TypeId} {v : Value} {xs : List Value} (h : Own w base e v xs) : v = .slice none 0 0 ∧ xs = [] ∨
    ∃ g cap, v = .slice (some ⟨g, 0, none⟩) xs.length cap ∧ base ≤ g ∧ ∀ k x, xs[k]? = some x → w.cell? ⟨g, 0 + k, none⟩ = some x := by
  rcases h.2 with ⟨rfl, hn⟩ | ⟨g, cap, cur, rfl, hb, hgg, hc, hm, hs, ht⟩
  · exact .inl ⟨rfl, List.eq_nil_of_length_eq_zero hn⟩
  · refine .inr ⟨g, cap, rfl, hb, fun k x hx => ?_⟩
    rw [Nat.zero_add, cell_of_blk hgg]
    rw [← ht, List.getElem?_take] at hx
    split at hx
    · simpa using hx
    · cases hx
section
variable {P : Program} {ops : List Oper} {K : Kont} {σ : Env} {w : World} {o : Oper} {rest : List Oper} {v : Value} {d : Nat} {T U : TypeId} {x y : Operand}
theorem yd_build {ps : Array (Nat × Operand)} {cells : Array Value} (ho : o.op = .build T ps) {vs : List (Nat × Value)} (hv : (ps.toList.map fun (i, x) => (i, ev σ x)) = vs) (hb : P.built T vs = some cells) : Yd P o σ w (.agg cells) := by
  have h1 : (ps.map fun (i, x) => (i, ev σ x)).toList = vs := by rw [Array.toList_map]; exact hv
  have h2 := run_build (P := P) w T (ps.map fun (i, x) => (i, ev σ x)) cells (by rw [h1]; exact hb)
  simp only [Yd, execOp, ho, Sem.run_bind]
  erw [h2]; rfl
def sizedT (P : Program) (T : TypeId) : Option (Nat × Nat) := (P.info? T).map fun i => (i.size, i.bytes)
/-- A slice of one element. -/
theorem RL_slice1 {e : TypeId} {z : Value} {bytes : Nat} (S : World → Prop) (hg : o.guard = none) (hd : o.dst = some d) (ho : o.op = .buildSlice T 1 #[(0, x)]) (hu : P.underlying T = some (.slice e)) (hi : sizedT P e = some (1, bytes)) (hz : zeroT P e = some z)
    (hz1 : z.oneCell' = true) (hx : ev σ x = v) (hv : v.oneCell' = true) (hS : S (w.alloc (.cells #[v] e (0, 0)))) (h : ∀ w', S w' → RL P ops rest (upd σ d (.slice (some ⟨w.heap.size, 0, none⟩) 1 1)) w' K) : RL P ops (o :: rest) σ w K := by
  refine RL_w hg hd (w' := w.alloc (.cells #[v] e (0, 0))) ?_ (h _ hS)
  unfold sizedT at hi
  unfold zeroT at hz
  cases hie : P.info? e with
  | none => simp [hie] at hi
  | some ie =>
    simp only [hie, Option.map_some, Option.some.injEq, Prod.mk.injEq] at hi
    simp only [hie, Option.bind_some] at hz
    have hzc : z.cells = #[z] := by cases z <;> first | rfl | simp [Value.oneCell'] at hz1
    have hvc : v.cells = #[v] := by cases v <;> first | rfl | simp [Value.oneCell'] at hv
    have h2 := run_buildSlice (P := P) w T e 1 #[(0, v)] #[v] ie z hu hie hz (by rw [hi.1]; decide) (by rw [hi.1]; decide) (by
      rw [hi.1, hzc]
      simp [Instr.fill, hvc]
      refine Array.ext (by simp) fun i h1 h2 => ?_
      obtain rfl : i = 0 := by simp at h2; omega
      simp)
    simp only [Yw, execOp, ho, List.map_toArray, List.map_cons, List.map_nil, hx, Sem.run_bind, h2, Result.andThen_ok, Sem.run_pure]
/-- append to a slice of the run's own. -/
theorem RL_append {e : TypeId} {z : Value} {bytes base m c b p : Nat} {xs news : List Value} (hg : o.guard = none) (hd : o.dst = some d) (ho : o.op = .call ⟨.builtin .append, #[x, y], #[T, T]⟩) (hu : P.underlying T = some (.slice e))
    (hi : sizedT P e = some (1, bytes)) (hz : zeroT P e = some z) (hz1 : z.oneCell' = true) (hx : ev σ x = v) (hy : ev σ y = .slice (some ⟨b, p, none⟩) m c) (hown : Own w base e v xs)
    (hl : news.length = m) (hnews : ∀ j u, news[j]? = some u → w.cell? ⟨b, p + j, none⟩ = some u) (h1 : ∀ u ∈ news, u.oneCell' = true) (h63 : xs.length + m ≤ 9223372036854775807) (hbytes : (xs.length + m) * bytes ≤ 140737488355328) (hbase : base ≤ w.heap.size)
    (h : ∀ v' w', Own w' base e v' (xs ++ news) → w.grownBy w' v.ownBlock → RL P ops rest (upd σ d v') w' K) : RL P ops (o :: rest) σ w K := by
  unfold sizedT at hi
  unfold zeroT at hz
  cases hie : P.info? e with
  | none => simp [hie] at hi
  | some ie =>
    simp only [hie, Option.map_some, Option.some.injEq, Prod.mk.injEq] at hi
    simp only [hie, Option.bind_some] at hz
    have hzc : z.cells = #[z] := by cases z <;> first | rfl | simp [Value.oneCell'] at hz1
    obtain ⟨v', w', hr, h2, h3, h4⟩ := run_append_own (P := P) w base T o.type e ie z 1 bytes hu hie hz hi.1 hi.2 (by rw [hzc]; rfl) (by decide) v xs.length xs hown ⟨b, p, none⟩ m c news (by omega)
      (fun j u hj => by rw [add_none]; exact hnews j u hj) h1 (by simpa [maxLen] using h63) hbytes hbase
    refine RL_w hg hd (w' := w') (v := v') ?_ (h v' w' ?_ h3)
    · simp only [Yw, execOp, ho, resolve, invoke, builtin, Sem.run_bind, Sem.run_pure, Result.andThen_ok, List.map_toArray, List.map_cons, List.map_nil, hx, hy, hr]
    · unfold Own; rw [List.length_append, hl]; exact h2
def strOf (xs : List Nat) : ByteArray := ⟨(xs.map UInt8.ofNat).toArray⟩
theorem strOf_inj {xs ys : List Nat} (hx : ∀ x ∈ xs, x < 256) (hy : ∀ y ∈ ys, y < 256) (h : strOf xs = strOf ys) : xs = ys := by
  have h1 : xs.map UInt8.ofNat = ys.map UInt8.ofNat := by
    have := congrArg (fun b : ByteArray => b.data.toList) h
    simpa [strOf] using this
  have h2 := congrArg (List.map UInt8.toNat) h1
  rw [List.map_map, List.map_map] at h2
  have key : ∀ zs : List Nat, (∀ z ∈ zs, z < 256) → zs.map (UInt8.toNat ∘ UInt8.ofNat) = zs := by
    intro zs hz
    conv => rhs; rw [← List.map_id zs]
    exact List.map_congr_left fun z h => by simp [Nat.mod_eq_of_lt (hz z h)]
  rwa [key xs hx, key ys hy] at h2
theorem yd_str {e : TypeId} {a : Option Addr} {n c : Nat} {xs : List Nat} (ho : o.op = .convert T U x) (hs : P.underlying T = some (.slice e)) (he : P.underlying e = some (.int .u8)) (hd : P.underlying U = some .string) (hx : ev σ x = .slice a n c)
    (hn : xs.length = n) (h256 : ∀ x ∈ xs, x < 256) (hc : a = none ∧ xs = [] ∨ ∃ b p, a = some ⟨b, p, none⟩ ∧ ∀ k x, xs[k]? = some x → w.cell? ⟨b, p + k, none⟩ = some (u8v x)) : Yd P o σ w (.string (strOf xs)) := by
  subst hn
  have hr : (convert T U (.slice a xs.length c)).run P w = .ok (.string (strOf xs)) w := by
    rcases hc with ⟨rfl, rfl⟩ | ⟨b, p, rfl, hc⟩
    · rw [run_convert_bytes_string w T U e none _ c hs he hd]
      simp [Conv.bytesToString, strOf]
      rfl
    · have := run_convert_bytes_back (P := P) w T U e ⟨b, p, none⟩ c (xs.map UInt8.ofNat) hs he hd (fun j hj => by
        rw [List.length_map] at hj
        rw [add_none, hc j _ (List.getElem?_eq_getElem hj), List.getElem_map]
        unfold u8v
        rw [UInt8.toNat_ofNat', Nat.mod_eq_of_lt (h256 _ (List.getElem_mem hj))])
      rw [List.length_map] at this
      exact this
  simp only [Yd, execOp, ho, hx, Sem.run_bind, hr, Result.andThen_ok, Sem.run_pure]
theorem yd_eqs {xs ys : List Nat} {r : Bool} (ho : o.op = .binOp .eql T x y U) (hx : ev σ x = .string (strOf xs)) (hy : ev σ y = .string (strOf ys)) (h1 : ∀ x ∈ xs, x < 256) (h2 : ∀ y ∈ ys, y < 256) (h : decide (xs = ys) = r) : Yd P o σ w (.bool r) := by
  subst h
  have hg : (eqGuard .eql T x y (.string (strOf xs)) (.string (strOf ys))).run P w = .ok () w := by unfold eqGuard; simp
  have he : ((strOf xs).toList == (strOf ys).toList) = decide (xs = ys) := by
    by_cases hxy : xs = ys
    · subst hxy; simp
    · rw [decide_eq_false hxy, beq_eq_false_iff_ne]
      intro e
      apply hxy
      refine strOf_inj h1 h2 ?_
      unfold strOf at *
      rw [ByteArray.toList_mk, ByteArray.toList_mk] at e
      rw [e]
  simp only [Yd, execOp, ho, hx, hy, Sem.run_bind, hg, binOp_string_eql, he, Result.andThen_ok, Sem.run_pure]
theorem yd_eqb {a b r : Bool} (ho : o.op = .binOp .eql T x y U) (ht : P.underlying T = some .bool) (hx : ev σ x = .bool a) (hy : ev σ y = .bool b) (h : (a == b) = r) : Yd P o σ w (.bool r) := by
  subst h
  have hg : (eqGuard .eql T x y (.bool a) (.bool b)).run P w = .ok () w := by unfold eqGuard; simp
  have h2 : (Op.equal T (.bool a) (.bool b)).run P w = .ok (a == b) w := run_equalIn_bool w 9999 T a b ht
  have h3 : binOp .eql T (.bool a) (.bool b) = (do pure (.bool (← Op.equal T (.bool a) (.bool b)))) := by simp [binOp]
  simp only [Yd, execOp, ho, hx, hy, Sem.run_bind, hg, h3, h2, Result.andThen_ok, Sem.run_pure]
theorem yd_cap {n c s : Nat} {a : Option Addr} (ho : o.op = .call ⟨.builtin .cap, #[x], #[T]⟩) (ht : sliceT P T = some s) (hx : ev σ x = .slice a n c) : Yd P o σ w (.int .i64 c) := by
  obtain ⟨e, hu, hs⟩ := sliceT_spec ht
  simp [Yd, execOp, ho, hx, resolve, invoke, builtin, Builtin.cap_, underlying, hu, goInt]
end
end Go.Proofs.YtdjilplpbaackaaDoor.Eng
