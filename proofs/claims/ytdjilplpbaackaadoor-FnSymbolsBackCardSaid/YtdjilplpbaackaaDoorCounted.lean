/- laws.counted. -/
import Derived.Test.YtdjilplpbaackaaDoorZZEmit
import Derived.Test.YtdjilplpbaackaaDoorDhtWalk
import Derived.Test.YtdjilplpbaackaaDoorCodes
set_option linter.unusedVariables false
set_option linter.unusedSimpArgs false
set_option maxRecDepth 100000
namespace Go.Proofs.YtdjilplpbaackaaDoor.Eng
open Go

theorem callsCT {P : Program} {f : FuncId} {fn : Func} {c : Code} {w : World} {R : Ending → World → Prop} {t u N n : Nat} {T : TypeId} {args : List Value} {vs : Array Value} (hf : P.funcs[f]? = some fn) (hb : fn.body = some c) (hN : fn.ntmps = N) (hres : fn.results = #[.cell t T, .tmp u])
    (ht : aggT P T = true) (hs : sizeT P T = some n) (hvs : vs = args.toArray) (hle : args.length ≤ N)
    (h : ∀ K : Kont, (∀ σ w, (∃ (b : Nat) (us : List Value), σ t = .pointer (some ⟨b, 0, none⟩) ∧ us.length = n ∧ (∀ k v, us[k]? = some v → w.cell? ⟨b, 0 + k, none⟩ = some v) ∧ R (.returned (.tuple #[.agg us.toArray, σ u])) w) → K σ w) → CW P N c K K [] [] (fun t => args.getD t undef) w) : Calls P f vs w R := by
  subst hvs
  refine calls_of_CW args.toArray hf hb hN (has_args args N hle) (fun a w σ ha hK => ?_) (h _ (fun _ _ h => h))
  obtain ⟨b, us, h1, h2, h3, h4⟩ := hK
  refine ⟨_, ?_, h4⟩
  rw [results_cell_tmp hres, ha.get, ha.get, h1]
  have e1 := aggT_spec ht w
  have e2 := sizeT_spec hs w
  have e3 := run_loadCells (P := P) us h3
  subst h2
  simp only [asAddr, Sem.run_pure, Result.andThen_ok, loadVar, Sem.run_bind, e1, if_true, e2, e3]
theorem z30 : zeroT Tryd.prog 30 = some (.agg (Array.replicate 16 (.int .u8 0))) := by kernel_rfl
theorem z35 : zeroT Tryd.prog 35 = some (.agg (Array.replicate 512 (.int .i64 0))) := by kernel_rfl
theorem ag_30 : aggT Tryd.prog 30 = true := by kernel_rfl
theorem ag_35 : aggT Tryd.prog 35 = true := by kernel_rfl
theorem sz_30 : sizeT Tryd.prog 30 = some 16 := by kernel_rfl
theorem sz_35 : sizeT Tryd.prog 35 = some 512 := by kernel_rfl
theorem sz_34 : sizeT Tryd.prog 34 = some 2 := by kernel_rfl
theorem new_arr {w : World} {T n : Nat} {v : Value} : ArrP (w.alloc (.cells (Array.replicate n v) T (0, 0))).heap w.heap.size T n (fun _ => v) :=
  ⟨_, alloc_get, Array.size_replicate, fun i hi => by rw [Array.getElem?_replicate, if_pos hi]⟩
theorem ArrP.alloc {w : World} {B : Nat} {T : TypeId} {n : Nat} {f : Nat → Value} {o : Obj} (h : ArrP w.heap B T n f) : ArrP (w.alloc o).heap B T n f := h.of_eq (alloc_old h.lt)
/-- An array stored whole. -/
theorem ArrP.whole {w : World} {B : Nat} {T : TypeId} {n : Nat} {f g : Nat → Value} {vs : List Value} (h : ArrP w.heap B T n f) (hl : vs.length = n) (hg : ∀ k v, vs[k]? = some v → g k = v) : ArrP (setCells w B 0 vs).heap B T n g := by
  obtain ⟨c, hc, hs, hf⟩ := h
  obtain ⟨c', hc', hs', hp⟩ := setCells_blk vs 0 w c T (0, 0) hc (by omega)
  refine ⟨c', hc', by omega, fun i hi => ?_⟩
  rw [hp]
  simp only [putRow]
  rw [if_pos ⟨Nat.zero_le _, by omega⟩, Nat.sub_zero, List.getElem?_eq_getElem (by omega)]
  rw [hg i _ (List.getElem?_eq_getElem (by omega))]
def rowL (n : Nat) (f : Nat → Value) : List Value := (List.range n).map f
theorem rowL_length (n : Nat) (f : Nat → Value) : (rowL n f).length = n := by rw [rowL, List.length_map, List.length_range]
theorem rowL_get {n : Nat} {f : Nat → Value} {k : Nat} {v : Value} (h : (rowL n f)[k]? = some v) : k < n ∧ f k = v := by
  rw [rowL, List.getElem?_map, Option.map_eq_some_iff] at h
  obtain ⟨x, hx, rfl⟩ := h
  have hk : k < n := by
    rcases Nat.lt_or_ge k n with h | h
    · exact h
    · rw [List.getElem?_eq_none (by rw [List.length_range]; exact h)] at hx; cases hx
  rw [List.getElem?_range hk] at hx; cases hx
  exact ⟨hk, rfl⟩
theorem rowL_at {n k : Nat} {f : Nat → Value} (h : k < n) : (rowL n f)[k]? = some (f k) := by
  rw [rowL, List.getElem?_map, List.getElem?_range h]; rfl
theorem rowL_mem {n : Nat} {f : Nat → Value} {v : Value} (h : v ∈ rowL n f) : ∃ k, k < n ∧ f k = v := by
  obtain ⟨k, hk⟩ := List.getElem?_of_mem h
  exact ⟨k, rowL_get hk⟩
theorem ArrP.row {w : World} {B : Nat} {T : TypeId} {n : Nat} {f : Nat → Value} (h : ArrP w.heap B T n f) : ∀ k v, (rowL n f)[k]? = some v → w.cell? ⟨B, 0 + k, none⟩ = some v := fun k v hk => by
  obtain ⟨h1, h2⟩ := rowL_get hk
  rw [Nat.zero_add, h.ld h1, h2]
theorem yd_min {P : Program} {o : Oper} {σ : Env} {w : World} {x y : Operand} {T U : TypeId} {a b : Int} (ho : o.op = .call ⟨.builtin .min, #[x, y], #[T, U]⟩) (hx : ev σ x = .int .i64 a) (hy : ev σ y = .int .i64 b) (c : Int) (hc : (if b < a then b else a) = c) : Yd P o σ w (.int .i64 c) := by
  subst hc
  simp only [Yd, execOp, ho, resolve, invoke, builtin, Sem.run_bind, Sem.run_pure, Result.andThen_ok, List.map_toArray, List.map_cons, List.map_nil, hx, hy, run_min_int2]
theorem yd_rem {P : Program} {o : Oper} {σ : Env} {w : World} {x y : Operand} {T U : TypeId} {a b : Int} (ho : o.op = .binOp .rem T x y U) (hx : ev σ x = .int .i64 a) (hy : ev σ y = .int .i64 b) (hb : b ≠ 0) : Yd P o σ w (.int .i64 (a.tmod b)) := by
  refine yd_bin ho hx hy ?_
  simp [binOp, Op.intDiv, hb]
theorem cnt_step {xs : List Nat} {k j : Nat} (hne : j ≠ k) : (if j < k + 1 then u8v (xs.getD j 0) else .int .u8 0) = (if j < k then u8v (xs.getD j 0) else .int .u8 0) := by
  by_cases h : j < k
  · rw [if_pos h, if_pos (by omega)]
  · rw [if_neg h, if_neg (by omega)]

theorem SrcH.at' {w : World} {sa : Option Addr} {xs : List Nat} (h : SrcH w.heap sa xs) {k x : Nat} (hk : xs[k]? = some x) : ∃ b p, sa = some ⟨b, p, none⟩ ∧ w.cell? ⟨b, p + k, none⟩ = some (u8v x) := by
  rcases h with h | ⟨b, p, c, T, fr, h1, h2, h3⟩
  · subst h; simp at hk
  · exact ⟨b, p, h1, by rw [cell_of_blk h2, h3 k x hk]⟩
set_option maxHeartbeats 4000000 in
theorem counted_ok {sa : Option Addr} {ca : Nat} {xs : List Nat} {w0 : World} (hSa : SrcH w0.heap sa xs) (hl : xs.length ≤ 2147483647) :
    Calls Tryd.prog 8 #[.slice sa xs.length ca] w0 fun e w' => ∃ (vs : List Value) (ok : Bool), e = .returned (.tuple #[.agg vs.toArray, .bool ok]) ∧ vs.length = 16 ∧ (∀ v ∈ vs, v.oneCell' = true) ∧ (ok = true → xs.length = 16 ∧ vs = xs.map u8v) ∧ Fr NO w0 w' := by
  refine callsCT Tryd.func8 rfl rfl rfl ag_30 sz_30 rfl (Nat.le_of_ble_eq_true rfl) fun K hK => ?_
  refine CW_seq fun K1 hK1 => ?_
  refine CW_region rfl ?_
  obtain ⟨A, hA⟩ : ∃ A, A = w0.heap.size := ⟨_, rfl⟩
  refine RL_alloc (fun w' => ArrP w'.heap A 30 16 (fun _ => .int .u8 0) ∧ Fr NO w0 w') rfl rfl rfl z30 ⟨by rw [hA]; exact new_arr, (Fr.refl _ _).alloc _⟩ ?_
  rintro w ⟨hP, hF⟩
  rw [← hA]
  refine RL_v rfl rfl (yd_assign rfl) ?_
  refine RL_nil ?_
  refine hK1 _ _ ?_
  refine CW_seq fun K2 hK2 => ?_
  refine CW_seq fun K3 hK3 => ?_
  refine CW_region rfl ?_
  refine RL_v rfl rfl (yd_move rfl) ?_
  refine RL_v rfl rfl (yd_len rfl sl_22 rfl) ?_
  obtain ⟨m, hm⟩ : ∃ m, m = min xs.length 16 := ⟨_, rfl⟩
  refine RL_v rfl rfl (yd_min rfl rfl rfl ((m : Nat) : Int) (by rw [hm]; split <;> omega)) ?_
  refine RL_v rfl rfl (yd_move rfl) ?_
  refine RL_nil ?_
  refine hK3 _ _ ?_
  refine CW_block ?_
  refine CW_loop (n := m) (fun σ w N => ∃ k : Nat, AtS σ [(0, .slice sa xs.length ca), (2, .pointer (some ⟨A, 0, none⟩)), (7, .int .i64 ((m : Nat) : Int)), (8, .int .i64 ((k : Nat) : Int))] ∧ k ≤ m ∧ ArrP w.heap A 30 16 (fun j => if j < k then u8v (xs.getD j 0) else .int .u8 0) ∧ Fr NO w0 w ∧ N = m - k) ?_ ?_
  · exact ⟨0, ⟨rfl, rfl, rfl, rfl, trivial⟩, Nat.zero_le _, hP.congr (fun i _ => by simp), hF, rfl⟩
  · intro σ w N hI K4 hK4
    obtain ⟨k, hσ, hk, hP, hF, hN⟩ := hI
    subst hN
    refine CW_at hσ ?_
    clear hσ
    refine CW_seq fun K5 hK5 => ?_
    refine CW_region rfl ?_
    by_cases hkm : k < m
    · refine RL_v rfl rfl (yd_lt true rfl rfl rfl (decide_eq_true (by omega))) ?_
      refine RL_nil ?_
      refine hK5 _ _ ?_
      refine CW_seq fun K6 hK6 => ?_
      refine CW_t rfl ?_
      refine CW_skip ?_
      refine hK6 _ _ ?_
      refine CW_seq fun K7 hK7 => ?_
      refine CW_block ?_
      refine CW_seq fun K8 hK8 => ?_
      refine CW_region rfl ?_
      refine RL_v rfl rfl (yd_move rfl) ?_
      refine RL_v rfl rfl (yd_assign rfl) ?_
      refine RL_nil ?_
      refine hK8 _ _ ?_
      refine CW_region rfl ?_
      obtain ⟨x, hx⟩ : ∃ x, xs[k]? = some x := ⟨_, List.getElem?_eq_getElem (by omega)⟩
      obtain ⟨b, p, hsab, hcell⟩ := (hSa.fr hF).at' hx
      subst hsab
      refine RL_v rfl rfl (yd_move rfl) ?_
      refine RL_v rfl rfl (yd_move rfl) ?_
      refine RL_v rfl rfl (yd_move rfl) ?_
      refine RL_v rfl rfl (yd_ixs rfl sl_22 rfl rfl (k) (rfl) (by omega)) ?_
      refine RL_v rfl rfl (yd_load rfl sc_5 rfl (hcell)) ?_
      refine RL_v rfl rfl (yd_ix1 rfl at_30 rfl rfl (k) (rfl) (by omega)) ?_
      refine RL_storeW (fun w' => ArrP w'.heap A 30 16 (fun j => if j < (k + 1) then u8v (xs.getD j 0) else .int .u8 0) ∧ Fr NO w0 w') rfl rfl rfl sz_5 rfl rfl rfl (hP.ld0 (i := k) (by omega) rfl) (hP.fz) (⟨hP.set0 (i := k) (by omega) (by show (if k < k + 1 then _ else _) = _; rw [if_pos (by omega), List.getD_eq_getElem?_getD, hx]; rfl) (fun j hj hne => cnt_step hne), hF.set (fun h => absurd h (by omega)) _⟩) ?_
      clear hP hF hcell
      rintro w2 ⟨hP, hF⟩
      refine RL_nil ?_
      refine hK7 _ _ ?_
      refine CW_region rfl ?_
      refine RL_v rfl rfl (yd_add64 rfl rfl rfl (by omega)) ?_
      refine RL_v rfl rfl (yd_move rfl) ?_
      refine RL_nil ?_
      refine hK4 _ _ ?_
      exact ⟨m - (k + 1), by omega, k + 1, ⟨rfl, rfl, rfl, rfl, trivial⟩, by omega, hP, hF, rfl⟩
    · refine RL_v rfl rfl (yd_lt false rfl rfl rfl (decide_eq_false (by omega))) ?_
      refine RL_nil ?_
      refine hK5 _ _ ?_
      refine CW_seq fun K9 hK9 => ?_
      refine CW_f rfl ?_
      refine CW_exit rfl ?_
      refine hK2 _ _ ?_
      refine CW_seq fun K10 hK10 => ?_
      refine CW_region rfl ?_
      refine RL_v rfl rfl (yd_load_agg (n := 16) rfl ag_30 sz_30 rfl (rowL 16 (fun j => if j < k then u8v (xs.getD j 0) else .int .u8 0)) (rowL_length _ _) hP.row) ?_
      refine RL_v rfl rfl (yd_move rfl) ?_
      refine RL_v rfl rfl (yd_len rfl sl_22 rfl) ?_
      refine RL_v rfl rfl (yd_eq (decide (xs.length = 16)) rfl rfl rfl (decide_eq_decide.2 (by omega))) ?_
      obtain ⟨cA, hcA, hsA, hfA⟩ := id hP
      refine RL_storeAgg (fun w' => ArrP w'.heap A 30 16 (fun j => if j < k then u8v (xs.getD j 0) else .int .u8 0) ∧ Fr NO w0 w') (p := 0) (n := 16) (vs := rowL 16 (fun j => if j < k then u8v (xs.getD j 0) else .int .u8 0)) rfl rfl rfl sz_30 rfl rfl (rowL_length _ _) hcA (by omega) (fun v hv => by
          obtain ⟨q, _, rfl⟩ := rowL_mem hv
          show Value.oneCell' (if q < k then u8v (xs.getD q 0) else .int .u8 0) = true
          split <;> rfl) ⟨hP.whole (rowL_length _ _) (fun k v h => (rowL_get h).2), Fr.setCells (fun h => absurd h (by omega)) _ _ _ hF⟩ ?_
      rintro w2 ⟨hP2, hF2⟩
      refine RL_v rfl rfl (yd_assign rfl) ?_
      refine RL_nil ?_
      refine hK10 _ _ ?_
      refine CW_ret ?_
      refine hK _ _ ?_
      refine ⟨A, rowL 16 (fun j => if j < k then u8v (xs.getD j 0) else .int .u8 0), rfl, rowL_length _ _, hP2.row, _, decide (xs.length = 16), rfl, rowL_length _ _, ?_, fun h => ?_, hF2⟩
      · intro v hv
        obtain ⟨q, _, rfl⟩ := rowL_mem hv
        show Value.oneCell' (if q < k then u8v (xs.getD q 0) else .int .u8 0) = true
        split <;> rfl
      · have h16 := of_decide_eq_true h
        refine ⟨h16, List.ext_getElem? fun q => ?_⟩
        rcases Nat.lt_or_ge q 16 with hq | hq
        · rw [rowL_at hq, List.getElem?_map, List.getElem?_eq_getElem (by omega)]
          show some (if q < k then u8v (xs.getD q 0) else .int .u8 0) = _
          rw [if_pos (by omega), List.getD_eq_getElem?_getD, List.getElem?_eq_getElem (by omega)]; rfl
        · rw [List.getElem?_eq_none (by rw [rowL_length]; exact hq), List.getElem?_eq_none (by rw [List.length_map]; omega)]

end Go.Proofs.YtdjilplpbaackaaDoor.Eng
