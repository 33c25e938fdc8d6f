/- laws.FnSymbolsBack. -/
import Derived.Test.YtdjilplpbaackaaDoorR19
import Derived.Test.YtdjilplpbaackaaDoorReads
set_option linter.unusedVariables false
set_option linter.unusedSimpArgs false
set_option maxRecDepth 100000
namespace Go.Proofs.YtdjilplpbaackaaDoor.Eng
open Go

theorem yd_pk {P : Program} {o : Oper} {σ : Env} {w : World} {x y z : Operand} {v : Value} {r : Bool} (ho : o.op = .pick x y z) (hx : ev σ x = .bool r) (hv : cond r (ev σ y) (ev σ z) = v) : Yd P o σ w v := by
  subst hv; exact yd_pick ho hx
theorem cnt_at {vs : List Value} {cs : List Nat} {k : Nat} (h : vs = cs.map u8v) (hk : k < cs.length) : (vs[k]?).getD (.int .u8 0) = u8v (cs.getD k 0) := by
  subst h
  rw [List.getElem?_map, List.getElem?_eq_getElem hk, List.getD_eq_getElem?_getD, List.getElem?_eq_getElem hk]; rfl
theorem cnt_ld {w : World} {Ct : Nat} {cs : List Nat} (h : ArrP w.heap Ct 30 16 (fun k => u8v (cs.getD k 0))) (h16 : cs.length = 16) : ∀ k v, (cs.map u8v)[k]? = some v → w.cell? ⟨Ct, 0 + k, none⟩ = some v := by
  intro k v hk
  have hlt : k < 16 := by
    have := (List.getElem?_eq_some_iff.1 hk).1
    rw [List.length_map] at this; omega
  rw [Nat.zero_add, h.ld hlt]
  rw [List.getElem?_map, List.getElem?_eq_getElem (by omega)] at hk
  rw [List.getD_eq_getElem?_getD, List.getElem?_eq_getElem (by omega)]
  exact hk
theorem want_of {H : Array Obj} {W : Nat} {us : List Value} {ys : List Nat} (h : ArrP H W 35 512 (fun k => (us[k]?).getD (.int .i64 0))) (hw : ∀ s, s < 256 → ∃ n : Nat, us[2 * s]? = some (.int .i64 (n : Nat)) ∧ (n ≠ 0 ↔ s ∈ ys)) : WantP H W ys :=
  ⟨_, h, fun s hs h256 => by
    obtain ⟨n, h1, h2⟩ := hw s h256
    exact ⟨n, by show (us[2 * s]?).getD _ = _; rw [h1]; rfl, h2.2 hs⟩⟩
theorem WantP.fr {w w' : World} {W : Nat} {ys : List Nat} (h : WantP w.heap W ys) (hF : Fr NO w w') : WantP w'.heap W ys := by
  obtain ⟨f, hP, r⟩ := h
  exact ⟨f, hP.fr hF id, r⟩
theorem WantP.frB {w w' : World} {W B : Nat} {ys : List Nat} (h : WantP w.heap W ys) (hF : Fr (fun k => B ≤ k) w w') (hB : ¬ B ≤ W) : WantP w'.heap W ys := by
  obtain ⟨f, hP, r⟩ := h
  exact ⟨f, hP.fr hF hB, r⟩
theorem one_cell5 {w : World} {p : Nat} {x : Value} (h : w.heap[p]? = some (.cells #[x] 5 (0, 0))) : ∀ j u, [x][j]? = some u → w.cell? ⟨p, 0 + j, none⟩ = some u := by
  intro j u hj
  cases j with
  | zero => simp at hj; subst hj; rw [cell_of_blk h]; rfl
  | succ j => simp at hj
theorem cells_u8 {w : World} {b p : Nat} {xs : List Nat} (h : SrcH w.heap (some ⟨b, p, none⟩) xs) : ∀ j u, (xs.map u8v)[j]? = some u → w.cell? ⟨b, p + j, none⟩ = some u := by
  intro j u hj
  rw [List.getElem?_map, Option.map_eq_some_iff] at hj
  obtain ⟨x, hx, rfl⟩ := hj
  exact h.cell hx
set_option maxHeartbeats 16000000 in
theorem law4 {sc sy sp : Option Addr} {cc cy cp : Nat} {cs ys : List Nat} {ps : List Int} {e1 e2 : Addr} {w0 : World} (hSc : SrcH w0.heap sc cs) (hSy : SrcH w0.heap sy ys) (hSp : SrcV w0 sp (ps.map fun p => .int .i64 p)) (hc256 : ∀ c ∈ cs, c < 256) (hy256 : ∀ y ∈ ys, y < 256)
    (hG : GlobP w0.heap e1 e2) (h2 : 2 < w0.heap.size) (hg : w0.cell? ⟨0, 0, none⟩ = some (rty 65)) :
    Calls Tryd.prog 4 #[.slice sc cs.length cc, .slice sy ys.length cy, .slice sp ps.length cp] w0 fun e w' => e = .returned (.bool true) ∧ Fr NO w0 w' := by
  have hF := Fr.refl NO w0
  obtain ⟨T, hT⟩ : ∃ T, T = tabOf cs ys := ⟨_, rfl⟩
  have hTs : T.syms = ys := by rw [hT]; rfl
  have hc256' : ∀ i, T.counts i < 256 := fun i => by
    subst hT
    show cs.getD i 0 < 256
    rw [List.getD_eq_getElem?_getD]
    cases hq : cs[i]? with
    | none => show 0 < 256; decide
    | some c => exact hc256 c (List.mem_of_getElem? hq)
  refine calls1 Tryd.func4 rfl rfl rfl rfl (Nat.le_of_ble_eq_true rfl) fun K hK => ?_
  refine CW_seq fun K1 hK1 => ?_
  refine CW_region rfl ?_
  refine RL_v rfl rfl (yd_assign rfl) ?_
  refine RL_nil ?_
  refine hK1 _ _ ?_
  refine CW_cut (fun σ w => AtS σ [(0, .slice sc cs.length cc), (1, .slice sy ys.length cy), (2, .slice sp ps.length cp), (6, .bool false)] ∧ cs.length ≤ 2147483647 ∧ ys.length ≤ 2147483647 ∧ ps.length ≤ 2147483647 ∧ Fr NO w0 w) ?_ ?_
  · refine CW_seq fun K2 hK2 => ?_
    refine CW_region rfl ?_
    refine RL_v (v := .slice sc cs.length cc) rfl rfl (yd_mv (.inl rfl) rfl) ?_
    refine RL_v rfl rfl (yd_len rfl sl_22 rfl) ?_
    by_cases hb1 : (2147483647 : Int) < (cs.length : Int)
    · refine RL_v rfl rfl (yd_gt true rfl rfl rfl (decide_eq_true (by omega))) ?_
      refine RL_v rfl rfl (yd_move rfl) ?_
      refine RL_skip rfl rfl ?_
      refine RL_skip rfl rfl ?_
      refine RL_skip rfl rfl ?_
      refine RL_v rfl rfl (yd_pick rfl rfl) ?_
      refine RL_v rfl rfl (yd_move rfl) ?_
      refine RL_skip rfl rfl ?_
      refine RL_skip rfl rfl ?_
      refine RL_skip rfl rfl ?_
      refine RL_v rfl rfl (yd_pick rfl rfl) ?_
      refine RL_nil ?_
      refine hK2 _ _ ?_
      refine CW_t rfl ?_
      refine CW_seq fun K3 hK3 => ?_
      refine CW_region rfl ?_
      refine RL_v rfl rfl (yd_assign rfl) ?_
      refine RL_nil ?_
      refine hK3 _ _ ?_
      refine CW_ret ?_
      refine hK _ _ ?_
      exact ⟨rfl, hF⟩
    · refine RL_v rfl rfl (yd_gt false rfl rfl rfl (decide_eq_false (by omega))) ?_
      refine RL_v rfl rfl (yd_move rfl) ?_
      refine RL_gv (v := .slice sy ys.length cy) rfl rfl (yd_mv (.inl rfl) rfl) ?_
      refine RL_gv rfl rfl (yd_len rfl sl_22 rfl) ?_
      by_cases hb2 : (2147483647 : Int) < (ys.length : Int)
      · refine RL_gv rfl rfl (yd_gt true rfl rfl rfl (decide_eq_true (by omega))) ?_
        refine RL_v rfl rfl (yd_pick rfl rfl) ?_
        refine RL_v rfl rfl (yd_move rfl) ?_
        refine RL_skip rfl rfl ?_
        refine RL_skip rfl rfl ?_
        refine RL_skip rfl rfl ?_
        refine RL_v rfl rfl (yd_pick rfl rfl) ?_
        refine RL_nil ?_
        refine hK2 _ _ ?_
        refine CW_t rfl ?_
        refine CW_seq fun K4 hK4 => ?_
        refine CW_region rfl ?_
        refine RL_v rfl rfl (yd_assign rfl) ?_
        refine RL_nil ?_
        refine hK4 _ _ ?_
        refine CW_ret ?_
        refine hK _ _ ?_
        exact ⟨rfl, hF⟩
      · refine RL_gv rfl rfl (yd_gt false rfl rfl rfl (decide_eq_false (by omega))) ?_
        refine RL_v rfl rfl (yd_pick rfl rfl) ?_
        refine RL_v rfl rfl (yd_move rfl) ?_
        refine RL_gv (v := .slice sp ps.length cp) rfl rfl (yd_mv (.inl rfl) rfl) ?_
        refine RL_gv rfl rfl (yd_len rfl sl_29 rfl) ?_
        by_cases hb3 : (2147483647 : Int) < (ps.length : Int)
        · refine RL_gv rfl rfl (yd_gt true rfl rfl rfl (decide_eq_true (by omega))) ?_
          refine RL_v rfl rfl (yd_pick rfl rfl) ?_
          refine RL_nil ?_
          refine hK2 _ _ ?_
          refine CW_t rfl ?_
          refine CW_seq fun K5 hK5 => ?_
          refine CW_region rfl ?_
          refine RL_v rfl rfl (yd_assign rfl) ?_
          refine RL_nil ?_
          refine hK5 _ _ ?_
          refine CW_ret ?_
          refine hK _ _ ?_
          exact ⟨rfl, hF⟩
        · refine RL_gv rfl rfl (yd_gt false rfl rfl rfl (decide_eq_false (by omega))) ?_
          refine RL_v rfl rfl (yd_pick rfl rfl) ?_
          refine RL_nil ?_
          refine hK2 _ _ ?_
          refine CW_f rfl ?_
          refine CW_skip ?_
          exact ⟨⟨rfl, rfl, rfl, rfl, trivial⟩, by omega, by omega, by omega, hF⟩
  · rintro σ w ⟨hσ, hl1, hl2, hl3, hF⟩
    refine CW_at hσ ?_
    clear hσ
    refine CW_seq fun K6 hK6 => ?_
    refine CW_region rfl ?_
    refine RL_v (v := .slice sc cs.length cc) rfl rfl (yd_mv (.inl rfl) rfl) ?_
    refine RL_call rfl rfl rfl en_8 rfl (counted_ok (hSc.fr hF) hl1) ?_
    rintro _ w1 ⟨vs, ok, rfl, hvl, hv1, hvok, hF1⟩
    refine ⟨_, rfl, ?_⟩
    replace hF := hF.trans hF1
    refine RL_v rfl rfl (yd_move rfl) ?_
    refine RL_v rfl rfl (yd_extract rfl rfl rfl) ?_
    refine RL_v rfl rfl (yd_extract rfl rfl rfl) ?_
    obtain ⟨Ct, hCe⟩ : ∃ Ct, Ct = w1.heap.size := ⟨_, rfl⟩
    refine RL_alloc (fun w' => ArrP w'.heap Ct 30 16 (fun _ => .int .u8 0) ∧ Fr NO w0 w') rfl rfl rfl z30 ⟨by rw [hCe]; exact new_arr, hF.alloc _⟩ ?_
    rw [← hCe]
    have hCt : w0.heap.size ≤ Ct := by rw [hCe]; exact hF.size
    clear hF hF1
    rintro w2 ⟨hPC, hF⟩
    obtain ⟨cC, hcC, hsC, hfC⟩ := id hPC
    refine RL_storeAgg (fun w' => ArrP w'.heap Ct 30 16 (fun k => (vs[k]?).getD (.int .u8 0)) ∧ Fr NO w0 w') (p := 0) (n := 16) (vs := vs) rfl rfl rfl sz_30 rfl rfl hvl hcC (by omega) hv1 ⟨hPC.whole hvl (fun k v h => by show (vs[k]?).getD _ = v; rw [h]; rfl), Fr.setCells (fun h => absurd h (by omega)) _ _ _ hF⟩ ?_
    clear hPC hF hcC hfC
    rintro w3 ⟨hPC, hF⟩
    refine RL_v rfl rfl (yd_assign rfl) ?_
    refine RL_nil ?_
    refine hK6 _ _ ?_
    refine CW_cut (fun σ w => ∃ Ct, AtS σ [(0, .slice sc cs.length cc), (1, .slice sy ys.length cy), (2, .slice sp ps.length cp), (6, .bool false), (7, .pointer (some ⟨Ct, 0, none⟩))] ∧ cs.length ≤ 2147483647 ∧ ys.length ≤ 2147483647 ∧ ps.length ≤ 2147483647 ∧ cs.length = 16 ∧ 0 < ys.length ∧ ArrP w.heap Ct 30 16 (fun k => u8v (cs.getD k 0)) ∧ w0.heap.size ≤ Ct ∧ Fr NO w0 w) ?_ ?_
    · refine CW_seq fun K7 hK7 => ?_
      refine CW_region rfl ?_
      cases ok
      · refine RL_v rfl rfl (yd_move rfl) ?_
        refine RL_v rfl rfl (yd_not rfl rfl) ?_
        refine RL_v rfl rfl (yd_move rfl) ?_
        refine RL_skip rfl rfl ?_
        refine RL_skip rfl rfl ?_
        refine RL_skip rfl rfl ?_
        refine RL_v rfl rfl (yd_pick rfl rfl) ?_
        refine RL_nil ?_
        refine hK7 _ _ ?_
        refine CW_t rfl ?_
        refine CW_seq fun K8 hK8 => ?_
        refine CW_region rfl ?_
        refine RL_v rfl rfl (yd_assign rfl) ?_
        refine RL_nil ?_
        refine hK8 _ _ ?_
        refine CW_ret ?_
        refine hK _ _ ?_
        exact ⟨rfl, hF⟩
      · obtain ⟨h16, hvs⟩ := hvok rfl
        refine RL_v rfl rfl (yd_move rfl) ?_
        refine RL_v rfl rfl (yd_not rfl rfl) ?_
        refine RL_v rfl rfl (yd_move rfl) ?_
        refine RL_gv (v := .slice sy ys.length cy) rfl rfl (yd_mv (.inl rfl) rfl) ?_
        refine RL_gv rfl rfl (yd_len rfl sl_22 rfl) ?_
        by_cases hy00 : ys.length = 0
        · refine RL_gv rfl rfl (yd_eq true rfl rfl rfl (decide_eq_true (by omega))) ?_
          refine RL_v rfl rfl (yd_pick rfl rfl) ?_
          refine RL_nil ?_
          refine hK7 _ _ ?_
          refine CW_t rfl ?_
          refine CW_seq fun K9 hK9 => ?_
          refine CW_region rfl ?_
          refine RL_v rfl rfl (yd_assign rfl) ?_
          refine RL_nil ?_
          refine hK9 _ _ ?_
          refine CW_ret ?_
          refine hK _ _ ?_
          exact ⟨rfl, hF⟩
        · refine RL_gv rfl rfl (yd_eq false rfl rfl rfl (decide_eq_false (by omega))) ?_
          refine RL_v rfl rfl (yd_pick rfl rfl) ?_
          refine RL_nil ?_
          refine hK7 _ _ ?_
          refine CW_f rfl ?_
          refine CW_skip ?_
          exact ⟨Ct, ⟨rfl, rfl, rfl, rfl, rfl, trivial⟩, hl1, hl2, hl3, h16, by omega, hPC.congr (fun k hk => cnt_at hvs (by omega)), hCt, hF⟩
    · rintro σ w ⟨Ct, hσ, hl1, hl2, hl3, h16, hy0, hPC, hCt, hF⟩
      refine CW_at hσ ?_
      clear hσ
      refine CW_seq fun K10 hK10 => ?_
      refine CW_region rfl ?_
      refine RL_v rfl rfl (yd_load_agg (n := 16) rfl ag_30 sz_30 rfl (cs.map u8v) (by rw [List.length_map, h16]) (cnt_ld hPC h16)) ?_
      refine RL_v (v := .slice sy ys.length cy) rfl rfl (yd_mv (.inl rfl) rfl) ?_
      refine RL_call rfl rfl rfl en_9 rfl (specCodes_ok hT (hSy.fr hF) hl2 h16 hc256' hy256) ?_
      rintro _ w2 ⟨us, ok, rfl, hul, hu1, huok, hF2⟩
      refine ⟨_, rfl, ?_⟩
      replace hF := hF.trans hF2
      refine RL_v rfl rfl (yd_move rfl) ?_
      refine RL_v rfl rfl (yd_extract rfl rfl rfl) ?_
      refine RL_v rfl rfl (yd_extract rfl rfl rfl) ?_
      obtain ⟨Wt, hWe⟩ : ∃ Wt, Wt = w2.heap.size := ⟨_, rfl⟩
      refine RL_alloc (fun w' => ArrP w'.heap Ct 30 16 (fun k => u8v (cs.getD k 0)) ∧ ArrP w'.heap Wt 35 512 (fun _ => .int .i64 0) ∧ Fr NO w0 w') rfl rfl rfl z35 ⟨(hPC.fr hF2 id).alloc, by rw [hWe]; exact new_arr, hF.alloc _⟩ ?_
      rw [← hWe]
      have hWt : w0.heap.size ≤ Wt := by rw [hWe]; exact hF.size
      have hCW : Ct < Wt := by rw [hWe]; exact Nat.lt_of_lt_of_le hPC.lt hF2.size
      clear hPC hF hF2
      rintro w3 ⟨hPC, hPW, hF⟩
      obtain ⟨cC, hcC, hsC, hfC⟩ := id hPW
      refine RL_storeAgg (fun w' => ArrP w'.heap Ct 30 16 (fun k => u8v (cs.getD k 0)) ∧ ArrP w'.heap Wt 35 512 (fun k => (us[k]?).getD (.int .i64 0)) ∧ Fr NO w0 w') (p := 0) (n := 512) (vs := us) rfl rfl rfl sz_35 rfl rfl hul hcC (by omega) hu1 ⟨hPC.of_eq (setCells_ne (by omega) _ _ _), hPW.whole hul (fun k v h => by show (us[k]?).getD _ = v; rw [h]; rfl), Fr.setCells (fun h => absurd h (by omega)) _ _ _ hF⟩ ?_
      clear hPC hPW hF hcC hfC
      rintro w4 ⟨hPC, hPW, hF⟩
      refine RL_v rfl rfl (yd_assign rfl) ?_
      refine RL_nil ?_
      refine hK10 _ _ ?_
      refine CW_cut (fun σ w => ∃ Ct Wt, AtS σ [(0, .slice sc cs.length cc), (1, .slice sy ys.length cy), (2, .slice sp ps.length cp), (6, .bool false), (7, .pointer (some ⟨Ct, 0, none⟩)), (9, .pointer (some ⟨Wt, 0, none⟩))] ∧ cs.length ≤ 2147483647 ∧ ys.length ≤ 2147483647 ∧ ps.length ≤ 2147483647 ∧ cs.length = 16 ∧ 0 < ys.length ∧ ys.length = T.idx 16 ∧ T.Kraft ∧ ys.Nodup ∧ ArrP w.heap Ct 30 16 (fun k => u8v (cs.getD k 0)) ∧ WantP w.heap Wt ys ∧ w0.heap.size ≤ Ct ∧ w0.heap.size ≤ Wt ∧ Fr NO w0 w) ?_ ?_
      · refine CW_seq fun K11 hK11 => ?_
        refine CW_region rfl ?_
        cases ok
        · refine RL_v rfl rfl (yd_move rfl) ?_
          refine RL_v rfl rfl (yd_not rfl rfl) ?_
          refine RL_nil ?_
          refine hK11 _ _ ?_
          refine CW_t rfl ?_
          refine CW_seq fun K12 hK12 => ?_
          refine CW_region rfl ?_
          refine RL_v rfl rfl (yd_assign rfl) ?_
          refine RL_nil ?_
          refine hK12 _ _ ?_
          refine CW_ret ?_
          refine hK _ _ ?_
          exact ⟨rfl, hF⟩
        · obtain ⟨hlen, _, hkr, hnd, hwant⟩ := huok rfl
          refine RL_v rfl rfl (yd_move rfl) ?_
          refine RL_v rfl rfl (yd_not rfl rfl) ?_
          refine RL_nil ?_
          refine hK11 _ _ ?_
          refine CW_f rfl ?_
          refine CW_skip ?_
          exact ⟨Ct, Wt, ⟨rfl, rfl, rfl, rfl, rfl, rfl, trivial⟩, hl1, hl2, hl3, h16, hy0, hlen, hkr, hnd, hPC, want_of hPW hwant, hCt, hWt, hF⟩
      · rintro σ w ⟨Ct, Wt, hσ, hl1, hl2, hl3, h16, hy0, hlen, hkr, hnd, hPC, hPW, hCt, hWt, hF⟩
        refine CW_at hσ ?_
        clear hσ
        refine CW_seq fun K13 hK13 => ?_
        refine CW_region rfl ?_
        refine RL_v rfl rfl (yd_load_agg (n := 16) rfl ag_30 sz_30 rfl (cs.map u8v) (by rw [List.length_map, h16]) (cnt_ld hPC h16)) ?_
        refine RL_v (v := .slice sy ys.length cy) rfl rfl (yd_mv (.inl rfl) rfl) ?_
        refine RL_call rfl rfl rfl en_10 rfl (iCodes_ok hT (hSy.fr hF) hl2 h16 hc256' hy256 hlen hy0 hkr (by rw [hTs]; exact hnd) hTs) ?_
        rintro _ w3 ⟨L, m, rfl, hm, hsm, hLut, hF3⟩
        refine ⟨_, rfl, ?_⟩
        replace hF := hF.trans hF3
        replace hPW := hPW.fr hF3
        clear hPC hF3
        refine RL_v rfl rfl (yd_assign rfl) ?_
        refine RL_nil ?_
        refine hK13 _ _ ?_
        refine CW_seq fun K14 hK14 => ?_
        refine CW_region rfl ?_
        refine RL_v rfl rfl (yd_assign rfl) ?_
        refine RL_nil ?_
        refine hK14 _ _ ?_
        refine CW_seq fun K15 hK15 => ?_
        refine CW_region rfl ?_
        refine RL_v rfl rfl (yd_assign rfl) ?_
        refine RL_v rfl rfl (yd_assign rfl) ?_
        refine RL_nil ?_
        refine hK15 _ _ ?_
        refine CW_seq fun K16 hK16 => ?_
        refine CW_seq fun K17 hK17 => ?_
        refine CW_region rfl ?_
        refine RL_v (v := .slice sp ps.length cp) rfl rfl (yd_mv (.inl rfl) rfl) ?_
        refine RL_v rfl rfl (yd_len rfl sl_29 rfl) ?_
        obtain ⟨Bs, hBs⟩ : ∃ Bs, Bs = w3.heap.size := ⟨_, rfl⟩
        have hWB : Wt < Bs := by obtain ⟨f, hP, _⟩ := hPW; rw [hBs]; exact hP.lt
        have hLB' : L < Bs := by obtain ⟨f, hP, _⟩ := hLut; rw [hBs]; exact hP.lt
        have h0B : w0.heap.size ≤ Bs := by rw [hBs]; exact hF.size
        refine RL_v rfl rfl (yd_move rfl) ?_
        refine RL_nil ?_
        refine hK17 _ _ ?_
        refine CW_block ?_
        refine CW_loop (n := ps.length) (fun σ w N => ∃ (k : Nat) (tl : List (Nat × Nat × Nat)) (v11 v12 v13 : Value), AtS σ [(0, .slice sc cs.length cc), (1, .slice sy ys.length cy), (6, .bool false), (9, .pointer (some ⟨Wt, 0, none⟩)), (10, .slice (some ⟨L, 0, none⟩) (m + 1) (m + 1)), (11, v11), (12, v12), (13, v13), (55, .slice sp ps.length cp), (56, .int .i64 ((ps.length : Nat) : Int)), (57, .int .i64 ((k : Nat) : Int))] ∧ k ≤ ps.length ∧ tl.length = k ∧ (∀ t ∈ tl, T.Cd t.1 t.2.1 t.2.2) ∧ (∀ t ∈ tl, t.1 < 256) ∧ Own w Bs 5 v11 ((tl.map (·.1)).map u8v) ∧ Own w Bs 40 v12 (tl.map fun t => .int .u32 (t.2.1 : Nat)) ∧ Own w Bs 40 v13 (tl.map fun t => .int .u32 (t.2.2 : Nat)) ∧ (∀ g, v12.ownBlock = some g → v13.ownBlock ≠ some g) ∧ LutC w.heap L m T (T.idx 16) ∧ WantP w.heap Wt ys ∧ Bs ≤ w.heap.size ∧ Fr NO w0 w ∧ N = ps.length - k) ?_ ?_
        · exact ⟨0, [], .slice none 0 0, .slice none 0 0, .slice none 0 0, ⟨rfl, rfl, rfl, rfl, rfl, rfl, rfl, rfl, rfl, rfl, rfl, trivial⟩, Nat.zero_le _, rfl, fun t h => (by cases h), fun t h => (by cases h), Own.nil _ _ _, Own.nil _ _ _, Own.nil _ _ _, fun g h => (by cases h), hLut, hPW, by omega, hF, rfl⟩
        · intro σ w N hI K18 hK18
          clear hLut hPW hF
          obtain ⟨k, tl, v11, v12, v13, hσ, hk, htl, hcd, ht256, ho11, ho12, ho13, hsep, hLut, hPW, hB3, hF, hN⟩ := hI
          subst hN
          refine CW_at hσ ?_
          clear hσ
          refine CW_seq fun K19 hK19 => ?_
          refine CW_region rfl ?_
          by_cases hkl : k < ps.length
          · refine RL_v rfl rfl (yd_lt true rfl rfl rfl (decide_eq_true (by omega))) ?_
            refine RL_nil ?_
            refine hK19 _ _ ?_
            refine CW_seq fun K20 hK20 => ?_
            refine CW_t rfl ?_
            refine CW_skip ?_
            refine hK20 _ _ ?_
            refine CW_seq fun K21 hK21 => ?_
            refine CW_block ?_
            refine CW_seq fun K22 hK22 => ?_
            refine CW_region rfl ?_
            obtain ⟨p, hpk⟩ : ∃ p, ps[k]? = some p := ⟨_, List.getElem?_eq_getElem hkl⟩
            obtain ⟨bp, pp, hspe, hcp⟩ := (hSp.fr hF).at (k := k) (v := .int .i64 p) (by rw [List.getElem?_map, hpk]; rfl)
            obtain ⟨q, hql, hq, hr1, hr2⟩ := rem_ix p ys.length hy0
            obtain ⟨s, hys⟩ : ∃ s, ys[q]? = some s := ⟨_, List.getElem?_eq_getElem hql⟩
            have hs256 := hy256 s (List.mem_of_getElem? hys)
            have hsm' := hsm s (List.mem_of_getElem? hys)
            obtain ⟨by', py, hsye, hcy⟩ := (hSy.fr hF).at' hys
            obtain ⟨i, j, hi16, hj, hqe⟩ := T.class_of 16 q (by omega)
            obtain ⟨fL, hPL, hnL, hfL⟩ := id hLut
            have hLB := hPL.lt
            have hcode := hfL i j s hi16 hj (by omega) (by rw [hTs, ← hqe]; exact hys)
            have hcell : w.cell? ⟨L, 0 + s, none⟩ = some (.int .u32 (((i + 1) * 16777216 + (T.first i + j) : Nat) : Int)) := hPL.ld0 (by omega) hcode
            obtain ⟨fW, hPWf, hfW⟩ := id hPW
            obtain ⟨n, hwn, hn0⟩ := hfW s (List.mem_of_getElem? hys) hs256
            have hwc : w.cell? ⟨Wt, 0 + s * 2 + 0, none⟩ = some (.int .i64 ((n : Nat) : Int)) := by rw [show 0 + s * 2 + 0 = 2 * s by omega, hPWf.ld (by omega), hwn]
            have hk16 := hkr i hi16
            have hp16 : 2 ^ (i + 1) ≤ 65536 := Nat.le_trans (Nat.pow_le_pow_right (by decide) (show i + 1 ≤ 16 by omega)) (by decide)
            have hCdT : T.Cd s (T.first i + j) (i + 1) := ⟨i, j, hi16, hj, rfl, rfl, by rw [hTs, ← hqe, List.getD_eq_getElem?_getD, hys]; rfl⟩
            subst hspe hsye
            refine RL_v rfl rfl (yd_ixs rfl sl_29 rfl rfl (k) (rfl) (hkl)) ?_
            refine RL_v rfl rfl (yd_load rfl sc_3 rfl (hcp)) ?_
            refine RL_v (v := .int .i64 p) rfl rfl (yd_mv (.inr rfl) rfl) ?_
            refine RL_nil ?_
            refine hK22 _ _ ?_
            refine CW_seq fun K23 hK23 => ?_
            refine CW_region rfl ?_
            refine RL_v (v := .slice (some ⟨by', py, none⟩) ys.length cy) rfl rfl (yd_mv (.inl rfl) rfl) ?_
            refine RL_v (v := .int .i64 p) rfl rfl (yd_mv (.inl rfl) rfl) ?_
            refine RL_v (v := .slice (some ⟨by', py, none⟩) ys.length cy) rfl rfl (yd_mv (.inl rfl) rfl) ?_
            refine RL_v rfl rfl (yd_len rfl sl_22 rfl) ?_
            refine RL_v rfl rfl (yd_rem rfl rfl rfl (by omega)) ?_
            refine RL_v (v := .slice (some ⟨by', py, none⟩) ys.length cy) rfl rfl (yd_mv (.inl rfl) rfl) ?_
            refine RL_v rfl rfl (yd_len rfl sl_22 rfl) ?_
            refine RL_v rfl rfl (yd_add64 rfl rfl rfl (by omega)) ?_
            refine RL_v (v := .slice (some ⟨by', py, none⟩) ys.length cy) rfl rfl (yd_mv (.inl rfl) rfl) ?_
            refine RL_v rfl rfl (yd_len rfl sl_22 rfl) ?_
            refine RL_v rfl rfl (yd_rem rfl rfl rfl (by omega)) ?_
            refine RL_v rfl rfl (yd_ixs rfl sl_22 rfl rfl (q) (hq) (hql)) ?_
            refine RL_v rfl rfl (yd_load rfl sc_5 rfl (hcy)) ?_
            refine RL_v (v := .int .u8 ((s : Nat) : Int)) rfl rfl (yd_mv (.inr rfl) rfl) ?_
            refine RL_nil ?_
            refine hK23 _ _ ?_
            refine CW_seq fun K24 hK24 => ?_
            refine CW_seq fun K25 hK25 => ?_
            refine CW_region rfl ?_
            refine RL_v (v := .int .u8 ((s : Nat) : Int)) rfl rfl (yd_mv (.inl rfl) rfl) ?_
            refine RL_v rfl rfl (yd_conv rfl so_5 it_3 rfl ((s : Nat) : Int) (IntWalk.i64_in _ (by omega))) ?_
            refine RL_v (v := .slice (some ⟨L, 0, none⟩) (m + 1) (m + 1)) rfl rfl (yd_mv (.inl rfl) rfl) ?_
            refine RL_v rfl rfl (yd_len rfl sl_38 rfl) ?_
            refine RL_v rfl rfl (yd_ge false rfl rfl rfl (decide_eq_false (by omega))) ?_
            refine RL_v (v := .bool false) rfl rfl (yd_mv (.inl rfl) rfl) ?_
            refine RL_gv (v := .int .u8 ((s : Nat) : Int)) rfl rfl (yd_mv (.inl rfl) rfl) ?_
            refine RL_gv rfl rfl (yd_ix rfl at_35 rfl rfl (s) (rfl) (by omega)) ?_
            refine RL_gv rfl rfl (yd_field rfl ft_34_0 rfl) ?_
            refine RL_gv rfl rfl (yd_load rfl sc_3 rfl (hwc)) ?_
            refine RL_gv rfl rfl (yd_eq false rfl rfl rfl (decide_eq_false (by omega))) ?_
            refine RL_v (v := .bool false) rfl rfl (yd_pk rfl rfl rfl) ?_
            refine RL_nil ?_
            refine hK25 _ _ ?_
            refine CW_f rfl ?_
            refine CW_skip ?_
            refine hK24 _ _ ?_
            refine CW_seq fun K26 hK26 => ?_
            refine CW_region rfl ?_
            refine RL_v (v := v11) rfl rfl (yd_mv (.inl rfl) rfl) ?_
            refine RL_v (v := .int .u8 ((s : Nat) : Int)) rfl rfl (yd_mv (.inl rfl) rfl) ?_
            obtain ⟨pn, hpn⟩ : ∃ pn, pn = w.heap.size := ⟨_, rfl⟩
            refine RL_slice1 (v := u8v s) (fun w' => Own w' Bs 5 v11 ((tl.map (·.1)).map u8v) ∧ Own w' Bs 40 v12 (tl.map fun t => .int .u32 (t.2.1 : Nat)) ∧ Own w' Bs 40 v13 (tl.map fun t => .int .u32 (t.2.2 : Nat)) ∧ w'.heap[pn]? = some (.cells #[u8v s] 5 (0, 0)) ∧ Fr (fun k => Bs ≤ k) w w') rfl rfl rfl Tryd.underlying22 si_5 zr_5 rfl rfl rfl
              ⟨ho11.alloc, ho12.alloc, ho13.alloc, by rw [hpn]; exact alloc_get, (Fr.refl _ _).alloc _⟩ ?_
            clear ho11 ho12 ho13
            rintro w2 ⟨ho11, ho12, ho13, hpc, hFB⟩
            rw [← hpn]
            refine RL_append2 (base := Bs) (news := [u8v s]) rfl rfl rfl Tryd.underlying22 si_5 zr_5 rfl rfl rfl ho11 rfl (one_cell5 hpc) (fun u hu => by rw [List.mem_singleton] at hu; subst hu; rfl) (by decide) (by rw [List.length_map, List.length_map]; omega) (by rw [List.length_map, List.length_map]; omega) (Nat.le_trans hB3 hFB.size) ?_
            intro v11' w3 ho11' hgr _
            have ho12' := ho12.kept hgr (fun g hv => ho12.apart ho11 (by decide) hv)
            have ho13' := ho13.kept hgr (fun g hv => ho13.apart ho11 (by decide) hv)
            replace hFB := hFB.grownS hgr (fun g hv _ => (ho11.at hv).1)
            clear ho11 ho12 ho13 hgr
            rw [show ((tl.map (·.1)).map u8v) ++ [u8v s] = ((tl ++ [(s, T.first i + j, i + 1)]).map (·.1)).map u8v by simp] at ho11'
            have hcell3 : w3.cell? ⟨L, 0 + s, none⟩ = some (.int .u32 (((i + 1) * 16777216 + (T.first i + j) : Nat) : Int)) := (cell_keep (hFB.block L (by omega) (by omega))).trans hcell
            refine RL_v rfl rfl (yd_assign rfl) ?_
            refine RL_nil ?_
            refine hK26 _ _ ?_
            have hlt12 : ∀ g, v12.ownBlock = some g → g < w3.heap.size := fun g hg => (ho12'.at hg).2.1
            have hlt13 : ∀ g, v13.ownBlock = some g → g < w3.heap.size := fun g hg => (ho13'.at hg).2.1
            have hLS : ¬ (some L = v12.ownBlock ∨ some L = v13.ownBlock) := fun h => by
              rcases h with h | h
              · have := (ho12'.at h.symm).1; omega
              · have := (ho13'.at h.symm).1; omega
            have hL3 : L < w3.heap.size := Nat.lt_of_lt_of_le (by omega) hFB.size
            have hB3' : Bs ≤ w3.heap.size := Nat.le_trans hB3 hFB.size
            have hl12 : (tl.map fun t => Value.int .u32 (t.2.1 : Nat)).length ≤ 4294967296 := by rw [List.length_map]; omega
            have hl13 : (tl.map fun t => Value.int .u32 (t.2.2 : Nat)).length ≤ 4294967296 := by rw [List.length_map]; omega
            refine CW_any (IVO [90, 91, 92, 93, 94, 95, 96, 97, 98, 99, 100, 101, 102, 103, 104, 105, 12, 13] (fun q => match q with | 0 => some (v12) | 1 => some (.slice (some ⟨L, 0, none⟩) (m + 1) (m + 1)) | 2 => some (.int .u8 ((s : Nat) : Int)) | 3 => some (.pointer (some ⟨L, 0 + s, none⟩)) | 4 => some (.int .u32 (((i + 1) * 16777216 + (T.first i + j) : Nat) : Int)) | 5 => some (.int .u32 ((T.first i + j : Nat) : Int)) | 8 => some (v13) | 9 => some (.slice (some ⟨L, 0, none⟩) (m + 1) (m + 1)) | 10 => some (.int .u8 ((s : Nat) : Int)) | 11 => some (.pointer (some ⟨L, 0 + s, none⟩)) | 12 => some (.int .u32 (((i + 1) * 16777216 + (T.first i + j) : Nat) : Int)) | 13 => some (.int .u32 ((i + 1 : Nat) : Int)) | _ => none) (fun σ => AtS σ [(0, .slice sc cs.length cc), (1, .slice (some ⟨by', py, none⟩) ys.length cy), (6, .bool false), (9, .pointer (some ⟨Wt, 0, none⟩)), (10, .slice (some ⟨L, 0, none⟩) (m + 1) (m + 1)), (11, v11'), (16, .int .u8 ((s : Nat) : Int)), (55, .slice (some ⟨bp, pp, none⟩) ps.length cp), (56, .int .i64 ((ps.length : Nat) : Int)), (57, .int .i64 ((k : Nat) : Int))]) (W19 w3 Bs v12 v13 (tl.map fun t => .int .u32 (t.2.1 : Nat)) (tl.map fun t => .int .u32 (t.2.2 : Nat)) (.int .u32 ((T.first i + j : Nat) : Int)) (.int .u32 ((i + 1 : Nat) : Int)))) mixed rfl (by kernel_rfl) ⟨?_, ?_, ?_⟩ (StepsFrom.all ?_) ?_
            · intro k d v _ _ h; cases h
            · exact ⟨rfl, rfl, rfl, rfl, rfl, rfl, rfl, rfl, rfl, rfl, trivial⟩
            · exact W19.start rfl (Fr.refl _ w3) ho12' ho13' rfl rfl
            · refine ⟨?_, ?_, ?_, ?_, ?_, ?_, ?_, ?_, ?_, ?_, ?_, ?_, ?_, ?_, ?_, ?_, ?_, ?_, trivial⟩
              · refine IVO_pure (i := 0) [] rfl rfl rfl rfl rfl (fun σ v h => AtS_upd rfl h) (fun L σ w u h => h.pure (by decide) (by decide)) rfl ?_
                exact fun Lq σ w g hb hLi hw => yd_mv (.inl rfl) (show ev σ (.tmp 12) = _ from hw.s0 (hw.n16 hLi))
              · refine IVO_pure (i := 1) [] rfl rfl rfl rfl rfl (fun σ v h => AtS_upd rfl h) (fun L σ w u h => h.pure (by decide) (by decide)) rfl ?_
                exact fun Lq σ w g hb hLi hw => yd_mv (.inl rfl) (show ev σ (.tmp 10) = _ from hb.2.2.2.2.1)
              · refine IVO_pure (i := 2) [] rfl rfl rfl rfl rfl (fun σ v h => AtS_upd rfl h) (fun L σ w u h => h.pure (by decide) (by decide)) rfl ?_
                exact fun Lq σ w g hb hLi hw => yd_mv (.inl rfl) (show ev σ (.tmp 16) = _ from hb.2.2.2.2.2.2.1)
              · refine IVO_pure (i := 3) [1, 2] rfl rfl rfl rfl rfl (fun σ v h => AtS_upd rfl h) (fun L σ w u h => h.pure (by decide) (by decide)) rfl ?_
                exact fun Lq σ w g hb hLi hw => yd_ixs rfl sl_38 (show ev σ (.tmp 91) = _ from g 1 (by simp) 91 _ rfl rfl) (show ev σ (.tmp 92) = _ from g 2 (by simp) 92 _ rfl rfl) s rfl (by omega)
              · refine IVO_pure (i := 4) [3] rfl rfl rfl rfl rfl (fun σ v h => AtS_upd rfl h) (fun L σ w u h => h.pure (by decide) (by decide)) rfl ?_
                exact fun Lq σ w g hb hLi hw => yd_load rfl sc_40 (show ev σ (.tmp 93) = _ from g 3 (by simp) 93 _ rfl rfl) ((cell_keep (hw.fr.block L hL3 hLS)).trans hcell3)
              · refine IVO_pure (i := 5) [4] rfl rfl rfl rfl rfl (fun σ v h => AtS_upd rfl h) (fun L σ w u h => h.pure (by decide) (by decide)) rfl ?_
                exact fun Lq σ w g hb hLi hw => yd_and rfl (show ev σ (.tmp 94) = _ from g 4 (by simp) 94 _ rfl rfl) rfl _ (and24 (i + 1) (T.first i + j) (by omega) (by omega))
              · exact step6 rfl rfl rfl rfl rfl rfl (fun σ v h => AtS_upd rfl h) rfl rfl rfl rfl
              · exact step7 rfl rfl rfl rfl rfl rfl (fun σ v h => AtS_upd rfl h) rfl rfl rfl rfl hl12 hB3' hsep hlt12
              · refine IVO_pure (i := 8) [] rfl rfl rfl rfl rfl (fun σ v h => AtS_upd rfl h) (fun L σ w u h => h.pure (by decide) (by decide)) rfl ?_
                exact fun Lq σ w g hb hLi hw => yd_mv (.inl rfl) (show ev σ (.tmp 13) = _ from hw.t0 (hw.n17 hLi))
              · refine IVO_pure (i := 9) [] rfl rfl rfl rfl rfl (fun σ v h => AtS_upd rfl h) (fun L σ w u h => h.pure (by decide) (by decide)) rfl ?_
                exact fun Lq σ w g hb hLi hw => yd_mv (.inl rfl) (show ev σ (.tmp 10) = _ from hb.2.2.2.2.1)
              · refine IVO_pure (i := 10) [] rfl rfl rfl rfl rfl (fun σ v h => AtS_upd rfl h) (fun L σ w u h => h.pure (by decide) (by decide)) rfl ?_
                exact fun Lq σ w g hb hLi hw => yd_mv (.inl rfl) (show ev σ (.tmp 16) = _ from hb.2.2.2.2.2.2.1)
              · refine IVO_pure (i := 11) [9, 10] rfl rfl rfl rfl rfl (fun σ v h => AtS_upd rfl h) (fun L σ w u h => h.pure (by decide) (by decide)) rfl ?_
                exact fun Lq σ w g hb hLi hw => yd_ixs rfl sl_38 (show ev σ (.tmp 99) = _ from g 9 (by simp) 99 _ rfl rfl) (show ev σ (.tmp 100) = _ from g 10 (by simp) 100 _ rfl rfl) s rfl (by omega)
              · refine IVO_pure (i := 12) [11] rfl rfl rfl rfl rfl (fun σ v h => AtS_upd rfl h) (fun L σ w u h => h.pure (by decide) (by decide)) rfl ?_
                exact fun Lq σ w g hb hLi hw => yd_load rfl sc_40 (show ev σ (.tmp 101) = _ from g 11 (by simp) 101 _ rfl rfl) ((cell_keep (hw.fr.block L hL3 hLS)).trans hcell3)
              · refine IVO_pure (i := 13) [12] rfl rfl rfl rfl rfl (fun σ v h => AtS_upd rfl h) (fun L σ w u h => h.pure (by decide) (by decide)) rfl ?_
                exact fun Lq σ w g hb hLi hw => yd_shr rfl (show ev σ (.tmp 102) = _ from g 12 (by simp) 102 _ rfl rfl) rfl (by omega) _ (shr24' (i + 1) (T.first i + j) (by omega))
              · exact step14 rfl rfl rfl rfl rfl rfl (fun σ v h => AtS_upd rfl h) rfl rfl rfl rfl
              · exact step15 rfl rfl rfl rfl rfl rfl (fun σ v h => AtS_upd rfl h) rfl rfl rfl rfl hl13 hB3' hsep hlt13
              · exact step16 rfl rfl rfl rfl rfl rfl (fun σ v h => AtS_upd rfl h) rfl
              · exact step17 rfl rfl rfl rfl rfl rfl (fun σ v h => AtS_upd rfl h) rfl
            intro Lq σ w4 ⟨_, hσ, hw⟩ hL
            obtain ⟨hA, _⟩ := hw.a2 (hL 7 (by decide))
            obtain ⟨hBo, hsp⟩ := hw.b2 (hL 15 (by decide))
            have e12 := (hw.s1 (hL 16 (by decide))).2.2
            have e13 := (hw.t1 (hL 17 (by decide))).2.2
            have hFw := hw.fr
            rw [← e12] at hA hsp
            rw [← e13] at hBo hsp
            clear hw e12 e13 hL
            obtain ⟨v12', h12'⟩ : ∃ u, u = σ 12 := ⟨_, rfl⟩
            obtain ⟨v13', h13'⟩ : ∃ u, u = σ 13 := ⟨_, rfl⟩
            rw [← h12'] at hA hsp
            rw [← h13'] at hBo hsp
            have ho11'' := ho11'.of_eq (w' := w4) fun k hb hk hv => hFw.block k hk fun h => by
              rcases h with h | h
              · exact ho11'.apart ho12' (by decide) hv h.symm
              · exact ho11'.apart ho13' (by decide) hv h.symm
            have hFB4 : Fr (fun k => Bs ≤ k) w w4 := hFB.trans ⟨hFw.os, hFw.tape, hFw.output, hFw.size, fun k hk hs => hFw.block k hk fun h => by
              rcases h with h | h
              · exact hs (ho12'.at h.symm).1
              · exact hs (ho13'.at h.symm).1⟩
            rw [show (tl.map fun t => Value.int .u32 (t.2.1 : Nat)) ++ [.int .u32 ((T.first i + j : Nat) : Int)] = (tl ++ [(s, T.first i + j, i + 1)]).map fun t => Value.int .u32 (t.2.1 : Nat) by simp] at hA
            rw [show (tl.map fun t => Value.int .u32 (t.2.2 : Nat)) ++ [.int .u32 ((i + 1 : Nat) : Int)] = (tl ++ [(s, T.first i + j, i + 1)]).map fun t => Value.int .u32 (t.2.2 : Nat) by simp] at hBo
            rw [← upds_self (σ := σ) (l := (12, v12') :: (13, v13') :: [(0, .slice sc cs.length cc), (1, .slice (some ⟨by', py, none⟩) ys.length cy), (6, .bool false), (9, .pointer (some ⟨Wt, 0, none⟩)), (10, .slice (some ⟨L, 0, none⟩) (m + 1) (m + 1)), (11, v11'), (16, .int .u8 ((s : Nat) : Int)), (55, .slice (some ⟨bp, pp, none⟩) ps.length cp), (56, .int .i64 ((ps.length : Nat) : Int)), (57, .int .i64 ((k : Nat) : Int))]) ⟨h12'.symm, h13'.symm, hσ⟩]
            clear hσ h12' h13'
            refine hK21 _ _ ?_
            refine CW_region rfl ?_
            refine RL_v rfl rfl (yd_add64 rfl rfl rfl (by omega)) ?_
            refine RL_v rfl rfl (yd_move rfl) ?_
            refine RL_nil ?_
            refine hK18 _ _ ?_
            exact ⟨ps.length - (k + 1), by omega, k + 1, tl ++ [(s, T.first i + j, i + 1)], v11', v12', v13', ⟨rfl, rfl, rfl, rfl, rfl, rfl, rfl, rfl, rfl, rfl, rfl, trivial⟩, by omega, by rw [List.length_append, htl]; rfl,
              fun t ht => (List.mem_append.1 ht).elim (hcd t) (fun h => by rw [List.mem_singleton] at h; subst h; exact hCdT), fun t ht => (List.mem_append.1 ht).elim (ht256 t) (fun h => by rw [List.mem_singleton] at h; subst h; exact hs256),
              ho11'', hA, hBo, hsp, (by obtain ⟨f, hP, r⟩ := hLut; exact ⟨f, hP.fr hFB4 (by omega), r⟩), hPW.frB hFB4 (by omega), Nat.le_trans hB3 hFB4.size, hF.up hFB4 (fun k h => by omega), rfl⟩
          · refine RL_v rfl rfl (yd_lt false rfl rfl rfl (decide_eq_false (by omega))) ?_
            refine RL_nil ?_
            refine hK19 _ _ ?_
            refine CW_seq fun K27 hK27 => ?_
            refine CW_f rfl ?_
            refine CW_exit rfl ?_
            refine hK16 _ _ ?_
            refine CW_seq fun K28 hK28 => ?_
            refine CW_region rfl ?_
            obtain rfl : k = ps.length := by omega
            obtain ⟨a11, c11, e11, _⟩ := ho11.form
            obtain ⟨a12, c12, e12, _⟩ := ho12.form
            obtain ⟨a13, c13, e13, _⟩ := ho13.form
            rw [List.length_map, List.length_map] at e11
            rw [List.length_map] at e12 e13
            subst e11 e12 e13
            obtain ⟨c0, hc0⟩ : ∃ c0, cs[0]? = some c0 := ⟨_, List.getElem?_eq_getElem (by omega)⟩
            obtain ⟨bc, pc, hsce, _⟩ := (hSc.fr hF).at' hc0
            obtain ⟨y0, hy00⟩ : ∃ y0, ys[0]? = some y0 := ⟨_, List.getElem?_eq_getElem hy0⟩
            obtain ⟨by', py, hsye, _⟩ := (hSy.fr hF).at' hy00
            subst hsce hsye
            obtain ⟨pn, hpn⟩ : ∃ pn, pn = w.heap.size := ⟨_, rfl⟩
            refine RL_slice1 (v := u8v 17) (fun w' => Own w' Bs 5 (.slice a11 tl.length c11) ((tl.map (·.1)).map u8v) ∧ Own w' Bs 40 (.slice a12 tl.length c12) (tl.map fun t => .int .u32 (t.2.1 : Nat)) ∧ Own w' Bs 40 (.slice a13 tl.length c13) (tl.map fun t => .int .u32 (t.2.2 : Nat)) ∧ Own w' Bs 5 (.slice (some ⟨pn, 0, none⟩) 1 1) [u8v 17] ∧ Bs ≤ w'.heap.size ∧ Fr NO w0 w') rfl rfl rfl Tryd.underlying22 si_5 zr_5 rfl rfl rfl
              ⟨ho11.alloc, ho12.alloc, ho13.alloc, by rw [hpn]; exact Own.made1 hB3, by rw [alloc_size]; omega, hF.alloc _⟩ ?_
            have hl11 : ∀ g, (Value.slice a11 tl.length c11).ownBlock = some g → g < pn := fun g h => by rw [hpn]; exact (ho11.at h).2.1
            have hl12 : ∀ g, (Value.slice a12 tl.length c12).ownBlock = some g → g < pn := fun g h => by rw [hpn]; exact (ho12.at h).2.1
            have hl13 : ∀ g, (Value.slice a13 tl.length c13).ownBlock = some g → g < pn := fun g h => by rw [hpn]; exact (ho13.at h).2.1
            have hBp : Bs ≤ pn := by omega
            clear ho11 ho12 ho13 hB3 hF
            rintro w2 ⟨ho11, ho12, ho13, hoS, hB3, hF⟩
            rw [← hpn]
            have hszp : pn ≤ w2.heap.size := by have := (hoS.at (g := pn) rfl).2.1; omega
            refine RL_v (v := .slice (some ⟨bc, pc, none⟩) cs.length cc) rfl rfl (yd_mv (.inl rfl) rfl) ?_
            have hrow : ∀ g, (Value.slice (some ⟨pn, 0, none⟩) 1 1).ownBlock = some g → pn ≤ g := fun g h => by cases h; exact Nat.le_refl _
            refine RL_append2 (base := Bs) (news := cs.map u8v) rfl rfl rfl Tryd.underlying22 si_5 zr_5 rfl rfl rfl hoS (List.length_map ..) (cells_u8 (hSc.fr hF)) (fun u hu => by obtain ⟨q, _, rfl⟩ := List.mem_map.1 hu; rfl) (by omega) (by simp only [List.length_append, List.length_map, List.length_cons, List.length_nil]; omega) (by simp only [List.length_append, List.length_map, List.length_cons, List.length_nil]; omega) hB3 ?_
            intro vA w3 hoS' hgr hfresh
            have hfrvA : ∀ g, vA.ownBlock = some g → pn ≤ g := fun g h => by
              rcases hfresh with e | e
              · rw [e] at h; exact hrow g h
              · rw [e] at h; cases h; exact hszp
            have hszp : pn ≤ w3.heap.size := Nat.le_trans hszp hgr.size
            replace ho11 := ho11.kept hgr (fun g h e => by have := hrow g e; have := hl11 g h; omega)
            replace ho12 := ho12.kept hgr (fun g h e => by have := hrow g e; have := hl12 g h; omega)
            replace ho13 := ho13.kept hgr (fun g h e => by have := hrow g e; have := hl13 g h; omega)
            replace hF := hF.grown hgr (fun g e => by have := hrow g e; omega)
            replace hB3 := Nat.le_trans hB3 hgr.size
            clear hoS hgr hfresh hrow
            have hoS := hoS'
            clear hoS'
            refine RL_v (v := .slice (some ⟨by', py, none⟩) ys.length cy) rfl rfl (yd_mv (.inl rfl) rfl) ?_
            have hrow := hfrvA
            refine RL_append2 (base := Bs) (news := ys.map u8v) rfl rfl rfl Tryd.underlying22 si_5 zr_5 rfl rfl rfl hoS (List.length_map ..) (cells_u8 (hSy.fr hF)) (fun u hu => by obtain ⟨q, _, rfl⟩ := List.mem_map.1 hu; rfl) (by omega) (by simp only [List.length_append, List.length_map, List.length_cons, List.length_nil]; omega) (by simp only [List.length_append, List.length_map, List.length_cons, List.length_nil]; omega) hB3 ?_
            intro vB w4 hoS' hgr hfresh
            have hfrvB : ∀ g, vB.ownBlock = some g → pn ≤ g := fun g h => by
              rcases hfresh with e | e
              · rw [e] at h; exact hrow g h
              · rw [e] at h; cases h; exact hszp
            have hszp : pn ≤ w4.heap.size := Nat.le_trans hszp hgr.size
            replace ho11 := ho11.kept hgr (fun g h e => by have := hrow g e; have := hl11 g h; omega)
            replace ho12 := ho12.kept hgr (fun g h e => by have := hrow g e; have := hl12 g h; omega)
            replace ho13 := ho13.kept hgr (fun g h e => by have := hrow g e; have := hl13 g h; omega)
            replace hF := hF.grown hgr (fun g e => by have := hrow g e; omega)
            replace hB3 := Nat.le_trans hB3 hgr.size
            clear hoS hgr hfresh hrow
            have hoS := hoS'
            clear hoS'
            refine RL_v (v := .slice a12 tl.length c12) rfl rfl (yd_mv (.inl rfl) rfl) ?_
            refine RL_v (v := .slice a13 tl.length c13) rfl rfl (yd_mv (.inl rfl) rfl) ?_
            refine RL_call rfl rfl rfl en_11 rfl (iEmit_ok (tl := tl) ho12.srcV ho13.srcV (fun t ht => by have := (hcd t ht).lt hkr; exact ⟨this.1, this.2.2⟩) (by omega)) ?_
            rintro _ w5 ⟨u, os, q, rfl, hoE, hos, hbits, hosl, hF5⟩
            refine ⟨_, rfl, ?_⟩
            replace hF := hF.trans hF5
            replace ho11 := ho11.fr hF5 (fun _ _ h => h)
            replace hoS := hoS.fr hF5 (fun _ _ h => h)
            clear ho12 ho13
            have e112 : (([u8v 17] ++ cs.map u8v) ++ ys.map u8v) = ([17] ++ cs ++ ys).map u8v := by simp
            rw [e112] at hoS
            obtain ⟨aS, cS, eS, hcS⟩ := hoS.form
            obtain ⟨aE, cE, eE, hcE⟩ := hoE.form
            rw [List.length_map] at eS eE hcS hcE
            subst eS eE
            refine RL_v (v := .slice a11 tl.length c11) rfl rfl (yd_mv (.inl rfl) rfl) ?_
            refine RL_v rfl rfl (yd_len rfl sl_22 rfl) ?_
            refine RL_v rfl rfl (yd_add64 rfl rfl rfl (by omega)) ?_
            refine RL_call rfl rfl rfl en_6 rfl (symbolsB (tl := tl) hT h16 hc256 hkr hlen hy0 hnd hy256 hcd hbits hos (by omega) (by omega) hoS.srcH hoE.srcH hcS hcE (hG.no hF) (Nat.lt_of_lt_of_le h2 hF.size) ((cell_keep (hF.block 0 (cell_lt hg) id)).trans hg)) ?_
            rintro _ w6 ⟨v, c, rfl, hgot, hcn, hF6⟩
            refine ⟨_, rfl, ?_⟩
            replace ho11 := ho11.fr hF6 (fun _ _ h => h)
            replace hF := hF.trans hF6
            refine RL_v (v := .tuple #[v, .int .i64 ((c : Nat) : Int)]) rfl rfl (yd_mv (.inl rfl) rfl) ?_
            refine RL_v (v := v) rfl rfl (yd_extract rfl rfl rfl) ?_
            refine RL_v (v := .int .i64 ((c : Nat) : Int)) rfl rfl (yd_extract rfl rfl rfl) ?_
            refine RL_v (v := v) rfl rfl (yd_mv (.inr rfl) rfl) ?_
            refine RL_v (v := .int .i64 ((c : Nat) : Int)) rfl rfl (yd_mv (.inr rfl) rfl) ?_
            refine RL_nil ?_
            refine hK28 _ _ ?_
            refine CW_seq fun K29 hK29 => ?_
            refine CW_region rfl ?_
            have hbT : ∀ s ∈ tl.map (·.1), s < 256 := fun s hs => by obtain ⟨t, ht, rfl⟩ := List.mem_map.1 hs; exact ht256 t ht
            refine RL_v (v := v) rfl rfl (yd_mv (.inl rfl) rfl) ?_
            refine RL_v rfl rfl (yd_strO rfl hgot rfl hbT) ?_
            refine RL_v (v := .slice a11 tl.length c11) rfl rfl (yd_mv (.inl rfl) rfl) ?_
            refine RL_v rfl rfl (yd_strO rfl ho11 rfl hbT) ?_
            refine RL_v rfl rfl (yd_eqs (r := true) rfl rfl rfl hbT hbT (decide_eq_true rfl)) ?_
            refine RL_v (v := .bool true) rfl rfl (yd_mv (.inl rfl) rfl) ?_
            refine RL_gv (v := .int .i64 ((c : Nat) : Int)) rfl rfl (yd_mv (.inl rfl) rfl) ?_
            refine RL_gv rfl rfl (yd_ne true rfl rfl rfl (decide_eq_false (by omega))) ?_
            refine RL_v (v := .bool true) rfl rfl (yd_pk rfl rfl rfl) ?_
            refine RL_v (v := .bool true) rfl rfl (yd_mv (.inl rfl) rfl) ?_
            refine RL_gcall rfl rfl rfl en_7 rfl (reads_ok (hG.no hF) (Nat.lt_of_lt_of_le h2 hF.size) ((cell_keep (hF.block 0 (cell_lt hg) id)).trans hg)) ?_
            rintro _ w7 ⟨rfl, hF7⟩
            refine ⟨_, rfl, ?_⟩
            replace hF := hF.trans hF7
            refine RL_v (v := .bool true) rfl rfl (yd_pk rfl rfl rfl) ?_
            refine RL_v rfl rfl (yd_assign rfl) ?_
            refine RL_nil ?_
            refine hK29 _ _ ?_
            refine CW_ret ?_
            refine hK _ _ ?_
            exact ⟨rfl, hF⟩

end Go.Proofs.YtdjilplpbaackaaDoor.Eng
