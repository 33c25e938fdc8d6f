/- errors.Is and errors.As at a FormatError. -/
import Derived.Test.YtdjilplpbaackaaDoorErrFacts
import Derived.Test.YtdjilplpbaackaaDoorNewR
set_option linter.unusedVariables false
set_option linter.unusedSimpArgs false
set_option maxRecDepth 100000
namespace Go.Proofs.YtdjilplpbaackaaDoor.Eng
open Go

theorem cell_keep {w w' : World} {b p : Nat} (h : w'.heap[b]? = w.heap[b]?) : w'.cell? ⟨b, p, none⟩ = w.cell? ⟨b, p, none⟩ := by simp [World.cell?, h]
theorem alloc_cell {w : World} {o : Obj} {b p : Nat} {v : Value} (h : w.cell? ⟨b, p, none⟩ = some v) : (w.alloc o).cell? ⟨b, p, none⟩ = w.cell? ⟨b, p, none⟩ := by
  refine cell_keep (alloc_old ?_)
  rcases Nat.lt_or_ge b w.heap.size with h' | h'
  · exact h'
  · simp [World.cell?, Array.getElem?_eq_none h'] at h
theorem ag_145 : aggT Tryd.prog 145 = true := by kernel_rfl
theorem sz_145 : sizeT Tryd.prog 145 = some 3 := by kernel_rfl
theorem zr_145 : zeroT Tryd.prog 145 = some (.agg #[.pointer none, .pointer none, .int .u64 0]) := by kernel_rfl
theorem if_20 : ifaceT Tryd.prog 20 = true := by kernel_rfl

theorem is_own {er : ByteArray} {w0 : World} : Calls Tryd.prog 31 #[.iface 105 (.string er), .iface 109 (.agg #[]), .bool true] w0 fun e w' => e = .returned (.bool false) ∧ Fr (fun _ => False) w0 w' := by
  refine calls1 Tryd.func31 rfl rfl rfl rfl (Nat.le_of_ble_eq_true rfl) fun K hK => ?_
  refine CW_seq fun K1 hK1 => ?_
  refine CW_region rfl ?_
  refine RL_v rfl rfl (yd_assign rfl) ?_
  refine RL_nil ?_
  refine hK1 _ _ ?_
  refine CW_block ?_
  refine CW_once ?_
  refine CW_block ?_
  refine CW_seq fun K2 hK2 => ?_
  refine CW_seq fun K3 hK3 => ?_
  refine CW_region rfl ?_
  refine RL_v rfl rfl (yd_move rfl) ?_
  refine RL_v rfl rfl (yd_move rfl) ?_
  refine RL_gv rfl rfl (yd_move rfl) ?_
  refine RL_gv rfl rfl (yd_move rfl) ?_
  refine RL_gv rfl rfl (yd_cmp_other (.inl rfl) rfl if_65 rfl rfl (by decide)) ?_
  refine RL_v rfl rfl (yd_pick rfl rfl) ?_
  refine RL_nil ?_
  refine hK3 _ _ ?_
  refine CW_f rfl ?_
  refine CW_skip ?_
  refine hK2 _ _ ?_
  refine CW_seq fun K4 hK4 => ?_
  refine CW_seq fun K5 hK5 => ?_
  refine CW_region rfl ?_
  refine RL_v rfl rfl (yd_move rfl) ?_
  refine RL_v rfl rfl (yd_tassert rfl rfl (tassert160 er _)) ?_
  refine RL_v rfl rfl (yd_move rfl) ?_
  refine RL_v rfl rfl (yd_extract rfl rfl rfl) ?_
  refine RL_v rfl rfl (yd_extract rfl rfl rfl) ?_
  refine RL_v rfl rfl (yd_assign rfl) ?_
  refine RL_v rfl rfl (yd_assign rfl) ?_
  refine RL_nil ?_
  refine hK5 _ _ ?_
  refine CW_seq fun K6 hK6 => ?_
  refine CW_region rfl ?_
  refine RL_v rfl rfl (yd_move rfl) ?_
  refine RL_v rfl rfl (yd_move rfl) ?_
  refine RL_skip rfl rfl ?_
  refine RL_skip rfl rfl ?_
  refine RL_skip rfl rfl ?_
  refine RL_v rfl rfl (yd_pick rfl rfl) ?_
  refine RL_nil ?_
  refine hK6 _ _ ?_
  refine CW_f rfl ?_
  refine CW_skip ?_
  refine hK4 _ _ ?_
  refine CW_seq fun K7 hK7 => ?_
  refine CW_region rfl ?_
  refine RL_v rfl rfl (yd_move rfl) ?_
  refine RL_nil ?_
  refine hK7 _ _ ?_
  refine CW_block ?_
  refine CW_seq fun K8 hK8 => ?_
  refine CW_region rfl ?_
  refine RL_v rfl rfl (yd_tassert rfl rfl (tassert163 er _)) ?_
  refine RL_v rfl rfl (yd_extract rfl rfl rfl) ?_
  refine RL_v rfl rfl (yd_extract rfl rfl rfl) ?_
  refine RL_nil ?_
  refine hK8 _ _ ?_
  refine CW_f rfl ?_
  refine CW_seq fun K9 hK9 => ?_
  refine CW_region rfl ?_
  refine RL_v rfl rfl (yd_tassert rfl rfl (tassert164 er _)) ?_
  refine RL_v rfl rfl (yd_extract rfl rfl rfl) ?_
  refine RL_v rfl rfl (yd_extract rfl rfl rfl) ?_
  refine RL_nil ?_
  refine hK9 _ _ ?_
  refine CW_f rfl ?_
  refine CW_seq fun K10 hK10 => ?_
  refine CW_region rfl ?_
  refine RL_v rfl rfl (yd_assign rfl) ?_
  refine RL_nil ?_
  refine hK10 _ _ ?_
  refine CW_seq fun K11 hK11 => ?_
  refine CW_region rfl ?_
  refine RL_v rfl rfl (yd_assign rfl) ?_
  refine RL_nil ?_
  refine hK11 _ _ ?_
  refine CW_ret ?_
  refine hK _ _ ?_
  exact ⟨rfl, Fr.refl _ _⟩
theorem errIs {er : ByteArray} {w0 : World} : Calls Tryd.prog 22 #[.iface 105 (.string er), .iface 109 (.agg #[])] w0 fun e w' => e = .returned (.bool false) ∧ Fr (fun _ => False) w0 w' := by
  refine calls1 Tryd.func22 rfl rfl rfl rfl (Nat.le_of_ble_eq_true rfl) fun K hK => ?_
  refine CW_seq fun K1 hK1 => ?_
  refine CW_region rfl ?_
  refine RL_v rfl rfl (yd_assign rfl) ?_
  refine RL_nil ?_
  refine hK1 _ _ ?_
  refine CW_seq fun K2 hK2 => ?_
  refine CW_seq fun K3 hK3 => ?_
  refine CW_region rfl ?_
  refine RL_v rfl rfl (yd_move rfl) ?_
  refine RL_v rfl rfl (yd_eq_nil rfl if_65 rfl) ?_
  refine RL_v rfl rfl (yd_move rfl) ?_
  refine RL_gv rfl rfl (yd_move rfl) ?_
  refine RL_gv rfl rfl (yd_eq_nil rfl if_65 rfl) ?_
  refine RL_v rfl rfl (yd_pick rfl rfl) ?_
  refine RL_nil ?_
  refine hK3 _ _ ?_
  refine CW_f rfl ?_
  refine CW_skip ?_
  refine hK2 _ _ ?_
  refine CW_seq fun K4 hK4 => ?_
  refine CW_region rfl ?_
  refine RL_v rfl rfl (yd_move rfl) ?_
  refine RL_ext (w' := _) (wantedE_none rfl) rfl rfl rfl (xt (x30 _ _) (typeOf109 _ _)) ?_
  refine RL_mext (wantedE_none rfl) rfl rfl rfl (methComparable _ _) rfl (x84 _) ?_
  refine RL_v rfl rfl (yd_assign rfl) ?_
  refine RL_nil ?_
  refine hK4 _ _ ?_
  refine CW_seq fun K5 hK5 => ?_
  refine CW_region rfl ?_
  refine RL_v rfl rfl (yd_move rfl) ?_
  refine RL_v rfl rfl (yd_move rfl) ?_
  refine RL_v rfl rfl (yd_move rfl) ?_
  refine RL_call rfl rfl rfl en_31 rfl (is_own) ?_
  rintro _ w ⟨rfl, hF⟩
  refine ⟨_, rfl, ?_⟩
  refine RL_v rfl rfl (yd_assign rfl) ?_
  refine RL_nil ?_
  refine hK5 _ _ ?_
  refine CW_ret ?_
  refine hK _ _ ?_
  exact ⟨rfl, hF⟩
set_option maxHeartbeats 4000000 in
theorem as_own {er : ByteArray} {t q1 : Nat} {old tv : Value} {w0 : World} (h1 : w0.cell? ⟨q1, 0, none⟩ = some (.pointer (some ⟨t, 0, none⟩))) (ht : w0.heap[t]? = some (.cells #[old] 105 (0, 0))) :
    Calls Tryd.prog 35 #[.iface 105 (.string er), tv, .agg #[hnd 111, .pointer (some ⟨q1, 0, none⟩), .int .u64 150], rty 105] w0 fun e w' => e = .returned (.bool true) ∧ Fr (fun k => k = t) w0 w' := by
  refine calls1 Tryd.func35 rfl rfl rfl rfl (Nat.le_of_ble_eq_true rfl) fun K hK => ?_
  refine CW_seq fun K1 hK1 => ?_
  refine CW_region rfl ?_
  obtain ⟨q, hq⟩ : ∃ q, q = w0.heap.size := ⟨_, rfl⟩
  have htl := blk_lt ht
  refine RL_box (fun w' => w'.heap[q]? = some (.cells #[hnd 111, .pointer (some ⟨q1, 0, none⟩), .int .u64 150] 145 (0, 0)) ∧ w'.cell? ⟨q1, 0, none⟩ = some (.pointer (some ⟨t, 0, none⟩)) ∧ w'.heap[t]? = some (.cells #[old] 105 (0, 0)) ∧ Fr (fun k => k = t) w0 w') rfl rfl rfl rfl ⟨by rw [hq]; exact alloc_get, (alloc_cell h1).trans h1, (alloc_old htl).trans ht, (Fr.refl _ _).alloc _⟩ ?_
  rintro w ⟨hb, h1, ht, hF⟩
  rw [← hq]
  refine RL_v rfl rfl (yd_assign rfl) ?_
  refine RL_nil ?_
  refine hK1 _ _ ?_
  refine CW_block ?_
  refine CW_once ?_
  refine CW_block ?_
  refine CW_seq fun K2 hK2 => ?_
  refine CW_seq fun K3 hK3 => ?_
  refine CW_region rfl ?_
  refine RL_v rfl rfl (yd_move rfl) ?_
  refine RL_ext (w' := _) (wantedE_none rfl) rfl rfl rfl (xt (x30 _ _) (typeOf105 _ _)) ?_
  refine RL_v rfl rfl (yd_move rfl) ?_
  refine RL_mext (wantedE_none rfl) rfl rfl rfl (methAssignableTo _ _) rfl (xt (x83 _ _) (assignable105 _)) ?_
  refine RL_nil ?_
  refine hK3 _ _ ?_
  refine CW_t rfl ?_
  refine CW_seq fun K4 hK4 => ?_
  refine CW_region rfl ?_
  refine RL_v rfl rfl (yd_load_agg rfl ag_145 sz_145 rfl [hnd 111, .pointer (some ⟨q1, 0, none⟩), .int .u64 150] rfl (fun k v hv => by
    rw [cell_of_blk hb]
    match k, hv with
    | 0, hv => exact hv
    | 1, hv => exact hv
    | 2, hv => exact hv
    | k + 3, hv => simp at hv)) ?_
  refine RL_ext (w' := _) (wantedE_none rfl) rfl rfl rfl (xt (x39 _ _) (elemV111 _ ⟨t, 0, none⟩ _ h1)) ?_
  refine RL_v rfl rfl (yd_move rfl) ?_
  have htl := blk_lt ht
  have hF2 := hF.alloc (.cells #[.string er] 105)
  have ht2 := (alloc_old (o := .cells #[.string er] 105) htl).trans ht
  refine RL_ext (w' := _) (wantedE_none rfl) rfl rfl rfl (xt (x32 _ _) (valueOf105 er _)) ?_
  refine RL_ext (w' := (w.alloc (.cells #[.string er] 105)).setCell ⟨t, 0, none⟩ (.string er)) (wantedE_none rfl) rfl rfl rfl (xt (x40 _ _) (set105 ⟨t, 0, none⟩ ⟨w.heap.size, 0, none⟩ er old _ (by rw [cell_of_blk alloc_get]; rfl) (by rw [cell_of_blk ht2]; rfl) (frozen_of_blk ht2))) ?_
  refine RL_nil ?_
  refine hK4 _ _ ?_
  refine CW_seq fun K5 hK5 => ?_
  refine CW_region rfl ?_
  refine RL_v rfl rfl (yd_assign rfl) ?_
  refine RL_nil ?_
  refine hK5 _ _ ?_
  refine CW_ret ?_
  refine hK _ _ ?_
  exact ⟨rfl, hF2.set (fun _ => rfl) _⟩
set_option maxHeartbeats 4000000 in
theorem errAs {er : ByteArray} {t : Nat} {old : Value} {w0 : World} (hg : w0.cell? ⟨0, 0, none⟩ = some (rty 65)) (ht : w0.heap[t]? = some (.cells #[old] 105 (0, 0))) :
    Calls Tryd.prog 23 #[.iface 105 (.string er), .iface 111 (.pointer (some ⟨t, 0, none⟩))] w0 fun e w' => e = .returned (.bool true) ∧ Fr (fun k => k = t) w0 w' := by
  refine calls1 Tryd.func23 rfl rfl rfl rfl (Nat.le_of_ble_eq_true rfl) fun K hK => ?_
  refine CW_seq fun K1 hK1 => ?_
  refine CW_region rfl ?_
  refine RL_v rfl rfl (yd_assign rfl) ?_
  refine RL_nil ?_
  refine hK1 _ _ ?_
  refine CW_seq fun K2 hK2 => ?_
  refine CW_seq fun K3 hK3 => ?_
  refine CW_region rfl ?_
  refine RL_v rfl rfl (yd_move rfl) ?_
  refine RL_v rfl rfl (yd_eq_nil rfl if_65 rfl) ?_
  refine RL_nil ?_
  refine hK3 _ _ ?_
  refine CW_f rfl ?_
  refine CW_skip ?_
  refine hK2 _ _ ?_
  refine CW_seq fun K4 hK4 => ?_
  refine CW_seq fun K5 hK5 => ?_
  refine CW_region rfl ?_
  refine RL_v rfl rfl (yd_move rfl) ?_
  refine RL_v rfl rfl (yd_eq_nil rfl if_20 rfl) ?_
  refine RL_nil ?_
  refine hK5 _ _ ?_
  refine CW_f rfl ?_
  refine CW_skip ?_
  refine hK4 _ _ ?_
  refine CW_seq fun K6 hK6 => ?_
  refine CW_region rfl ?_
  refine RL_v rfl rfl (yd_move rfl) ?_
  obtain ⟨q1, hq1⟩ : ∃ q1, q1 = w0.heap.size := ⟨_, rfl⟩
  refine RL_ext (w' := _) (wantedE_none rfl) rfl rfl rfl (xt (x32 _ _) (valueOf111 ⟨t, 0, none⟩ _)) ?_
  obtain ⟨w1, hw1, hc, ht, hF, hg, hql⟩ : ∃ w1, w1 = w0.alloc (.cells #[.pointer (some ⟨t, 0, none⟩)] 111) ∧ w1.cell? ⟨q1, 0, none⟩ = some (.pointer (some ⟨t, 0, none⟩)) ∧ w1.heap[t]? = some (.cells #[old] 105 (0, 0)) ∧ Fr (fun k => k = t) w0 w1 ∧ w1.cell? ⟨0, 0, none⟩ = some (rty 65) ∧ q1 < w1.heap.size :=
    ⟨_, rfl, by rw [hq1, cell_of_blk alloc_get]; rfl, (alloc_old (blk_lt ht)).trans ht, (Fr.refl _ _).alloc _, (alloc_cell hg).trans hg, by rw [alloc_size]; omega⟩
  rw [← hw1, ← hq1]
  obtain ⟨B, hB⟩ : ∃ B, B = w1.heap.size := ⟨_, rfl⟩
  refine RL_alloc (fun w' => w'.heap[B]? = some (.cells #[.pointer none, .pointer none, .int .u64 0] 145 (0, 0)) ∧ w'.cell? ⟨q1, 0, none⟩ = some (.pointer (some ⟨t, 0, none⟩)) ∧ w'.heap[t]? = some (.cells #[old] 105 (0, 0)) ∧ Fr (fun k => k = t) w0 w' ∧ w'.cell? ⟨0, 0, none⟩ = some (rty 65)) rfl rfl rfl zr_145 ⟨by rw [hB]; exact alloc_get, (alloc_cell hc).trans hc, (alloc_old (blk_lt ht)).trans ht, hF.alloc _, (alloc_cell hg).trans hg⟩ ?_
  have hq1B : q1 < B := by rw [hB]; exact hql
  have htB : t < B := by rw [hB]; exact blk_lt ht
  have h0B : 0 < B := by omega
  have hB0 : w0.heap.size ≤ B := by rw [hB]; exact hF.size
  clear hc ht hF hg hw1
  rintro w ⟨hb, hc, ht, hF, hg⟩
  rw [← hB]
  refine RL_storeAgg (fun w' => w'.heap[B]? = some (.cells #[hnd 111, .pointer (some ⟨q1, 0, none⟩), .int .u64 150] 145 (0, 0)) ∧ w'.cell? ⟨q1, 0, none⟩ = some (.pointer (some ⟨t, 0, none⟩)) ∧ w'.heap[t]? = some (.cells #[old] 105 (0, 0)) ∧ Fr (fun k => k = t) w0 w' ∧ w'.cell? ⟨0, 0, none⟩ = some (rty 65)) rfl rfl rfl sz_145 rfl (vs := [hnd 111, .pointer (some ⟨q1, 0, none⟩), .int .u64 150]) rfl rfl hb (by decide) (fun v hv => by simp at hv; rcases hv with rfl | rfl | rfl <;> rfl)
    ⟨set_blk_same (set_blk_same (set_blk_same hb _) _) _, (cell_keep (setCells_ne (by omega) _ _ _)).trans hc, (setCells_ne (by omega) _ _ _).trans ht, Fr.setCells (fun h => absurd h (by omega)) _ _ _ hF, (cell_keep (setCells_ne (by omega) _ _ _)).trans hg⟩ ?_
  clear hb hc ht hF hg
  rintro w ⟨hb, hc, ht, hF, hg⟩
  refine RL_nil ?_
  refine hK6 _ _ ?_
  refine CW_seq fun K7 hK7 => ?_
  refine CW_region rfl ?_
  refine RL_v rfl rfl (yd_load_agg rfl ag_145 sz_145 rfl [hnd 111, .pointer (some ⟨q1, 0, none⟩), .int .u64 150] rfl (fun k v hv => by
    rw [cell_of_blk hb]
    match k, hv with
    | 0, hv => exact hv
    | 1, hv => exact hv
    | 2, hv => exact hv
    | k + 3, hv => simp at hv)) ?_
  refine RL_ext (w' := _) (wantedE_none rfl) rfl rfl rfl (xt (x33 _ _) (type111 _ _)) ?_
  refine RL_v rfl rfl (yd_assign rfl) ?_
  refine RL_nil ?_
  refine hK7 _ _ ?_
  refine CW_seq fun K8 hK8 => ?_
  refine CW_seq fun K9 hK9 => ?_
  refine CW_region rfl ?_
  refine RL_v rfl rfl (yd_move rfl) ?_
  refine RL_mext (wantedE_none rfl) rfl rfl rfl (methKind _ _) rfl (xt (x56 _ _) (kind111 _)) ?_
  refine RL_v rfl rfl (yd_ne false rfl rfl rfl (by decide)) ?_
  refine RL_v rfl rfl (yd_move rfl) ?_
  refine RL_gv rfl rfl (yd_load_agg rfl ag_145 sz_145 rfl [hnd 111, .pointer (some ⟨q1, 0, none⟩), .int .u64 150] rfl (fun k v hv => by
    rw [cell_of_blk hb]
    match k, hv with
    | 0, hv => exact hv
    | 1, hv => exact hv
    | 2, hv => exact hv
    | k + 3, hv => simp at hv)) ?_
  refine RL_ext (w' := _) rfl rfl rfl rfl (xt (x34 _ _) (isNil111 _ ⟨t, 0, none⟩ _ hc)) ?_
  refine RL_v rfl rfl (yd_pick rfl rfl) ?_
  refine RL_nil ?_
  refine hK9 _ _ ?_
  refine CW_f rfl ?_
  refine CW_skip ?_
  refine hK8 _ _ ?_
  refine CW_seq fun K10 hK10 => ?_
  refine CW_region rfl ?_
  refine RL_v rfl rfl (yd_move rfl) ?_
  refine RL_mext (wantedE_none rfl) rfl rfl rfl (methElem _ _) rfl (xt (x85 _ _) (elem111 _)) ?_
  refine RL_v rfl rfl (yd_assign rfl) ?_
  refine RL_nil ?_
  refine hK10 _ _ ?_
  refine CW_seq fun K11 hK11 => ?_
  refine CW_seq fun K12 hK12 => ?_
  refine CW_region rfl ?_
  refine RL_v rfl rfl (yd_move rfl) ?_
  refine RL_mext (wantedE_none rfl) rfl rfl rfl (methKind _ _) rfl (xt (x56 _ _) (kind105 _)) ?_
  refine RL_v rfl rfl (yd_ne true rfl rfl rfl (by decide)) ?_
  refine RL_v rfl rfl (yd_move rfl) ?_
  refine RL_gv rfl rfl (yd_move rfl) ?_
  refine RL_gv rfl rfl (yd_load rfl sc_139 rfl (hg)) ?_
  refine RL_mext rfl rfl rfl rfl (methImplements _ _) rfl (xt (x86 _ _) (implements105 _)) ?_
  refine RL_gv rfl rfl (yd_not rfl rfl) ?_
  refine RL_v rfl rfl (yd_pick rfl rfl) ?_
  refine RL_nil ?_
  refine hK12 _ _ ?_
  refine CW_f rfl ?_
  refine CW_skip ?_
  refine hK11 _ _ ?_
  refine CW_seq fun K13 hK13 => ?_
  refine CW_region rfl ?_
  refine RL_v rfl rfl (yd_move rfl) ?_
  refine RL_v rfl rfl (yd_move rfl) ?_
  refine RL_v rfl rfl (yd_load_agg rfl ag_145 sz_145 rfl [hnd 111, .pointer (some ⟨q1, 0, none⟩), .int .u64 150] rfl (fun k v hv => by
    rw [cell_of_blk hb]
    match k, hv with
    | 0, hv => exact hv
    | 1, hv => exact hv
    | 2, hv => exact hv
    | k + 3, hv => simp at hv)) ?_
  refine RL_v rfl rfl (yd_move rfl) ?_
  refine RL_call rfl rfl rfl en_35 rfl (as_own hc ht) ?_
  rintro _ w2 ⟨rfl, hF2⟩
  refine ⟨_, rfl, ?_⟩
  refine RL_v rfl rfl (yd_assign rfl) ?_
  refine RL_nil ?_
  refine hK13 _ _ ?_
  refine CW_ret ?_
  refine hK _ _ ?_
  exact ⟨rfl, hF.trans hF2⟩

end Go.Proofs.YtdjilplpbaackaaDoor.Eng
