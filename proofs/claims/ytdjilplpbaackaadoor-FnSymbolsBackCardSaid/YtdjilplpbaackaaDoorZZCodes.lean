/- The package's ZZCodes and the thin Codes. -/
import Derived.Test.YtdjilplpbaackaaDoorLutInit
set_option linter.unusedVariables false
set_option linter.unusedSimpArgs false
set_option maxRecDepth 100000
namespace Go.Proofs.YtdjilplpbaackaaDoor.Eng
open Go

theorem list16 {l : List Nat} (h : l.length = 16) : ∃ a0 a1 a2 a3 a4 a5 a6 a7 a8 a9 a10 a11 a12 a13 a14 a15, l = [a0, a1, a2, a3, a4, a5, a6, a7, a8, a9, a10, a11, a12, a13, a14, a15] :=
  match l, h with
  | [a0, a1, a2, a3, a4, a5, a6, a7, a8, a9, a10, a11, a12, a13, a14, a15], _ => ⟨a0, a1, a2, a3, a4, a5, a6, a7, a8, a9, a10, a11, a12, a13, a14, a15, rfl⟩
theorem b116' {a0 a1 a2 a3 a4 a5 a6 a7 a8 a9 a10 a11 a12 a13 a14 a15 : Nat} {a : Option Addr} {n c : Nat} : Tryd.prog.built 116 [(0, .agg #[u8v a0, u8v a1, u8v a2, u8v a3, u8v a4, u8v a5, u8v a6, u8v a7, u8v a8, u8v a9, u8v a10, u8v a11, u8v a12, u8v a13, u8v a14, u8v a15]), (1, .slice a n c)] = some #[u8v a0, u8v a1, u8v a2, u8v a3, u8v a4, u8v a5, u8v a6, u8v a7, u8v a8, u8v a9, u8v a10, u8v a11, u8v a12, u8v a13, u8v a14, u8v a15, .slice a n c] := by kernel_rfl
theorem b116 {cs : List Nat} (h : cs.length = 16) {a : Option Addr} {n c : Nat} : Tryd.prog.built 116 [(0, .agg (cs.map u8v).toArray), (1, .slice a n c)] = some ((cs.map u8v) ++ [Value.slice a n c]).toArray := by
  obtain ⟨a0, a1, a2, a3, a4, a5, a6, a7, a8, a9, a10, a11, a12, a13, a14, a15, rfl⟩ := list16 h
  exact b116'
theorem z113 : zeroT Tryd.prog 113 = some (.slice none 0 0) := by kernel_rfl
set_option maxHeartbeats 4000000 in
theorem zzCodes_ok {sy : Option Addr} {cy : Nat} {cs ys : List Nat} {T : Tab} {w0 : World} (hT : T = tabOf cs ys) (hSy : SrcH w0.heap sy ys) (hl : ys.length ≤ 2147483647) (hcl : cs.length = 16) (hc : ∀ i, T.counts i < 256) (hy : ∀ y ∈ ys, y < 256)
    (hlen : ys.length = T.idx 16) (hpos : 0 < ys.length) (hkr : T.Kraft) (hnd : T.syms.Nodup) (hTs : T.syms = ys) :
    Calls Tryd.prog 16 #[.agg (cs.map u8v).toArray, .slice sy ys.length cy] w0 fun e w' => ∃ L m : Nat, e = .returned (.slice (some ⟨L, 0, none⟩) (m + 1) (m + 1)) ∧ m < 256 ∧ (∀ s ∈ ys, s ≤ m) ∧ LutC w'.heap L m T (T.idx 16) ∧ Fr NO w0 w' := by
  refine calls1 Tryd.func16 rfl rfl rfl rfl (Nat.le_of_ble_eq_true rfl) fun K hK => ?_
  refine CW_seq fun K1 hK1 => ?_
  refine CW_region rfl ?_
  obtain ⟨A, hA⟩ : ∃ A, A = w0.heap.size := ⟨_, rfl⟩
  refine RL_box (fun w' => w'.heap[A]? = some (.cells (cs.map u8v).toArray 30 (0, 0)) ∧ w'.heap.size = A + 1 ∧ Fr NO w0 w') rfl rfl rfl rfl ⟨by rw [hA]; exact alloc_get, by rw [alloc_size, hA], (Fr.refl _ _).alloc _⟩ ?_
  rintro w ⟨hbx, hsz, hF⟩
  rw [← hA]
  refine RL_v rfl rfl (yd_assign rfl) ?_
  refine RL_nil ?_
  refine hK1 _ _ ?_
  refine CW_seq fun K2 hK2 => ?_
  refine CW_region rfl ?_
  obtain ⟨Hd, hHd⟩ : ∃ Hd, Hd = w.heap.size := ⟨_, rfl⟩
  refine RL_alloc (fun w' => w'.heap[A]? = some (.cells (cs.map u8v).toArray 30 (0, 0)) ∧ w'.heap[Hd]? = some (.cells #[.slice none 0 0] 113 (0, 0)) ∧ Fr NO w0 w') rfl rfl rfl z113 ⟨(alloc_old (blk_lt hbx)).trans hbx, by rw [hHd]; exact alloc_get, hF.alloc _⟩ ?_
  clear hbx hF
  rintro w1 ⟨hbx, hHb, hF⟩
  rw [← hHd]
  refine RL_nil ?_
  refine hK2 _ _ ?_
  refine CW_seq fun K3 hK3 => ?_
  refine CW_region rfl ?_
  refine RL_v rfl rfl (yd_load_agg (n := 16) rfl ag_30 sz_30 rfl (cs.map u8v) (by rw [List.length_map, hcl]) (fun k v hk => by rw [Nat.zero_add, cell_of_blk hbx, List.getElem?_toArray, hk])) ?_
  refine RL_v rfl rfl (yd_move rfl) ?_
  refine RL_v rfl rfl (yd_build rfl rfl (b116 hcl)) ?_
  refine RL_call rfl rfl rfl en_24 rfl (initLut_ok hT (hSy.fr hF) hl hcl hc hy hlen hkr hnd hTs hHb (fun b p e => by have := hSy.lt (fun h => by rw [h] at hpos; exact absurd hpos (by decide)) e; omega)) ?_
  rintro _ w2 ⟨rfl, L, m, hm, hsm, hLut, hHc, hLo, hF2⟩
  refine ⟨_, rfl, ?_⟩
  replace hF := hF.up hF2 (fun k h => by subst h; omega)
  refine RL_nil ?_
  refine hK3 _ _ ?_
  refine CW_seq fun K4 hK4 => ?_
  refine CW_region rfl ?_
  refine RL_v rfl rfl (yd_load rfl sc_113 rfl (hHc)) ?_
  refine RL_v rfl rfl (yd_assign rfl) ?_
  refine RL_nil ?_
  refine hK4 _ _ ?_
  refine CW_ret ?_
  refine hK _ _ ?_
  exact ⟨L, m, rfl, hm, hsm, hLut, hF⟩
set_option maxHeartbeats 4000000 in
theorem iCodes_ok {sy : Option Addr} {cy : Nat} {cs ys : List Nat} {T : Tab} {w0 : World} (hT : T = tabOf cs ys) (hSy : SrcH w0.heap sy ys) (hl : ys.length ≤ 2147483647) (hcl : cs.length = 16) (hc : ∀ i, T.counts i < 256) (hy : ∀ y ∈ ys, y < 256)
    (hlen : ys.length = T.idx 16) (hpos : 0 < ys.length) (hkr : T.Kraft) (hnd : T.syms.Nodup) (hTs : T.syms = ys) :
    Calls Tryd.prog 10 #[.agg (cs.map u8v).toArray, .slice sy ys.length cy] w0 fun e w' => ∃ L m : Nat, e = .returned (.slice (some ⟨L, 0, none⟩) (m + 1) (m + 1)) ∧ m < 256 ∧ (∀ s ∈ ys, s ≤ m) ∧ LutC w'.heap L m T (T.idx 16) ∧ Fr NO w0 w' := by
  refine calls1 Tryd.func10 rfl rfl rfl rfl (Nat.le_of_ble_eq_true rfl) fun K hK => ?_
  refine CW_seq fun K1 hK1 => ?_
  refine CW_region rfl ?_
  obtain ⟨A, hA⟩ : ∃ A, A = w0.heap.size := ⟨_, rfl⟩
  refine RL_box (fun w' => w'.heap[A]? = some (.cells (cs.map u8v).toArray 30 (0, 0)) ∧ w'.heap.size = A + 1 ∧ Fr NO w0 w') rfl rfl rfl rfl ⟨by rw [hA]; exact alloc_get, by rw [alloc_size, hA], (Fr.refl _ _).alloc _⟩ ?_
  rintro w ⟨hbx, hsz, hF⟩
  rw [← hA]
  refine RL_v rfl rfl (yd_assign rfl) ?_
  refine RL_nil ?_
  refine hK1 _ _ ?_
  refine CW_seq fun K2 hK2 => ?_
  refine CW_region rfl ?_
  refine RL_v rfl rfl (yd_load_agg (n := 16) rfl ag_30 sz_30 rfl (cs.map u8v) (by rw [List.length_map, hcl]) (fun k v hk => by rw [Nat.zero_add, cell_of_blk hbx, List.getElem?_toArray, hk])) ?_
  refine RL_v rfl rfl (yd_move rfl) ?_
  refine RL_call rfl rfl rfl en_16 rfl (zzCodes_ok hT (hSy.fr hF) hl hcl hc hy hlen hpos hkr hnd hTs) ?_
  rintro _ w1 ⟨L, m, rfl, hm, hsm, hLut, hF2⟩
  refine ⟨_, rfl, ?_⟩
  replace hF := hF.trans hF2
  refine RL_v rfl rfl (yd_assign rfl) ?_
  refine RL_nil ?_
  refine hK2 _ _ ?_
  refine CW_ret ?_
  refine hK _ _ ?_
  exact ⟨L, m, rfl, hm, hsm, hLut, hF⟩

end Go.Proofs.YtdjilplpbaackaaDoor.Eng
