/- The package's huffmanLUT.init. -/
import Derived.Test.YtdjilplpbaackaaDoorSpecCodes
set_option linter.unusedVariables false
set_option linter.unusedSimpArgs false
set_option maxRecDepth 100000
namespace Go.Proofs.YtdjilplpbaackaaDoor.Eng
open Go

/-- The table of codes: cell s of the row L is the code of the symbol s, for those symbols that stand ahead of at'. -/
def LutC (H : Array Obj) (L m : Nat) (T : Tab) (at' : Nat) : Prop := ∃ f, ArrP H L 40 (m + 1) f ∧ (∀ k, k < m + 1 → ∃ n : Nat, f k = .int .u32 (n : Nat)) ∧
  ∀ i j s, i < 16 → j < T.counts i → T.idx i + j < at' → T.syms[T.idx i + j]? = some s → f s = .int .u32 (((i + 1) * 16777216 + (T.first i + j) : Nat) : Int)
theorem idx_inj {T : Tab} {i j i' j' : Nat} (hj : j < T.counts i) (hj' : j' < T.counts i') (h : T.idx i + j = T.idx i' + j') : i = i' ∧ j = j' := by
  have h1 : i = i' := by
    rcases Nat.lt_trichotomy i i' with h1 | h1 | h1
    · have := T.idx_mono (i := i + 1) (j := i') h1
      simp only [Tab.idx] at this; omega
    · exact h1
    · have := T.idx_mono (i := i' + 1) (j := i) h1
      simp only [Tab.idx] at this; omega
  subst h1
  exact ⟨rfl, by omega⟩
theorem nodup_at : ∀ {l : List Nat} {a b x : Nat}, l.Nodup → l[a]? = some x → l[b]? = some x → a = b := by
  intro l a b x hn ha hb
  obtain ⟨ha1, ha2⟩ := List.getElem?_eq_some_iff.1 ha
  obtain ⟨hb1, hb2⟩ := List.getElem?_eq_some_iff.1 hb
  rcases Nat.lt_trichotomy a b with h | h | h
  · exact absurd (ha2.trans hb2.symm) (List.pairwise_iff_getElem.1 hn a b ha1 hb1 h)
  · exact h
  · exact absurd (hb2.trans ha2.symm) (List.pairwise_iff_getElem.1 hn b a hb1 ha1 h)
theorem LutC.put {w : World} {L m : Nat} {T : Tab} {i j s : Nat} {v : Value} (h : LutC w.heap L m T (T.idx i + j)) (hnd : T.syms.Nodup) (hi : i < 16) (hj : j < T.counts i) (hs : T.syms[T.idx i + j]? = some s) (hm : s < m + 1)
    (hv : v = .int .u32 (((i + 1) * 16777216 + (T.first i + j) : Nat) : Int)) : LutC (w.setCell ⟨L, 0 + s, none⟩ v).heap L m T (T.idx i + (j + 1)) := by
  obtain ⟨f, hP, hn, hf⟩ := h
  refine ⟨fun k => if k = s then v else f k, hP.set0 hm (if_pos rfl) (fun q _ hq => if_neg hq), fun k hk => ?_, fun i' j' s' hi' hj' hlt hs' => ?_⟩
  · by_cases hks : k = s
    · exact ⟨_, (if_pos hks).trans hv⟩
    · obtain ⟨n, hn'⟩ := hn k hk
      exact ⟨n, (if_neg hks).trans hn'⟩
  · by_cases he : T.idx i' + j' = T.idx i + j
    · obtain ⟨rfl, rfl⟩ := idx_inj hj' hj he
      rw [hs] at hs'; cases hs'
      exact (if_pos rfl).trans hv
    · have hne : s' ≠ s := fun e => he (nodup_at hnd hs' (e ▸ hs))
      exact (if_neg hne).trans (hf i' j' s' hi' hj' (by omega) hs')
theorem u32_add1 (x : Nat) (h : x + 1 < 4294967296) : IntKind.u32.wrap ((x : Int) + 1) = ((x + 1 : Nat) : Int) := by
  rw [show (x : Int) + 1 = ((x + 1 : Nat) : Int) by omega, wrap_u32, Nat.mod_eq_of_lt h]
theorem shl24_u32 (x : Nat) (h : x < 256) : IntKind.u32.wrap ((x : Int) * 2 ^ (min ((24 : Int)).toNat IntKind.u32.bits)) = ((x * 16777216 : Nat) : Int) := by
  have := shl_u32 x 24 (by decide)
  exact this.trans (by rw [Nat.mod_eq_of_lt (by omega)])
theorem or_code (a c : Nat) (ha : a < 256) (hc : c < 16777216) : IntKind.u32.wrap ((BitVec.ofInt IntKind.u32.bits ((a * 16777216 : Nat) : Int) ||| BitVec.ofInt IntKind.u32.bits (c : Int)).toNat : Int) = ((a * 16777216 + c : Nat) : Int) := by
  rw [or_u32 (a * 16777216) c (by omega) (by omega)]
  have := or_add (x := a) (k := c) (e := 24) hc
  exact congrArg (fun z : Nat => (z : Int)) this
theorem zr_40 : zeroT Tryd.prog 40 = some (.int .u32 0) := by kernel_rfl
theorem si_40 : sizedT Tryd.prog 40 = some (1, 4) := by kernel_rfl
theorem sl_113 : sliceT Tryd.prog 113 = some 1 := by kernel_rfl
theorem sz_116 : sizeT Tryd.prog 116 = some 17 := by kernel_rfl
/-- The block of the argument: the counts, and the symbols. -/
def BoxC (H : Array Obj) (X : Nat) (cs : List Nat) (sl : Value) : Prop := H[X]? = some (.cells ((cs.map u8v) ++ [sl]).toArray 116 (0, 0))
theorem BoxC.ld {w : World} {X i : Nat} {cs : List Nat} {sl : Value} {T : Tab} {ys : List Nat} (h : BoxC w.heap X cs sl) (hl : cs.length = 16) (hT : T = tabOf cs ys) (hi : i < 16) : w.cell? ⟨X, 0 + 0 + i, none⟩ = some (.int .u8 ((T.counts i : Nat) : Int)) := by
  subst hT
  rw [show 0 + 0 + i = i by omega, cell_of_blk h, List.getElem?_toArray, List.getElem?_append_left (by rw [List.length_map]; omega), List.getElem?_map, List.getElem?_eq_getElem (by omega)]
  show some (u8v _) = some (u8v (cs.getD i 0))
  rw [List.getD_eq_getElem?_getD, List.getElem?_eq_getElem (by omega)]; rfl
theorem BoxC.lds {w : World} {X : Nat} {cs : List Nat} {sl : Value} (h : BoxC w.heap X cs sl) (hl : cs.length = 16) : w.cell? ⟨X, 0 + 16, none⟩ = some sl := by
  rw [Nat.zero_add, cell_of_blk h, List.getElem?_toArray, List.getElem?_append_right (by rw [List.length_map]; omega), List.length_map, hl]; rfl

set_option maxHeartbeats 8000000 in
theorem initLut_ok {sy : Option Addr} {cy Hd : Nat} {cs ys : List Nat} {T : Tab} {w0 : World} (hT : T = tabOf cs ys) (hSy : SrcH w0.heap sy ys) (hl : ys.length ≤ 2147483647) (hcl : cs.length = 16) (hc : ∀ i, T.counts i < 256) (hy : ∀ y ∈ ys, y < 256)
    (hlen : ys.length = T.idx 16) (hkr : T.Kraft) (hnd : T.syms.Nodup) (hTs : T.syms = ys) (hHb : w0.heap[Hd]? = some (.cells #[.slice none 0 0] 113 (0, 0))) (hne : ∀ b p, sy = some ⟨b, p, none⟩ → b ≠ Hd) :
    Calls Tryd.prog 24 #[.pointer (some ⟨Hd, 0, none⟩), .agg ((cs.map u8v) ++ [Value.slice sy ys.length cy]).toArray] w0 fun e w' => e = .returned (.tuple #[]) ∧ ∃ L m : Nat, m < 256 ∧ (∀ s ∈ ys, s ≤ m) ∧ LutC w'.heap L m T (T.idx 16) ∧ w'.cell? ⟨Hd, 0, none⟩ = some (.slice (some ⟨L, 0, none⟩) (m + 1) (m + 1)) ∧ w0.heap.size ≤ L ∧ Fr (fun k => k = Hd) w0 w' := by
  have hHl : Hd < w0.heap.size := blk_lt hHb
  refine calls0 Tryd.func24 rfl rfl rfl rfl (Nat.le_of_ble_eq_true rfl) fun K hK => ?_
  refine CW_seq fun K1 hK1 => ?_
  refine CW_region rfl ?_
  obtain ⟨X, hX⟩ : ∃ X, X = w0.heap.size := ⟨_, rfl⟩
  refine RL_box (fun w' => BoxC w'.heap X cs (.slice sy ys.length cy) ∧ w'.heap.size = X + 1 ∧ Fr NO w0 w') rfl rfl rfl rfl ⟨by rw [hX]; exact alloc_get, by rw [alloc_size, hX], (Fr.refl _ _).alloc _⟩ ?_
  rintro w ⟨hbx, hsz, hF⟩
  rw [← hX]
  refine RL_nil ?_
  refine hK1 _ _ ?_
  refine CW_seq fun K2 hK2 => ?_
  refine CW_region rfl ?_
  refine RL_v rfl rfl (yd_assign rfl) ?_
  refine RL_nil ?_
  refine hK2 _ _ ?_
  refine CW_seq fun K3 hK3 => ?_
  refine CW_seq fun K4 hK4 => ?_
  refine CW_region rfl ?_
  refine RL_v rfl rfl (yd_field rfl ft_116_1 rfl) ?_
  refine RL_v rfl rfl (yd_load rfl sc_22 rfl (hbx.lds hcl)) ?_
  refine RL_v rfl rfl (yd_len rfl sl_22 rfl) ?_
  refine RL_v rfl rfl (yd_move rfl) ?_
  refine RL_nil ?_
  refine hK4 _ _ ?_
  refine CW_block ?_
  refine CW_loop (n := ys.length) (fun σ w N => ∃ k m : Nat, AtS σ [(0, .pointer (some ⟨Hd, 0, none⟩)), (3, .pointer (some ⟨X, 0, none⟩)), (4, .int .i64 ((m : Nat) : Int)), (13, .slice sy ys.length cy), (14, .int .i64 ((ys.length : Nat) : Int)), (15, .int .i64 ((k : Nat) : Int))] ∧ k ≤ ys.length ∧ m < 256 ∧ (∀ p s, p < k → ys[p]? = some s → s ≤ m) ∧ BoxC w.heap X cs (.slice sy ys.length cy) ∧ w.heap.size = X + 1 ∧ Fr NO w0 w ∧ N = ys.length - k) ?_ ?_
  · exact ⟨0, 0, ⟨rfl, rfl, rfl, rfl, rfl, rfl, trivial⟩, Nat.zero_le _, by decide, fun p s h => absurd h (by omega), hbx, hsz, hF, rfl⟩
  · intro σ w N hI K5 hK5
    obtain ⟨k, m, hσ, hk, hm, hmx, hbx, hsz, hF, hN⟩ := hI
    subst hN
    refine CW_at hσ ?_
    clear hσ
    refine CW_seq fun K6 hK6 => ?_
    refine CW_region rfl ?_
    by_cases hkl : k < ys.length
    · refine RL_v rfl rfl (yd_lt true rfl rfl rfl (decide_eq_true (by omega))) ?_
      refine RL_nil ?_
      refine hK6 _ _ ?_
      refine CW_seq fun K7 hK7 => ?_
      refine CW_t rfl ?_
      refine CW_skip ?_
      refine hK7 _ _ ?_
      refine CW_seq fun K8 hK8 => ?_
      refine CW_block ?_
      refine CW_seq fun K9 hK9 => ?_
      refine CW_region rfl ?_
      obtain ⟨s, hys⟩ : ∃ s, ys[k]? = some s := ⟨_, List.getElem?_eq_getElem hkl⟩
      have hs256 := hy s (List.mem_of_getElem? hys)
      obtain ⟨b, p, hsab, hcell⟩ := (hSy.fr hF).at' hys
      subst hsab
      refine RL_v rfl rfl (yd_ixs rfl sl_22 rfl rfl (k) (rfl) (by omega)) ?_
      refine RL_v rfl rfl (yd_load rfl sc_5 rfl (hcell)) ?_
      refine RL_v rfl rfl (yd_assign rfl) ?_
      refine RL_nil ?_
      refine hK9 _ _ ?_
      refine CW_seq fun K10 hK10 => ?_
      refine CW_region rfl ?_
      refine RL_v rfl rfl (yd_move rfl) ?_
      refine RL_v rfl rfl (yd_conv rfl so_5 it_3 rfl ((s : Nat) : Int) (IntWalk.i64_in _ (by omega))) ?_
      refine RL_v rfl rfl (yd_move rfl) ?_
      by_cases hms : m < s
      · refine RL_v rfl rfl (yd_gt true rfl rfl rfl (decide_eq_true (by omega))) ?_
        refine RL_nil ?_
        refine hK10 _ _ ?_
        refine CW_t rfl ?_
        refine CW_region rfl ?_
        refine RL_v rfl rfl (yd_move rfl) ?_
        refine RL_v rfl rfl (yd_conv rfl so_5 it_3 rfl ((s : Nat) : Int) (IntWalk.i64_in _ (by omega))) ?_
        refine RL_v rfl rfl (yd_assign rfl) ?_
        refine RL_nil ?_
        refine hK8 _ _ ?_
        refine CW_region rfl ?_
        refine RL_v rfl rfl (yd_add64 rfl rfl rfl (by omega)) ?_
        refine RL_v rfl rfl (yd_move rfl) ?_
        refine RL_nil ?_
        refine hK5 _ _ ?_
        exact ⟨ys.length - (k + 1), by omega, k + 1, s, ⟨rfl, rfl, rfl, rfl, rfl, rfl, trivial⟩, by omega, by omega, fun p t hp ht => by
            by_cases hpk : p = k
            · subst hpk; rw [hys] at ht; cases ht; omega
            · have := hmx p t (by omega) ht; omega, hbx, hsz, hF, rfl⟩
      · refine RL_v rfl rfl (yd_gt false rfl rfl rfl (decide_eq_false (by omega))) ?_
        refine RL_nil ?_
        refine hK10 _ _ ?_
        refine CW_f rfl ?_
        refine CW_skip ?_
        refine hK8 _ _ ?_
        refine CW_region rfl ?_
        refine RL_v rfl rfl (yd_add64 rfl rfl rfl (by omega)) ?_
        refine RL_v rfl rfl (yd_move rfl) ?_
        refine RL_nil ?_
        refine hK5 _ _ ?_
        exact ⟨ys.length - (k + 1), by omega, k + 1, m, ⟨rfl, rfl, rfl, rfl, rfl, rfl, trivial⟩, by omega, by omega, fun p t hp ht => by
            by_cases hpk : p = k
            · subst hpk; rw [hys] at ht; cases ht; omega
            · have := hmx p t (by omega) ht; omega, hbx, hsz, hF, rfl⟩
    · refine RL_v rfl rfl (yd_lt false rfl rfl rfl (decide_eq_false (by omega))) ?_
      refine RL_nil ?_
      refine hK6 _ _ ?_
      refine CW_seq fun K11 hK11 => ?_
      refine CW_f rfl ?_
      refine CW_exit rfl ?_
      refine hK3 _ _ ?_
      refine CW_seq fun K12 hK12 => ?_
      refine CW_region rfl ?_
      refine RL_v rfl rfl (yd_move rfl) ?_
      refine RL_v rfl rfl (yd_move rfl) ?_
      refine RL_v rfl rfl (yd_add64 rfl rfl rfl (by omega)) ?_
      obtain rfl : k = ys.length := by omega
      obtain ⟨L, hL⟩ : ∃ L, L = w.heap.size := ⟨_, rfl⟩
      refine RL_make (fun w' => BoxC w'.heap X cs (.slice sy ys.length cy) ∧ LutC w'.heap L m T 0 ∧ w'.cell? ⟨Hd, 0, none⟩ = some (.slice none 0 0) ∧ w'.frozen? ⟨Hd, 0, none⟩ = false ∧ w'.heap.size = L + 1 ∧ Fr NO w0 w') rfl rfl rfl Tryd.underlying38 si_40 zr_40 rfl rfl rfl (m + 1) (m + 1) (by omega) (by omega) (Nat.le_refl _) (by omega) (by omega)
        (fun cells hs hc => ⟨(alloc_old (blk_lt hbx)).trans hbx, ⟨fun _ => .int .u32 0, ⟨cells, by rw [hL]; exact alloc_get, hs, fun i hi => hc i hi⟩, fun _ _ => ⟨0, rfl⟩, fun i j s _ _ h => absurd h (by omega)⟩,
          by rw [cell_of_blk ((alloc_old (by omega)).trans ((hF.block Hd hHl id).trans hHb))]; rfl, frozen_of_blk ((alloc_old (by omega)).trans ((hF.block Hd hHl id).trans hHb)), by rw [alloc_size, hL], hF.alloc _⟩) ?_
      clear hbx hF
      rintro w1 ⟨hbx, hLut, hHc, hHf, hsz1, hF⟩
      rw [← hL]
      refine RL_v rfl rfl (yd_nil rfl rfl) ?_
      refine RL_storeW (fun w' => BoxC w'.heap X cs (.slice sy ys.length cy) ∧ LutC w'.heap L m T 0 ∧ w'.cell? ⟨Hd, 0, none⟩ = some (.slice (some ⟨L, 0, none⟩) (m + 1) (m + 1)) ∧ Fr (fun k => k = Hd) w0 w' ∧ w'.heap.size = L + 1) rfl rfl rfl sz_113 rfl rfl rfl (hHc) (hHf) (⟨(set_blk_ne (by omega) _).trans hbx, (by obtain ⟨f, hP, r⟩ := hLut; exact ⟨f, hP.set_ne (by omega) _, r⟩), (by rw [cell_of_blk (set_blk_same ((hF.block Hd hHl id).trans hHb) _)]; rfl), Fr.set (S := fun k => k = Hd) (b := Hd) (hF.mono (fun _ _ h => h.elim)) (fun _ => rfl) _, (by simpa [World.setCell] using hsz1)⟩) ?_
      clear hbx hLut hF hHc hHf
      rintro w2 ⟨hbx, hLut, hHc, hF, hsz2⟩
      refine RL_nil ?_
      refine hK12 _ _ ?_
      refine CW_seq fun K13 hK13 => ?_
      refine CW_region rfl ?_
      refine RL_v rfl rfl (yd_assign rfl) ?_
      refine RL_v rfl rfl (yd_assign rfl) ?_
      refine RL_nil ?_
      refine hK13 _ _ ?_
      refine CW_seq fun K14 hK14 => ?_
      refine CW_region rfl ?_
      refine RL_v rfl rfl (yd_assign rfl) ?_
      refine RL_nil ?_
      refine hK14 _ _ ?_
      refine CW_block ?_
      refine CW_loop (n := 16) (fun σ w N => ∃ i : Nat, AtS σ [(0, .pointer (some ⟨Hd, 0, none⟩)), (3, .pointer (some ⟨X, 0, none⟩)), (7, .int .u32 ((T.first i : Nat) : Int)), (8, .int .i64 ((T.idx i : Nat) : Int)), (9, .int .i64 ((i : Nat) : Int))] ∧ i ≤ 16 ∧ BoxC w.heap X cs (.slice sy ys.length cy) ∧ LutC w.heap L m T (T.idx i) ∧ w.cell? ⟨Hd, 0, none⟩ = some (.slice (some ⟨L, 0, none⟩) (m + 1) (m + 1)) ∧ Fr (fun k => k = Hd) w0 w ∧ w.heap.size = L + 1 ∧ N = 16 - i) ?_ ?_
      · exact ⟨0, ⟨rfl, rfl, rfl, rfl, rfl, trivial⟩, by decide, hbx, hLut, hHc, hF, hsz2, rfl⟩
      · intro σ w N hI K15 hK15
        obtain ⟨i, hσ, hi, hbx, hLut, hHc, hF, hsz2, hN⟩ := hI
        subst hN
        refine CW_at hσ ?_
        clear hσ
        refine CW_seq fun K16 hK16 => ?_
        refine CW_seq fun K17 hK17 => ?_
        refine CW_region rfl ?_
        refine RL_v rfl rfl (yd_move rfl) ?_
        by_cases hi16 : i < 16
        · refine RL_v rfl rfl (yd_lt true rfl rfl rfl (decide_eq_true (by omega))) ?_
          refine RL_nil ?_
          refine hK17 _ _ ?_
          refine CW_t rfl ?_
          refine CW_skip ?_
          refine hK16 _ _ ?_
          refine CW_seq fun K18 hK18 => ?_
          refine CW_block ?_
          refine CW_seq fun K19 hK19 => ?_
          refine CW_region rfl ?_
          refine RL_v rfl rfl (yd_move rfl) ?_
          refine RL_v rfl rfl (yd_add64 rfl rfl rfl (by omega)) ?_
          refine RL_v rfl rfl (yd_conv rfl so_3 it_40 rfl ((i + 1 : Nat) : Int) ((wrap_u32 (i + 1)).trans (by rw [Nat.mod_eq_of_lt (by omega)]))) ?_
          refine RL_v rfl rfl (yd_shl rfl rfl rfl (by omega) _ (shl24_u32 (i + 1) (by omega))) ?_
          refine RL_v rfl rfl (yd_assign rfl) ?_
          refine RL_nil ?_
          refine hK19 _ _ ?_
          refine CW_seq fun K20 hK20 => ?_
          refine CW_seq fun K21 hK21 => ?_
          refine CW_region rfl ?_
          refine RL_v rfl rfl (yd_assign rfl) ?_
          refine RL_nil ?_
          refine hK21 _ _ ?_
          refine CW_block ?_
          refine CW_loop (n := T.counts i) (fun σ w N => ∃ j : Nat, AtS σ [(0, .pointer (some ⟨Hd, 0, none⟩)), (3, .pointer (some ⟨X, 0, none⟩)), (7, .int .u32 ((T.first i + j : Nat) : Int)), (8, .int .i64 ((T.idx i + j : Nat) : Int)), (9, .int .i64 ((i : Nat) : Int)), (10, .int .u32 (((i + 1) * 16777216 : Nat) : Int)), (11, .int .u8 ((j : Nat) : Int))] ∧ j ≤ T.counts i ∧ BoxC w.heap X cs (.slice sy ys.length cy) ∧ LutC w.heap L m T (T.idx i + j) ∧ w.cell? ⟨Hd, 0, none⟩ = some (.slice (some ⟨L, 0, none⟩) (m + 1) (m + 1)) ∧ Fr (fun k => k = Hd) w0 w ∧ w.heap.size = L + 1 ∧ N = T.counts i - j) ?_ ?_
          · exact ⟨0, ⟨rfl, rfl, rfl, rfl, rfl, rfl, rfl, trivial⟩, Nat.zero_le _, hbx, hLut, hHc, hF, hsz2, rfl⟩
          · intro σ w N hI K22 hK22
            obtain ⟨j, hσ, hj, hbx, hLut, hHc, hF, hsz2, hN⟩ := hI
            subst hN
            refine CW_at hσ ?_
            clear hσ
            have hk16 := hkr i hi16
            have hp16 : 2 ^ (i + 1) ≤ 65536 := Nat.le_trans (Nat.pow_le_pow_right (by decide) (show i + 1 ≤ 16 by omega)) (by decide)
            have hmono := T.idx_mono (i := i + 1) (j := 16) hi16
            rw [idx_succ] at hmono
            refine CW_seq fun K23 hK23 => ?_
            refine CW_seq fun K24 hK24 => ?_
            refine CW_region rfl ?_
            have hc256 := hc i
            refine RL_v rfl rfl (yd_move rfl) ?_
            refine RL_v rfl rfl (yd_move rfl) ?_
            refine RL_v rfl rfl (yd_field rfl ft_116_0 rfl) ?_
            refine RL_v rfl rfl (yd_ix1 rfl at_30 rfl rfl (i) (rfl) (by omega)) ?_
            refine RL_v rfl rfl (yd_load rfl sc_5 rfl (hbx.ld hcl hT hi16)) ?_
            by_cases hjc : j < T.counts i
            · refine RL_v rfl rfl (yd_lt true rfl rfl rfl (decide_eq_true (by omega))) ?_
              refine RL_nil ?_
              refine hK24 _ _ ?_
              refine CW_t rfl ?_
              refine CW_skip ?_
              refine hK23 _ _ ?_
              refine CW_seq fun K25 hK25 => ?_
              refine CW_block ?_
              refine CW_seq fun K26 hK26 => ?_
              refine CW_draw 11 mixed (by kernel_rfl) rfl ?_
              obtain ⟨s, hys⟩ : ∃ s, ys[T.idx i + j]? = some s := ⟨_, List.getElem?_eq_getElem (by omega)⟩
              have hsm := hmx _ s (show T.idx i + j < ys.length by omega) hys
              obtain ⟨b, p, hsab, hcell⟩ := (hSy.keep (fun hx b p o e hb => hF.block b (blk_lt hb) (hne b p e))).at' hys
              subst hsab
              obtain ⟨fL, hPL, hnL, _⟩ := id hLut
              obtain ⟨n0, hn0⟩ := hnL s (by omega)
              refine RD_v rfl rfl (yd_move rfl) ?_
              refine RD_v rfl rfl (yd_nil rfl rfl) ?_
              refine RD_v rfl rfl (yd_load rfl sc_113 rfl (hHc)) ?_
              refine RD_v rfl rfl (yd_field rfl ft_116_1 rfl) ?_
              refine RD_v rfl rfl (yd_load rfl sc_22 rfl (hbx.lds hcl)) ?_
              refine RD_v rfl rfl (yd_move rfl) ?_
              refine RD_v rfl rfl (yd_ixs rfl sl_22 rfl rfl (T.idx i + j) (rfl) (by omega)) ?_
              refine RD_v rfl rfl (yd_load rfl sc_5 rfl (hcell)) ?_
              refine RD_v rfl rfl (yd_move rfl) ?_
              refine RD_v rfl rfl (yd_move rfl) ?_
              refine RD_v rfl rfl (yd_or rfl rfl rfl _ (or_code (i + 1) (T.first i + j) (by omega) (by omega))) ?_
              refine RD_nil ?_
              refine RL_v rfl rfl (yd_ixs rfl sl_113 rfl rfl (s) (rfl) (by omega)) ?_
              refine RL_storeW (fun w' => BoxC w'.heap X cs (.slice (some ⟨b, p, none⟩) ys.length cy) ∧ LutC w'.heap L m T (T.idx i + (j + 1)) ∧ w'.cell? ⟨Hd, 0, none⟩ = some (.slice (some ⟨L, 0, none⟩) (m + 1) (m + 1)) ∧ Fr (fun k => k = Hd) w0 w' ∧ w'.heap.size = L + 1) rfl rfl rfl sz_40 rfl rfl rfl (hPL.ld0 (i := s) (by omega) hn0) (hPL.fz) (⟨(set_blk_ne (by omega) _).trans hbx, hLut.put hnd hi16 hjc (by rw [hTs]; exact hys) (by omega) rfl, (cell_keep (set_blk_ne (by omega) _)).trans hHc, hF.set (fun h => absurd h (by omega)) _, (by simpa [World.setCell] using hsz2)⟩) ?_
              clear hbx hLut hF hHc hsz2 hPL
              rintro w3 ⟨hbx, hLut, hHc, hF, hsz2⟩
              refine RL_nil ?_
              refine hK26 _ _ ?_
              refine CW_seq fun K27 hK27 => ?_
              refine CW_region rfl ?_
              refine RL_v rfl rfl (yd_move rfl) ?_
              refine RL_v rfl rfl (yd_add rfl rfl rfl _ (u32_add1 (T.first i + j) (by omega))) ?_
              refine RL_v rfl rfl (yd_assign rfl) ?_
              refine RL_nil ?_
              refine hK27 _ _ ?_
              refine CW_region rfl ?_
              refine RL_v rfl rfl (yd_move rfl) ?_
              refine RL_v rfl rfl (yd_add64 rfl rfl rfl (by omega)) ?_
              refine RL_v rfl rfl (yd_assign rfl) ?_
              refine RL_nil ?_
              refine hK25 _ _ ?_
              refine CW_region rfl ?_
              refine RL_v rfl rfl (yd_move rfl) ?_
              refine RL_v rfl rfl (yd_add rfl rfl rfl ((j + 1 : Nat) : Int) ((wrap_u8' _ (by omega) (by omega)).trans (by omega))) ?_
              refine RL_v rfl rfl (yd_assign rfl) ?_
              refine RL_nil ?_
              refine hK22 _ _ ?_
              exact ⟨T.counts i - (j + 1), by omega, j + 1, ⟨rfl, rfl, rfl, rfl, rfl, rfl, rfl, trivial⟩, by omega, hbx, hLut, hHc, hF, hsz2, rfl⟩
            · refine RL_v rfl rfl (yd_lt false rfl rfl rfl (decide_eq_false (by omega))) ?_
              refine RL_nil ?_
              refine hK24 _ _ ?_
              refine CW_f rfl ?_
              refine CW_exit rfl ?_
              refine hK20 _ _ ?_
              refine CW_region rfl ?_
              obtain rfl : j = T.counts i := by omega
              have hk16 := hkr i hi16
              have hp16 : 2 ^ (i + 1) ≤ 65536 := Nat.le_trans (Nat.pow_le_pow_right (by decide) (show i + 1 ≤ 16 by omega)) (by decide)
              refine RL_v rfl rfl (yd_move rfl) ?_
              refine RL_v rfl rfl (yd_shl rfl rfl rfl (by omega) ((T.first (i + 1) : Nat) : Int) ((shl_u32 (T.first i + T.counts i) 1 (by decide)).trans (by rw [first_succ, Nat.mod_eq_of_lt (by omega)]))) ?_
              refine RL_v rfl rfl (yd_assign rfl) ?_
              refine RL_nil ?_
              refine hK18 _ _ ?_
              refine CW_region rfl ?_
              refine RL_v rfl rfl (yd_move rfl) ?_
              refine RL_v rfl rfl (yd_add64 rfl rfl rfl (by omega)) ?_
              refine RL_v rfl rfl (yd_assign rfl) ?_
              refine RL_nil ?_
              refine hK15 _ _ ?_
              exact ⟨16 - (i + 1), by omega, i + 1, ⟨rfl, rfl, rfl, rfl, rfl, trivial⟩, by omega, hbx, hLut, hHc, hF, hsz2, rfl⟩
        · refine RL_v rfl rfl (yd_lt false rfl rfl rfl (decide_eq_false (by omega))) ?_
          refine RL_nil ?_
          refine hK17 _ _ ?_
          refine CW_f rfl ?_
          refine CW_exit rfl ?_
          refine hK _ _ ?_
          obtain rfl : i = 16 := by omega
          exact ⟨rfl, L, m, hm, fun s hs => by obtain ⟨p, hp⟩ := List.getElem?_of_mem hs; exact hmx p s (List.getElem?_eq_some_iff.1 hp).1 hp, hLut, hHc, by omega, hF⟩

end Go.Proofs.YtdjilplpbaackaaDoor.Eng
