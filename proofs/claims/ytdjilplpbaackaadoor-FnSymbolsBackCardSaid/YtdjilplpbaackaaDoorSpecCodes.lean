/- The oracle's Codes. -/
import Derived.Test.YtdjilplpbaackaaDoorCounted
set_option linter.unusedVariables false
set_option linter.unusedSimpArgs false
set_option maxRecDepth 100000
namespace Go.Proofs.YtdjilplpbaackaaDoor.Eng
open Go

/-- The table of the counts cs and the symbols ys. -/
def tabOf (cs ys : List Nat) : Tab := ⟨fun i => cs.getD i 0, ys⟩
/-- The oracle's codes, as far as their lengths: not nought at those symbols alone that stand ahead of at'. -/
def OutI (H : Array Obj) (O : Nat) (ys : List Nat) (at' : Nat) : Prop := ∃ f, ArrP H O 35 512 f ∧ (∀ k, k < 512 → (f k).oneCell' = true) ∧ (ys.take at').Nodup ∧ ∀ s, s < 256 → ∃ n : Nat, f (2 * s) = .int .i64 (n : Nat) ∧ (n ≠ 0 ↔ s ∈ ys.take at')
theorem b34 {a b : Int} : Tryd.prog.built 34 [(0, .int .i64 a), (1, .int .i64 b)] = some #[.int .i64 a, .int .i64 b] := by kernel_rfl
theorem shl1_i64B (x : Nat) (h : x < 1099511627776) : IntKind.i64.wrap ((x : Int) * 2 ^ (min ((1 : Int)).toNat IntKind.i64.bits)) = ((x * 2 : Nat) : Int) := by
  show IntKind.i64.wrap ((x : Int) * 2 ^ 1) = _
  rw [IntWalk.i64_in _ (by omega)]; omega
theorem pow_i64 : ∀ e : Nat, e < 17 → IntKind.i64.wrap ((1 : Int) * 2 ^ (min ((e : Int)).toNat IntKind.i64.bits)) = ((2 ^ e : Nat) : Int) := by decide
theorem take_succ_mem {ys : List Nat} {k s x : Nat} (hx : ys[k]? = some x) : s ∈ ys.take (k + 1) ↔ s ∈ ys.take k ∨ s = x := by
  rw [List.take_add_one, hx]; simp
theorem OutI.ld {w : World} {O at' s : Nat} {ys : List Nat} (h : OutI w.heap O ys at') (hs : s < 256) : ∃ n : Nat, w.cell? ⟨O, 0 + s * 2 + 0, none⟩ = some (.int .i64 (n : Nat)) ∧ (n ≠ 0 ↔ s ∈ ys.take at') := by
  obtain ⟨f, hP, _, _, hf⟩ := h
  obtain ⟨n, h1, h2⟩ := hf s hs
  exact ⟨n, by rw [show 0 + s * 2 + 0 = 2 * s by omega, hP.ld (by omega), h1], h2⟩
theorem OutI.put {w : World} {O at' s l c : Nat} {ys : List Nat} (h : OutI w.heap O ys at') (hs : s < 256) (hl : l ≠ 0) (hx : ys[at']? = some s) (hn : s ∉ ys.take at') : OutI (setCells w O (0 + s * 2) [.int .i64 (l : Nat), .int .i64 (c : Nat)]).heap O ys (at' + 1) := by
  obtain ⟨f, ⟨cc, hc, hsz, hf⟩, h1, hnd, hff⟩ := h
  obtain ⟨c', hc', hs', hp⟩ := setCells_blk [.int .i64 (l : Nat), .int .i64 (c : Nat)] (0 + s * 2) w cc 35 (0, 0) hc (by simp; omega)
  have e0 : c'[2 * s]? = some (.int .i64 (l : Nat)) := by
    rw [hp]; simp only [putRow]; rw [if_pos ⟨by omega, by simp; omega⟩, show 2 * s - (0 + s * 2) = 0 by omega]; rfl
  have e1 : c'[2 * s + 1]? = some (.int .i64 (c : Nat)) := by
    rw [hp]; simp only [putRow]; rw [if_pos ⟨by omega, by simp; omega⟩, show 2 * s + 1 - (0 + s * 2) = 1 by omega]; rfl
  have e2 : ∀ k, k ≠ 2 * s → k ≠ 2 * s + 1 → c'[k]? = cc[k]? := fun k hk1 hk2 => by
    rw [hp]; simp only [putRow, List.length_cons, List.length_nil]; rw [if_neg (by omega)]
  refine ⟨fun k => (c'[k]?).getD (.int .i64 0), ⟨c', hc', by omega, fun i hi => ?_⟩, fun k hk => ?_, ?_, fun t ht => ?_⟩
  · show c'[i]? = some ((c'[i]?).getD (.int .i64 0))
    rw [Array.getElem?_eq_getElem (by omega)]; rfl
  · show Value.oneCell' ((c'[k]?).getD (.int .i64 0)) = true
    by_cases h1' : k = 2 * s
    · rw [h1', e0]; rfl
    · by_cases h2' : k = 2 * s + 1
      · rw [h2', e1]; rfl
      · rw [e2 k h1' h2', hf k hk]; exact h1 k hk
  · rw [List.take_add_one, hx]
    exact List.nodup_append.2 ⟨hnd, by simp, fun a ha b hb => by simp at hb; subst hb; exact fun e => hn (e ▸ ha)⟩
  · by_cases hts : t = s
    · subst hts
      exact ⟨l, by show (c'[2 * t]?).getD _ = _; rw [e0]; rfl, by rw [take_succ_mem hx]; exact ⟨fun _ => .inr rfl, fun _ => hl⟩⟩
    · obtain ⟨n, hn1, hn2⟩ := hff t ht
      exact ⟨n, by show (c'[2 * t]?).getD _ = _; rw [e2 _ (by omega) (by omega), hf _ (by omega), hn1]; rfl, by rw [take_succ_mem hx, hn2]; exact ⟨.inl, fun h => h.elim id fun e => absurd e hts⟩⟩
theorem OutI.set {w : World} {O b p at' : Nat} {ys : List Nat} {vs : List Value} (h : OutI w.heap O ys at') (hb : O ≠ b) : OutI (setCells w b p vs).heap O ys at' := by
  obtain ⟨f, hP, r⟩ := h
  exact ⟨f, hP.of_eq (setCells_ne hb _ _ _), r⟩
theorem OutI.nil {H : Array Obj} {O : Nat} {ys : List Nat} (h : ArrP H O 35 512 (fun _ => .int .i64 0)) : OutI H O ys 0 :=
  ⟨_, h, fun _ _ => rfl, by simp, fun s _ => ⟨0, rfl, by simp⟩⟩
theorem nodup_le : ∀ (n : Nat) (l : List Nat), (∀ x ∈ l, x < n) → l.Nodup → l.length ≤ n
  | 0, [], _, _ => Nat.le_refl _
  | 0, x :: _, h, _ => absurd (h x (List.mem_cons_self ..)) (by omega)
  | n + 1, l, h, hn => by
    by_cases hm : n ∈ l
    · have h1 := nodup_le n (l.erase n) (fun x hx => by
        have h2 := (List.Nodup.mem_erase_iff hn).1 hx
        have := h x h2.2
        have := h2.1
        omega) (hn.erase n)
      rw [List.length_erase_of_mem hm] at h1
      omega
    · have := nodup_le n l (fun x hx => by
        have := h x hx
        have : x ≠ n := fun e => hm (e ▸ hx)
        omega) hn
      omega
theorem cs_at {cs : List Nat} {i : Nat} (hl : cs.length = 16) (hi : i < 16) : (cs.map u8v).toArray[i]? = some (u8v (cs.getD i 0)) := by
  rw [List.getElem?_toArray, List.getElem?_map, List.getD_eq_getElem?_getD, List.getElem?_eq_getElem (by omega)]; rfl
theorem idx_succ (T : Tab) (i : Nat) : T.idx (i + 1) = T.idx i + T.counts i := rfl
theorem first_succ (T : Tab) (i : Nat) : T.first (i + 1) = (T.first i + T.counts i) * 2 := rfl

theorem wrap_u8' (x : Int) (h : 0 ≤ x) (h2 : x < 256) : IntKind.u8.wrap x = x := by rw [IntKind.wrap_u8]; omega
set_option maxHeartbeats 8000000 in
theorem specCodes_ok {sy : Option Addr} {cy : Nat} {cs ys : List Nat} {T : Tab} {w0 : World} (hT : T = tabOf cs ys) (hSy : SrcH w0.heap sy ys) (hl : ys.length ≤ 2147483647) (hcl : cs.length = 16) (hc : ∀ i, T.counts i < 256) (hy : ∀ y ∈ ys, y < 256) :
    Calls Tryd.prog 9 #[.agg (cs.map u8v).toArray, .slice sy ys.length cy] w0 fun e w' => ∃ (vs : List Value) (ok : Bool), e = .returned (.tuple #[.agg vs.toArray, .bool ok]) ∧ vs.length = 512 ∧ (∀ v ∈ vs, v.oneCell' = true) ∧
      (ok = true → ys.length = T.idx 16 ∧ 0 < ys.length ∧ T.Kraft ∧ ys.Nodup ∧ ∀ s, s < 256 → ∃ n : Nat, vs[2 * s]? = some (.int .i64 (n : Nat)) ∧ (n ≠ 0 ↔ s ∈ ys)) ∧ Fr NO w0 w' := by
  have hcT : ∀ i, i < 16 → (cs.map u8v).toArray[i]? = some (u8v (T.counts i)) := fun i hi => by subst hT; exact cs_at hcl hi
  refine callsCT Tryd.func9 rfl rfl rfl ag_35 sz_35 rfl (Nat.le_of_ble_eq_true rfl) fun K hK => ?_
  refine CW_seq fun K1 hK1 => ?_
  refine CW_region rfl ?_
  refine RL_box (fun w' => w'.heap[w0.heap.size]? = some (.cells (cs.map u8v).toArray 30 (0, 0)) ∧ w'.heap.size = w0.heap.size + 1 ∧ Fr NO w0 w') rfl rfl rfl rfl ⟨alloc_get, alloc_size, (Fr.refl _ _).alloc _⟩ ?_
  rintro w ⟨hbx, hsz, hF⟩
  obtain ⟨R, hR⟩ : ∃ R, R = w.heap.size := ⟨_, rfl⟩
  refine RL_alloc (fun w' => w'.heap[w0.heap.size]? = some (.cells (cs.map u8v).toArray 30 (0, 0)) ∧ ArrP w'.heap R 35 512 (fun _ => .int .i64 0) ∧ w'.heap.size = R + 1 ∧ Fr NO w0 w') rfl rfl rfl z35 ⟨(alloc_old (blk_lt hbx)).trans hbx, by rw [hR]; exact new_arr, by rw [alloc_size, hR], hF.alloc _⟩ ?_
  rw [← hR]
  clear hbx hF
  rintro w1 ⟨hbx, hPR, hsz1, hF⟩
  refine RL_v rfl rfl (yd_assign rfl) ?_
  refine RL_nil ?_
  refine hK1 _ _ ?_
  refine CW_seq fun K2 hK2 => ?_
  refine CW_region rfl ?_
  obtain ⟨O, hO⟩ : ∃ O, O = w1.heap.size := ⟨_, rfl⟩
  refine RL_alloc (fun w' => w'.heap[w0.heap.size]? = some (.cells (cs.map u8v).toArray 30 (0, 0)) ∧ ArrP w'.heap R 35 512 (fun _ => .int .i64 0) ∧ ArrP w'.heap O 35 512 (fun _ => .int .i64 0) ∧ Fr NO w0 w') rfl rfl rfl z35 ⟨(alloc_old (blk_lt hbx)).trans hbx, hPR.alloc, by rw [hO]; exact new_arr, hF.alloc _⟩ ?_
  rw [← hO]
  clear hbx hF hPR
  rintro w2 ⟨hbx, hPR, hPO, hF⟩
  refine RL_nil ?_
  refine hK2 _ _ ?_
  refine CW_seq fun K3 hK3 => ?_
  refine CW_region rfl ?_
  refine RL_v rfl rfl (yd_assign rfl) ?_
  refine RL_v rfl rfl (yd_assign rfl) ?_
  refine RL_nil ?_
  refine hK3 _ _ ?_
  refine CW_seq fun K4 hK4 => ?_
  refine CW_seq fun K5 hK5 => ?_
  refine CW_region rfl ?_
  refine RL_v rfl rfl (yd_load_agg (n := 16) rfl ag_30 sz_30 rfl (cs.map u8v) (by rw [List.length_map, hcl]) (fun k v hk => by rw [Nat.zero_add, cell_of_blk hbx, List.getElem?_toArray, hk])) ?_
  refine RL_v rfl rfl (yd_move rfl) ?_
  refine RL_nil ?_
  refine hK5 _ _ ?_
  refine CW_block ?_
  refine CW_loop (n := 16) (fun σ w N => ∃ i : Nat, AtS σ [(1, .slice sy ys.length cy), (4, .pointer (some ⟨R, 0, none⟩)), (5, .bool false), (6, .pointer (some ⟨O, 0, none⟩)), (7, .int .i64 ((T.first i : Nat) : Int)), (8, .int .i64 ((T.idx i : Nat) : Int)), (12, .agg (cs.map u8v).toArray), (13, .int .i64 ((i : Nat) : Int))] ∧ i ≤ 16 ∧ (∀ i', i' < i → T.first i' + T.counts i' < 2 ^ (i' + 1)) ∧ T.first i < 2 ^ (i + 1) ∧ T.idx i ≤ ys.length ∧ ArrP w.heap R 35 512 (fun _ => .int .i64 0) ∧ OutI w.heap O ys (T.idx i) ∧ Fr NO w0 w ∧ N = 16 - i) ?_ ?_
  · exact ⟨0, ⟨rfl, rfl, rfl, rfl, rfl, rfl, rfl, rfl, trivial⟩, by decide, fun i' h => absurd h (by omega), by show 0 < 2; decide, Nat.zero_le _, hPR, OutI.nil hPO, hF, rfl⟩
  · intro σ w N hI K6 hK6
    obtain ⟨i, hσ, hi, hKr, hfi, hidx, hPR, hPO, hF, hN⟩ := hI
    subst hN
    refine CW_at hσ ?_
    clear hσ
    refine CW_seq fun K7 hK7 => ?_
    refine CW_region rfl ?_
    have hi17 : 2 ^ (i + 1) ≤ 131072 := Nat.le_trans (Nat.pow_le_pow_right (by decide) (show i + 1 ≤ 17 by omega)) (by decide)
    by_cases hi16 : i < 16
    · refine RL_v rfl rfl (yd_lt true rfl rfl rfl (decide_eq_true (by omega))) ?_
      refine RL_nil ?_
      refine hK7 _ _ ?_
      refine CW_seq fun K8 hK8 => ?_
      refine CW_t rfl ?_
      refine CW_skip ?_
      refine hK8 _ _ ?_
      refine CW_seq fun K9 hK9 => ?_
      refine CW_block ?_
      refine CW_seq fun K10 hK10 => ?_
      refine CW_region rfl ?_
      refine RL_v rfl rfl (yd_move rfl) ?_
      refine RL_v rfl rfl (yd_index rfl Tryd.underlying30 sz_5 sc_5 rfl rfl i rfl hi16 (hcT i hi16)) ?_
      refine RL_v rfl rfl (yd_assign rfl) ?_
      refine RL_v rfl rfl (yd_assign rfl) ?_
      refine RL_nil ?_
      refine hK10 _ _ ?_
      refine CW_seq fun K11 hK11 => ?_
      refine CW_region rfl ?_
      refine RL_v rfl rfl (yd_move rfl) ?_
      refine RL_v rfl rfl (yd_add64 rfl rfl rfl (by omega)) ?_
      refine RL_v rfl rfl (yd_assign rfl) ?_
      refine RL_nil ?_
      refine hK11 _ _ ?_
      refine CW_seq fun K12 hK12 => ?_
      refine CW_seq fun K13 hK13 => ?_
      refine CW_region rfl ?_
      refine RL_v rfl rfl (yd_move rfl) ?_
      refine RL_v rfl rfl (yd_move rfl) ?_
      refine RL_nil ?_
      refine hK13 _ _ ?_
      refine CW_block ?_
      refine CW_loop (n := T.counts i) (fun σ w N => ∃ j : Nat, AtS σ [(1, .slice sy ys.length cy), (4, .pointer (some ⟨R, 0, none⟩)), (5, .bool false), (6, .pointer (some ⟨O, 0, none⟩)), (7, .int .i64 ((T.first i + j : Nat) : Int)), (8, .int .i64 ((T.idx i + j : Nat) : Int)), (9, .int .i64 ((i : Nat) : Int)), (11, .int .i64 ((i + 1 : Nat) : Int)), (12, .agg (cs.map u8v).toArray), (13, .int .i64 ((i : Nat) : Int)), (19, .int .u8 ((T.counts i : Nat) : Int)), (20, .int .u8 ((j : Nat) : Int))] ∧ j ≤ T.counts i ∧ T.first i + j < 2 ^ (i + 1) ∧ T.idx i + j ≤ ys.length ∧ ArrP w.heap R 35 512 (fun _ => .int .i64 0) ∧ OutI w.heap O ys (T.idx i + j) ∧ Fr NO w0 w ∧ N = T.counts i - j) ?_ ?_
      · exact ⟨0, ⟨rfl, rfl, rfl, rfl, rfl, rfl, rfl, rfl, rfl, rfl, rfl, rfl, trivial⟩, Nat.zero_le _, hfi, hidx, hPR, hPO, hF, rfl⟩
      · intro σ w N hI K14 hK14
        have hc256 := hc i
        obtain ⟨j, hσ, hj, hfj, hatj, hPR, hPO, hF, hN⟩ := hI
        subst hN
        refine CW_at hσ ?_
        clear hσ
        refine CW_seq fun K15 hK15 => ?_
        refine CW_region rfl ?_
        by_cases hjc : j < T.counts i
        · refine RL_v rfl rfl (yd_lt true rfl rfl rfl (decide_eq_true (by omega))) ?_
          refine RL_nil ?_
          refine hK15 _ _ ?_
          refine CW_seq fun K16 hK16 => ?_
          refine CW_t rfl ?_
          refine CW_skip ?_
          refine hK16 _ _ ?_
          refine CW_seq fun K17 hK17 => ?_
          refine CW_block ?_
          refine CW_seq fun K18 hK18 => ?_
          refine CW_seq fun K19 hK19 => ?_
          refine CW_region rfl ?_
          refine RL_v rfl rfl (yd_move rfl) ?_
          refine RL_v rfl rfl (yd_move rfl) ?_
          refine RL_v rfl rfl (yd_len rfl sl_22 rfl) ?_
          by_cases hfull : T.idx i + j = ys.length
          · refine RL_v rfl rfl (yd_eq true rfl rfl rfl (decide_eq_true (by omega))) ?_
            refine RL_v rfl rfl (yd_move rfl) ?_
            refine RL_skip rfl rfl ?_
            refine RL_skip rfl rfl ?_
            refine RL_skip rfl rfl ?_
            refine RL_skip rfl rfl ?_
            refine RL_skip rfl rfl ?_
            refine RL_skip rfl rfl ?_
            refine RL_skip rfl rfl ?_
            refine RL_skip rfl rfl ?_
            refine RL_v rfl rfl (yd_pick rfl rfl) ?_
            refine RL_v rfl rfl (yd_move rfl) ?_
            refine RL_skip rfl rfl ?_
            refine RL_skip rfl rfl ?_
            refine RL_skip rfl rfl ?_
            refine RL_skip rfl rfl ?_
            refine RL_skip rfl rfl ?_
            refine RL_v rfl rfl (yd_pick rfl rfl) ?_
            refine RL_nil ?_
            refine hK19 _ _ ?_
            refine CW_t rfl ?_
            refine CW_seq fun K20 hK20 => ?_
            refine CW_region rfl ?_
            obtain ⟨fO, hPf, hone, hnd, hfO⟩ := id hPO
            refine RL_v rfl rfl (yd_load_agg (n := 512) rfl ag_35 sz_35 rfl (rowL 512 fO) (rowL_length _ _) hPf.row) ?_
            obtain ⟨cR, hcR, hsR, hfR⟩ := id hPR
            refine RL_storeAgg (fun w' => ArrP w'.heap R 35 512 fO ∧ Fr NO w0 w') (p := 0) (n := 512) (vs := rowL 512 fO) rfl rfl rfl sz_35 rfl rfl (rowL_length _ _) hcR (by omega) (fun v hv => by
                obtain ⟨q, hq, rfl⟩ := rowL_mem hv
                exact hone q hq) ⟨hPR.whole (rowL_length _ _) (fun k v h => (rowL_get h).2), Fr.setCells (fun h => absurd h (by omega)) _ _ _ hF⟩ ?_
            rintro w3 ⟨hPR2, hF2⟩
            refine RL_v rfl rfl (yd_assign rfl) ?_
            refine RL_nil ?_
            refine hK20 _ _ ?_
            refine CW_ret ?_
            refine hK _ _ ?_
            refine ⟨R, rowL 512 fO, rfl, rowL_length _ _, hPR2.row, rowL 512 fO, false, rfl, rowL_length _ _, fun v hv => by obtain ⟨q, hq, rfl⟩ := rowL_mem hv; exact hone q hq, (fun h => by cases h), hF2⟩
          · refine RL_v rfl rfl (yd_eq false rfl rfl rfl (decide_eq_false (by omega))) ?_
            refine RL_v rfl rfl (yd_move rfl) ?_
            obtain ⟨s, hys⟩ : ∃ s, ys[T.idx i + j]? = some s := ⟨_, List.getElem?_eq_getElem (by omega)⟩
            have hs256 := hy s (List.mem_of_getElem? hys)
            obtain ⟨b, p, hsab, hcell⟩ := (hSy.fr hF).at' hys
            subst hsab
            obtain ⟨len0, hlen1, hlen2⟩ := hPO.ld hs256
            refine RL_gv rfl rfl (yd_move rfl) ?_
            refine RL_gv rfl rfl (yd_move rfl) ?_
            refine RL_gv rfl rfl (yd_ixs rfl sl_22 rfl rfl (T.idx i + j) (rfl) (by omega)) ?_
            refine RL_gv rfl rfl (yd_load rfl sc_5 rfl (hcell)) ?_
            refine RL_gv rfl rfl (yd_ix rfl at_35 rfl rfl (s) (rfl) (by omega)) ?_
            refine RL_gv rfl rfl (yd_field rfl ft_34_0 rfl) ?_
            refine RL_gv rfl rfl (yd_load rfl sc_3 rfl (hlen1)) ?_
            by_cases hnz : len0 ≠ 0
            · refine RL_gv rfl rfl (yd_ne true rfl rfl rfl (decide_eq_false (by omega))) ?_
              refine RL_v rfl rfl (yd_pick rfl rfl) ?_
              refine RL_v rfl rfl (yd_move rfl) ?_
              refine RL_skip rfl rfl ?_
              refine RL_skip rfl rfl ?_
              refine RL_skip rfl rfl ?_
              refine RL_skip rfl rfl ?_
              refine RL_skip rfl rfl ?_
              refine RL_v rfl rfl (yd_pick rfl rfl) ?_
              refine RL_nil ?_
              refine hK19 _ _ ?_
              refine CW_t rfl ?_
              refine CW_seq fun K21 hK21 => ?_
              refine CW_region rfl ?_
              obtain ⟨fO, hPf, hone, hnd, hfO⟩ := id hPO
              refine RL_v rfl rfl (yd_load_agg (n := 512) rfl ag_35 sz_35 rfl (rowL 512 fO) (rowL_length _ _) hPf.row) ?_
              obtain ⟨cR, hcR, hsR, hfR⟩ := id hPR
              refine RL_storeAgg (fun w' => ArrP w'.heap R 35 512 fO ∧ Fr NO w0 w') (p := 0) (n := 512) (vs := rowL 512 fO) rfl rfl rfl sz_35 rfl rfl (rowL_length _ _) hcR (by omega) (fun v hv => by
                  obtain ⟨q, hq, rfl⟩ := rowL_mem hv
                  exact hone q hq) ⟨hPR.whole (rowL_length _ _) (fun k v h => (rowL_get h).2), Fr.setCells (fun h => absurd h (by omega)) _ _ _ hF⟩ ?_
              rintro w3 ⟨hPR2, hF2⟩
              refine RL_v rfl rfl (yd_assign rfl) ?_
              refine RL_nil ?_
              refine hK21 _ _ ?_
              refine CW_ret ?_
              refine hK _ _ ?_
              refine ⟨R, rowL 512 fO, rfl, rowL_length _ _, hPR2.row, rowL 512 fO, false, rfl, rowL_length _ _, fun v hv => by obtain ⟨q, hq, rfl⟩ := rowL_mem hv; exact hone q hq, (fun h => by cases h), hF2⟩
            · refine RL_gv rfl rfl (yd_ne false rfl rfl rfl (decide_eq_true (by omega))) ?_
              refine RL_v rfl rfl (yd_pick rfl rfl) ?_
              refine RL_v rfl rfl (yd_move rfl) ?_
              refine RL_gv rfl rfl (yd_move rfl) ?_
              refine RL_gv rfl rfl (yd_move rfl) ?_
              refine RL_gv rfl rfl (yd_shl rfl rfl rfl (by omega) ((2 ^ (i + 1) : Nat) : Int) (pow_i64 (i + 1) (by omega))) ?_
              refine RL_gv rfl rfl (yd_sub64 rfl rfl rfl (by omega)) ?_
              by_cases hbig : 2 ^ (i + 1) - 1 ≤ T.first i + j
              · refine RL_gv rfl rfl (yd_ge true rfl rfl rfl (decide_eq_true (by omega))) ?_
                refine RL_v rfl rfl (yd_pick rfl rfl) ?_
                refine RL_nil ?_
                refine hK19 _ _ ?_
                refine CW_t rfl ?_
                refine CW_seq fun K22 hK22 => ?_
                refine CW_region rfl ?_
                obtain ⟨fO, hPf, hone, hnd, hfO⟩ := id hPO
                refine RL_v rfl rfl (yd_load_agg (n := 512) rfl ag_35 sz_35 rfl (rowL 512 fO) (rowL_length _ _) hPf.row) ?_
                obtain ⟨cR, hcR, hsR, hfR⟩ := id hPR
                refine RL_storeAgg (fun w' => ArrP w'.heap R 35 512 fO ∧ Fr NO w0 w') (p := 0) (n := 512) (vs := rowL 512 fO) rfl rfl rfl sz_35 rfl rfl (rowL_length _ _) hcR (by omega) (fun v hv => by
                    obtain ⟨q, hq, rfl⟩ := rowL_mem hv
                    exact hone q hq) ⟨hPR.whole (rowL_length _ _) (fun k v h => (rowL_get h).2), Fr.setCells (fun h => absurd h (by omega)) _ _ _ hF⟩ ?_
                rintro w3 ⟨hPR2, hF2⟩
                refine RL_v rfl rfl (yd_assign rfl) ?_
                refine RL_nil ?_
                refine hK22 _ _ ?_
                refine CW_ret ?_
                refine hK _ _ ?_
                refine ⟨R, rowL 512 fO, rfl, rowL_length _ _, hPR2.row, rowL 512 fO, false, rfl, rowL_length _ _, fun v hv => by obtain ⟨q, hq, rfl⟩ := rowL_mem hv; exact hone q hq, (fun h => by cases h), hF2⟩
              · refine RL_gv rfl rfl (yd_ge false rfl rfl rfl (decide_eq_false (by omega))) ?_
                refine RL_v rfl rfl (yd_pick rfl rfl) ?_
                refine RL_nil ?_
                refine hK19 _ _ ?_
                refine CW_f rfl ?_
                refine CW_skip ?_
                refine hK18 _ _ ?_
                refine CW_seq fun K23 hK23 => ?_
                refine CW_region rfl ?_
                refine RL_v rfl rfl (yd_move rfl) ?_
                refine RL_v rfl rfl (yd_move rfl) ?_
                refine RL_v rfl rfl (yd_ixs rfl sl_22 rfl rfl (T.idx i + j) (rfl) (by omega)) ?_
                refine RL_v rfl rfl (yd_load rfl sc_5 rfl (hcell)) ?_
                refine RL_v rfl rfl (yd_move rfl) ?_
                refine RL_v rfl rfl (yd_move rfl) ?_
                refine RL_v rfl rfl (yd_build rfl rfl b34) ?_
                refine RL_v rfl rfl (yd_ix rfl at_35 rfl rfl (s) (rfl) (by omega)) ?_
                obtain ⟨fO, ⟨cO, hcO, hsO, _⟩, _⟩ := id hPO
                refine RL_storeAgg (fun w' => ArrP w'.heap R 35 512 (fun _ => .int .i64 0) ∧ OutI w'.heap O ys (T.idx i + (j + 1)) ∧ Fr NO w0 w') (p := 0 + s * 2) (n := 2) (vs := [.int .i64 ((i + 1 : Nat) : Int), .int .i64 ((T.first i + j : Nat) : Int)]) rfl rfl rfl sz_34 rfl rfl rfl hcO (by omega) (fun v hv => by simp at hv; rcases hv with rfl | rfl <;> rfl)
                  ⟨hPR.of_eq (setCells_ne (by omega) _ _ _), hPO.put hs256 (by omega) hys (fun h => hnz (hlen2.2 h)), Fr.setCells (fun h => absurd h (by omega)) _ _ _ hF⟩ ?_
                clear hPR hPO hF
                rintro w3 ⟨hPR, hPO, hF⟩
                refine RL_nil ?_
                refine hK23 _ _ ?_
                refine CW_seq fun K24 hK24 => ?_
                refine CW_region rfl ?_
                refine RL_v rfl rfl (yd_move rfl) ?_
                refine RL_v rfl rfl (yd_add64 rfl rfl rfl (by omega)) ?_
                refine RL_v rfl rfl (yd_assign rfl) ?_
                refine RL_nil ?_
                refine hK24 _ _ ?_
                refine CW_region rfl ?_
                refine RL_v rfl rfl (yd_move rfl) ?_
                refine RL_v rfl rfl (yd_add64 rfl rfl rfl (by omega)) ?_
                refine RL_v rfl rfl (yd_assign rfl) ?_
                refine RL_nil ?_
                refine hK17 _ _ ?_
                refine CW_region rfl ?_
                refine RL_v rfl rfl (yd_add rfl rfl rfl ((j + 1 : Nat) : Int) ((wrap_u8' _ (by omega) (by omega)).trans (by omega))) ?_
                refine RL_v rfl rfl (yd_move rfl) ?_
                refine RL_nil ?_
                refine hK14 _ _ ?_
                exact ⟨T.counts i - (j + 1), by omega, j + 1, ⟨rfl, rfl, rfl, rfl, rfl, rfl, rfl, rfl, rfl, rfl, rfl, rfl, trivial⟩, by omega, by omega, by omega, hPR, hPO, hF, rfl⟩
        · refine RL_v rfl rfl (yd_lt false rfl rfl rfl (decide_eq_false (by omega))) ?_
          refine RL_nil ?_
          refine hK15 _ _ ?_
          refine CW_seq fun K25 hK25 => ?_
          refine CW_f rfl ?_
          refine CW_exit rfl ?_
          refine hK12 _ _ ?_
          refine CW_region rfl ?_
          obtain rfl : j = T.counts i := by omega
          refine RL_v rfl rfl (yd_move rfl) ?_
          refine RL_v rfl rfl (yd_shl rfl rfl rfl (by omega) ((T.first (i + 1) : Nat) : Int) ((shl1_i64B (T.first i + T.counts i) (by omega)).trans (by rw [first_succ]))) ?_
          refine RL_v rfl rfl (yd_assign rfl) ?_
          refine RL_nil ?_
          refine hK9 _ _ ?_
          refine CW_region rfl ?_
          refine RL_v rfl rfl (yd_add64 rfl rfl rfl (by omega)) ?_
          refine RL_v rfl rfl (yd_move rfl) ?_
          refine RL_nil ?_
          refine hK6 _ _ ?_
          exact ⟨16 - (i + 1), by omega, i + 1, ⟨rfl, rfl, rfl, rfl, rfl, rfl, rfl, rfl, trivial⟩, by omega, fun i' h => by
              by_cases h' : i' = i
              · subst h'; exact hfj
              · exact hKr i' (by omega), by rw [first_succ, Nat.pow_succ]; omega, hatj, hPR, hPO, hF, rfl⟩
    · refine RL_v rfl rfl (yd_lt false rfl rfl rfl (decide_eq_false (by omega))) ?_
      refine RL_nil ?_
      refine hK7 _ _ ?_
      refine CW_seq fun K26 hK26 => ?_
      refine CW_f rfl ?_
      refine CW_exit rfl ?_
      refine hK4 _ _ ?_
      refine CW_seq fun K27 hK27 => ?_
      refine CW_region rfl ?_
      obtain ⟨fO, hPf, hone, hnd, hfO⟩ := id hPO
      refine RL_v rfl rfl (yd_load_agg (n := 512) rfl ag_35 sz_35 rfl (rowL 512 fO) (rowL_length _ _) hPf.row) ?_
      refine RL_v rfl rfl (yd_move rfl) ?_
      refine RL_v rfl rfl (yd_move rfl) ?_
      refine RL_v rfl rfl (yd_len rfl sl_22 rfl) ?_
      by_cases hat : T.idx i = ys.length
      · refine RL_v rfl rfl (yd_eq true rfl rfl rfl (decide_eq_true (by omega))) ?_
        refine RL_v rfl rfl (yd_move rfl) ?_
        refine RL_gv rfl rfl (yd_move rfl) ?_
        refine RL_gv rfl rfl (yd_gt (decide (0 < T.idx i)) rfl rfl rfl (decide_eq_decide.2 (by omega))) ?_
        have hokk : decide (0 < T.idx i) = true → ys.length = T.idx 16 ∧ 0 < ys.length := fun h => ⟨by rw [show (16 : Nat) = i by omega]; omega, by have := of_decide_eq_true h; omega⟩
        refine RL_v rfl rfl (yd_pick rfl rfl) ?_
        obtain ⟨cR, hcR, hsR, hfR⟩ := id hPR
        refine RL_storeAgg (fun w' => ArrP w'.heap R 35 512 fO ∧ Fr NO w0 w') (p := 0) (n := 512) (vs := rowL 512 fO) rfl rfl rfl sz_35 rfl rfl (rowL_length _ _) hcR (by omega) (fun v hv => by
            obtain ⟨q, hq, rfl⟩ := rowL_mem hv
            exact hone q hq) ⟨hPR.whole (rowL_length _ _) (fun k v h => (rowL_get h).2), Fr.setCells (fun h => absurd h (by omega)) _ _ _ hF⟩ ?_
        rintro w3 ⟨hPR2, hF2⟩
        refine RL_v rfl rfl (yd_assign rfl) ?_
        refine RL_nil ?_
        refine hK27 _ _ ?_
        refine CW_ret ?_
        refine hK _ _ ?_
        refine ⟨R, rowL 512 fO, rfl, rowL_length _ _, hPR2.row, rowL 512 fO, _, rfl, rowL_length _ _, fun v hv => by obtain ⟨q, hq, rfl⟩ := rowL_mem hv; exact hone q hq, fun h => ?_, hF2⟩
        obtain ⟨h1, h2⟩ := hokk h
        obtain rfl : i = 16 := by omega
        have htk : ys.take (T.idx 16) = ys := List.take_of_length_le (by omega)
        rw [htk] at hnd hfO
        exact ⟨h1, h2, hKr, hnd, fun s hs => by obtain ⟨n, hn1, hn2⟩ := hfO s hs; exact ⟨n, by rw [rowL_at (by omega), hn1], hn2⟩⟩
      · refine RL_v rfl rfl (yd_eq false rfl rfl rfl (decide_eq_false (by omega))) ?_
        refine RL_v rfl rfl (yd_move rfl) ?_
        refine RL_skip rfl rfl ?_
        refine RL_skip rfl rfl ?_
        have hokk : false = true → ys.length = T.idx 16 ∧ 0 < ys.length := fun h => by cases h
        refine RL_v rfl rfl (yd_pick rfl rfl) ?_
        obtain ⟨cR, hcR, hsR, hfR⟩ := id hPR
        refine RL_storeAgg (fun w' => ArrP w'.heap R 35 512 fO ∧ Fr NO w0 w') (p := 0) (n := 512) (vs := rowL 512 fO) rfl rfl rfl sz_35 rfl rfl (rowL_length _ _) hcR (by omega) (fun v hv => by
            obtain ⟨q, hq, rfl⟩ := rowL_mem hv
            exact hone q hq) ⟨hPR.whole (rowL_length _ _) (fun k v h => (rowL_get h).2), Fr.setCells (fun h => absurd h (by omega)) _ _ _ hF⟩ ?_
        rintro w3 ⟨hPR2, hF2⟩
        refine RL_v rfl rfl (yd_assign rfl) ?_
        refine RL_nil ?_
        refine hK27 _ _ ?_
        refine CW_ret ?_
        refine hK _ _ ?_
        refine ⟨R, rowL 512 fO, rfl, rowL_length _ _, hPR2.row, rowL 512 fO, _, rfl, rowL_length _ _, fun v hv => by obtain ⟨q, hq, rfl⟩ := rowL_mem hv; exact hone q hq, fun h => ?_, hF2⟩
        obtain ⟨h1, h2⟩ := hokk h
        obtain rfl : i = 16 := by omega
        have htk : ys.take (T.idx 16) = ys := List.take_of_length_le (by omega)
        rw [htk] at hnd hfO
        exact ⟨h1, h2, hKr, hnd, fun s hs => by obtain ⟨n, hn1, hn2⟩ := hfO s hs; exact ⟨n, by rw [rowL_at (by omega), hn1], hn2⟩⟩

end Go.Proofs.YtdjilplpbaackaaDoor.Eng
