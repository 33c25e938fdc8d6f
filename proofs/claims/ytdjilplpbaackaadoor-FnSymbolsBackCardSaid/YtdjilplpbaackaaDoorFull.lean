/- readFull: bytes into the decoder's own cells. -/
import Derived.Test.YtdjilplpbaackaaDoorFullLem
set_option linter.unusedVariables false
set_option linter.unusedSimpArgs false
set_option maxRecDepth 100000
namespace Go.Proofs.YtdjilplpbaackaaDoor.Eng
open Go
set_option maxHeartbeats 1000000 in
theorem readFull_ok {D R : Nat} {e1 e2 : Addr} {Hs : List Nat} {av a m n q len cap : Nat} {ys S' : List Nat} {X : Nat → Option Value} {w0 : World} (hs : Strm w0.heap D R e1 e2 (ys ++ S') Hs 0 av a m n X) (hl : ys.length = len) (hl0 : 0 < len) (hc : len ≤ cap) (hq : 4103 ≤ q) (hx : ∀ k, k < len → (X (q + k)).isSome = true) :
    Calls Tryd.prog 27 #[.pointer (some ⟨D, 0, none⟩), .slice (some ⟨D, q, none⟩) len cap] w0 fun e w' => e = .returned .nilIface ∧ (∃ Hs' av', Strm w'.heap D R e1 e2 S' Hs' 0 av' a m n (putRow X q (ys.map u8v))) ∧ Fr (DR D R) w0 w' := by
  refine calls1 Tryd.func27 rfl rfl rfl rfl (Nat.le_of_ble_eq_true rfl) fun K hK => ?_
  refine CW_seq fun K1 hK1 => ?_
  refine CW_region rfl ?_
  refine RL_v rfl rfl (yd_assign rfl) ?_
  refine RL_nil ?_
  refine hK1 _ _ ?_
  refine CW_seq fun K2 hK2 => ?_
  refine CW_seq fun K3 hK3 => ?_
  refine CW_region rfl ?_
  refine RL_v rfl rfl (yd_move rfl) ?_
  refine RL_v rfl rfl (yd_nil rfl rfl) ?_
  refine RL_v rfl rfl (yd_field rfl ft_100_2 rfl) ?_
  refine RL_v rfl rfl (yd_field rfl ft_79_3 rfl) ?_
  refine RL_v rfl rfl (yd_load rfl sc_3 rfl (hs.ldu)) ?_
  refine RL_v rfl rfl (yd_ne false rfl rfl rfl (decide_eq_true (by omega))) ?_
  refine RL_nil ?_
  refine hK3 _ _ ?_
  refine CW_f rfl ?_
  refine CW_skip ?_
  refine hK2 _ _ ?_
  refine CW_seq fun K4 hK4 => ?_
  refine CW_block ?_
  refine CW_loop (n := (len - 0) + (if av = 0 then 1 else 0)) (fun σ w N => ∃ (k av : Nat) (Hs : List Nat), AtS σ [(0, .pointer (some ⟨D, 0, none⟩)), (1, .slice (some ⟨D, q + k, none⟩) (len - k) (cap - k))] ∧ k < len ∧ Strm w.heap D R e1 e2 (ys.drop k ++ S') Hs 0 av a m n (putRow X q ((ys.take k).map u8v)) ∧ Fr (DR D R) w0 w ∧ N = (len - k) + (if av = 0 then 1 else 0)) ?_ ?_
  · exact ⟨0, av, Hs, ⟨rfl, rfl, trivial⟩, hl0, by rw [List.take_zero, List.map_nil, putRow_nil]; exact hs, Fr.refl _ _, rfl⟩
  · intro σ w N hI K5 hK5
    obtain ⟨k, av, Hs, hσ, hk, hs, hF, hN⟩ := hI
    refine CW_at hσ ?_
    obtain ⟨i, j, buf, xs, pos, h0, hj⟩ := hs
    have hjb := h0.jb
    have hij := h0.ij
    have hsl := h0.len
    rw [List.length_append, List.length_drop, hl] at hsl
    obtain ⟨zs, hzs⟩ : ∃ zs, zs = (ys.drop k).take (j - i) := ⟨_, rfl⟩
    obtain ⟨nn, hnn⟩ : ∃ nn, nn = zs.length := ⟨_, rfl⟩
    have hnl : nn = min (j - i) (len - k) := by rw [hnn, hzs, List.length_take, List.length_drop, hl]
    have hzget : ∀ (t x : Nat), zs[t]? = some x → (ys.drop k ++ S')[t]? = some x := by
      intro t x hx
      rw [hzs, List.getElem?_take] at hx
      split at hx
      · rw [List.getElem?_append_left]
        · exact hx
        · rcases Nat.lt_or_ge t (ys.drop k).length with h | h
          · exact h
          · rw [List.getElem?_eq_none h] at hx; cases hx
      · cases hx
    have htk : ys.take (k + nn) = ys.take k ++ zs := by
      rw [List.take_add, hzs]
      congr 1
      rw [hnl]
      rcases Nat.le_total (j - i) (len - k) with h | h
      · rw [Nat.min_eq_left h]
      · rw [Nat.min_eq_right h, List.take_of_length_le (by rw [List.length_drop, hl]; exact Nat.le_refl _), List.take_of_length_le (by rw [List.length_drop, hl]; exact h)]
    obtain ⟨cD, hcD, hlay⟩ := id h0.dec
    have hfit : q + k + nn ≤ cD.size := by
      have hx1 : ∀ t, t < len → q + t < cD.size := by
        intro t ht
        rcases Nat.lt_or_ge (q + t) cD.size with h | h
        · exact h
        · have h2 := hlay (q + t)
          rw [Array.getElem?_eq_none h] at h2
          have h3 := putRow_some (q := q) (vs := (ys.take k).map u8v) (hx t ht)
          unfold lay at h2
          rw [if_neg (by omega), if_neg (by omega), if_neg (by omega)] at h2
          rw [← h2] at h3; cases h3
      have := hx1 (k + nn - 1) (by omega)
      omega
    refine CW_block ?_
    refine CW_seq fun K6 hK6 => ?_
    refine CW_draw 16 mixed (by kernel_rfl) rfl ?_
    refine RD_v rfl rfl (yd_move rfl) ?_
    refine RD_v rfl rfl (yd_move rfl) ?_
    refine RD_v rfl rfl (yd_nil rfl rfl) ?_
    refine RD_v rfl rfl (yd_field rfl ft_100_2 rfl) ?_
    refine RD_v rfl rfl (yd_field rfl ft_79_0 rfl) ?_
    refine RD_v rfl rfl (yd_move rfl) ?_
    refine RD_v rfl rfl (yd_nil rfl rfl) ?_
    refine RD_v rfl rfl (yd_field rfl ft_100_2 rfl) ?_
    refine RD_v rfl rfl (yd_field rfl ft_79_1 rfl) ?_
    refine RD_v rfl rfl (yd_load rfl sc_3 rfl (h0.dec.ldi)) ?_
    refine RD_v rfl rfl (yd_move rfl) ?_
    refine RD_v rfl rfl (yd_nil rfl rfl) ?_
    refine RD_v rfl rfl (yd_field rfl ft_100_2 rfl) ?_
    refine RD_v rfl rfl (yd_field rfl ft_79_2 rfl) ?_
    refine RD_v rfl rfl (yd_load rfl sc_3 rfl (h0.dec.ldj)) ?_
    refine RD_v rfl rfl (yd_slice_arr (l := i) (h := j) rfl at_78 rfl ⟨_, rfl⟩ ⟨_, rfl⟩ (by omega) (by omega) rfl) ?_
    refine RD_nil ?_
    refine RL_copy (fun w' => Strm0 w'.heap D R e1 e2 (ys.drop k ++ S') Hs i j 0 buf xs pos a m n (putRow X q ((ys.take (k + nn)).map u8v)) ∧ Fr (DR D R) w0 w') rfl rfl rfl sl_22 rfl rfl (zs.map u8v) (by rw [List.length_map, ← hnn, hnl]) ?_ hcD (by rw [List.length_map, ← hnn]; exact hfit) (fun v hv => by rw [List.mem_map] at hv; obtain ⟨y, _, rfl⟩ := hv; rfl) ⟨?_, ?_⟩ ?_
    · rcases Nat.eq_zero_or_pos nn with h | h
      · left; rw [List.eq_nil_of_length_eq_zero (show zs.length = 0 by omega)]; rfl
      · right
        refine ⟨D, 4 + i, by rw [if_neg (by omega)], fun t v hv => ?_⟩
        rw [List.getElem?_map, Option.map_eq_some_iff] at hv
        obtain ⟨x, hx, rfl⟩ := hv
        have htl : t < nn := by
          rcases Nat.lt_or_ge t zs.length with h | h
          · omega
          · rw [List.getElem?_eq_none h] at hx; cases hx
        rw [Nat.add_assoc]
        have := h0.head (k := t) (by omega) (hzget t x hx)
        rw [← this]
        exact h0.dec.ldb (by omega)
    · have h1 : ∀ w2 : World, w2.heap = w.heap → _ := fun w2 hw2 => Strm0.cpyx (w := w2) (hw2.symm ▸ h0) (q := q + k) (vs := zs.map u8v) (by omega) (fun t ht => by
        rw [List.length_map] at ht
        rw [Nat.add_assoc]
        exact putRow_some (hx (k + t) (by omega)))
      have h2 := putRow_app X q ((ys.take k).map u8v) (zs.map u8v)
      rw [List.length_map, List.length_take, hl, Nat.min_eq_left (by omega), ← List.map_append, ← htk] at h2
      rw [h2] at h1
      exact h1 _ rfl
    · exact Fr.setCells (fun _ => .inl rfl) _ _ _ hF
    rintro w ⟨h0, hF⟩
    rw [List.length_map, ← hnn]
    refine RL_v rfl rfl (yd_assign rfl) ?_
    refine RL_nil ?_
    refine hK6 _ _ ?_
    refine CW_seq fun K7 hK7 => ?_
    refine CW_region rfl ?_
    refine RL_v rfl rfl (yd_move rfl) ?_
    refine RL_v rfl rfl (yd_move rfl) ?_
    refine RL_v rfl rfl (yd_slice_lo rfl sl_22 rfl rfl nn rfl (by omega)) ?_
    refine RL_v rfl rfl (yd_assign rfl) ?_
    refine RL_nil ?_
    refine hK7 _ _ ?_
    refine CW_seq fun K8 hK8 => ?_
    refine CW_region rfl ?_
    refine RL_v rfl rfl (yd_move rfl) ?_
    refine RL_v rfl rfl (yd_nil rfl rfl) ?_
    refine RL_v rfl rfl (yd_field rfl ft_100_2 rfl) ?_
    refine RL_v rfl rfl (yd_field rfl ft_79_1 rfl) ?_
    refine RL_v rfl rfl (yd_load rfl sc_3 rfl (h0.dec.ldi)) ?_
    refine RL_v rfl rfl (yd_move rfl) ?_
    refine RL_v rfl rfl (yd_add64 rfl rfl rfl (by omega)) ?_
    refine RL_v rfl rfl (yd_nil rfl rfl) ?_
    refine RL_v rfl rfl (yd_field rfl ft_100_2 rfl) ?_
    refine RL_v rfl rfl (yd_field rfl ft_79_1 rfl) ?_
    refine RL_storeW (fun w' => Strm0 w'.heap D R e1 e2 ((ys.drop k ++ S').drop nn) [] (i + nn) j 0 buf xs pos a m n (putRow X q ((ys.take (k + nn)).map u8v)) ∧ Fr (DR D R) w0 w') rfl rfl rfl sz_3 rfl rfl rfl (h0.dec.ldi) (h0.dec.fz) (⟨h0.skip (by omega) (by omega), hF.set (fun _ => .inl rfl) _⟩) ?_
    rintro w ⟨h0, hF⟩
    refine RL_nil ?_
    refine hK8 _ _ ?_
    refine CW_seq fun K9 hK9 => ?_
    refine CW_seq fun K10 hK10 => ?_
    refine CW_region rfl ?_
    refine RL_v rfl rfl (yd_move rfl) ?_
    refine RL_v rfl rfl (yd_len rfl sl_22 rfl) ?_
    by_cases hz : len - k - nn = 0
    · refine RL_v rfl rfl (yd_eq true rfl rfl rfl (decide_eq_true (by omega))) ?_
      refine RL_nil ?_
      refine hK10 _ _ ?_
      refine CW_t rfl ?_
      refine CW_exit rfl ?_
      refine hK4 _ _ ?_
      refine CW_seq fun K11 hK11 => ?_
      refine CW_region rfl ?_
      refine RL_v rfl rfl (yd_assign rfl) ?_
      refine RL_nil ?_
      refine hK11 _ _ ?_
      refine CW_ret ?_
      refine hK _ _ ?_
      refine ⟨rfl, ⟨[], j - (i + nn), ?_⟩, hF⟩
      rw [show (ys.drop k ++ S').drop nn = S' by rw [List.drop_append, List.length_drop, hl, List.drop_eq_nil_of_le (by rw [List.length_drop, hl]; omega), show nn - (len - k) = 0 by omega]; rfl, show k + nn = len by omega, ← hl, List.take_length] at h0
      exact ⟨i + nn, j, buf, xs, pos, h0, by omega⟩
    · refine RL_v rfl rfl (yd_eq false rfl rfl rfl (decide_eq_false (by omega))) ?_
      refine RL_nil ?_
      refine hK10 _ _ ?_
      refine CW_f rfl ?_
      refine CW_skip ?_
      refine hK9 _ _ ?_
      refine CW_seq fun K12 hK12 => ?_
      refine CW_region rfl ?_
      have hin : i + nn = j := by omega
      have hpl : pos < xs.length := by
        have h1 := h0.sE
        rw [hin, Nat.sub_self, seg_zero, List.nil_append] at h1
        have h2 := congrArg List.length h1
        rw [List.length_drop, List.length_drop, List.length_append, List.length_drop, hl] at h2
        omega
      rw [hin] at h0
      refine RL_v rfl rfl (yd_move rfl) ?_
      refine RL_call rfl rfl rfl en_37 rfl (fill_some h0 hpl) ?_
      rintro _ w1 ⟨rfl, ⟨av1, hav1, hs1⟩, hF1⟩; refine ⟨_, rfl, ?_⟩
      refine RL_v rfl rfl (yd_assign rfl) ?_
      refine RL_nil ?_
      refine hK12 _ _ ?_
      refine CW_seq fun K13 hK13 => ?_
      refine CW_region rfl ?_
      refine RL_v rfl rfl (yd_move rfl) ?_
      refine RL_v rfl rfl (yd_ne_nil' rfl if_65 rfl) ?_
      refine RL_nil ?_
      refine hK13 _ _ ?_
      refine CW_f rfl ?_
      refine CW_skip ?_
      refine hK5 _ _ ?_
      refine ⟨len - (k + nn) + 0, ?_, k + nn, av1, [], ⟨rfl, ?_, trivial⟩, by omega, ?_, hF1.trans' hF, ?_⟩
      · rw [hN]; split <;> omega
      · show Value.slice (some ⟨D, if cap - k = nn then q + k else q + k + nn, none⟩) (len - k - nn) (cap - k - nn) = _
        rw [if_neg (by omega), Nat.sub_sub, Nat.sub_sub, Nat.add_assoc]
      · rw [List.drop_append, List.drop_drop, show nn - (ys.drop k).length = 0 by rw [List.length_drop, hl]; omega, List.drop_zero] at hs1
        exact hs1
      · rw [if_neg (by omega)]

end Go.Proofs.YtdjilplpbaackaaDoor.Eng
