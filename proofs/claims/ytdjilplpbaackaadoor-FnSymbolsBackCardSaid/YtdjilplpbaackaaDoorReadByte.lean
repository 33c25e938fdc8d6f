/- readByte: the next byte, or the reader's end. -/
import Derived.Test.YtdjilplpbaackaaDoorFill
set_option linter.unusedVariables false
set_option linter.unusedSimpArgs false
set_option maxRecDepth 100000
namespace Go.Proofs.YtdjilplpbaackaaDoor.Eng
open Go
theorem readByte_eof {D R : Nat} {e1 e2 : Addr} {S Hs : List Nat} {u av a m n : Nat} {X : Nat → Option Value} {w0 : World} (hs : Strm w0.heap D R e1 e2 [] Hs u av a m n X) :
    Calls Tryd.prog 41 #[.pointer (some ⟨D, 0, none⟩)] w0 fun e w' => e = .returned (.tuple #[.int .u8 0, .iface 175 (.pointer (some e1))]) ∧ Strm w'.heap D R e1 e2 [] Hs u 0 a m n X ∧ Fr (DR D R) w0 w' := by
  refine calls2 Tryd.func41 rfl rfl rfl rfl (Nat.le_of_ble_eq_true rfl) fun K hK => ?_
  refine CW_seq fun K1 hK1 => ?_
  refine CW_region rfl ?_
  refine RL_v rfl rfl (yd_assign rfl) ?_
  refine RL_v rfl rfl (yd_assign rfl) ?_
  refine RL_nil ?_
  refine hK1 _ _ ?_
  refine CW_seq fun K2 hK2 => ?_
  refine CW_block ?_
  refine CW_loop (n := (if av = 0 then 1 else 0)) (fun σ w N => AtS σ [(0, .pointer (some ⟨D, 0, none⟩))] ∧ ∃ av, Strm w.heap D R e1 e2 [] Hs u av a m n X ∧ Fr (DR D R) w0 w ∧ N = (if av = 0 then 1 else 0)) ?_ ?_
  · exact ⟨⟨rfl, trivial⟩, av, hs, Fr.refl _ _, rfl⟩
  · intro σ w N hI K3 hK3
    obtain ⟨hσ, av, hs, hF, hN⟩ := hI
    refine CW_at hσ ?_
    obtain ⟨i, j, buf, xs, pos, h0, hj⟩ := hs
    have hD := h0.dec
    have hjb := h0.jb
    obtain ⟨wb, hwb⟩ : ∃ wb, wb = w := ⟨_, rfl⟩
    have hsE := h0.sE
    rw [hj, show i + av - i = av by omega] at hsE
    have hav : av = 0 := by
      rcases Nat.eq_zero_or_pos av with h | h
      · exact h
      · obtain ⟨av', rfl⟩ : ∃ k, av = k + 1 := ⟨av - 1, by omega⟩
        rw [seg_succ] at hsE; cases hsE
    have hji : j = i := by omega
    have hpe : pos = xs.length := by
      rw [hav, seg_zero, List.nil_append] at hsE
      have h1 := h0.pb
      have h2 : (xs.drop pos).length = 0 := by rw [← hsE]; rfl
      rw [List.length_drop] at h2; omega
    refine CW_seq fun K4 hK4 => ?_
    refine CW_seq fun K5 hK5 => ?_
    refine CW_draw 10 mixed (by kernel_rfl) rfl ?_
    refine RD_v rfl rfl (yd_move rfl) ?_
    refine RD_v rfl rfl (yd_nil rfl rfl) ?_
    refine RD_v rfl rfl (yd_field rfl ft_100_2 rfl) ?_
    refine RD_v rfl rfl (yd_field rfl ft_79_1 rfl) ?_
    refine RD_v rfl rfl (yd_load rfl sc_3 rfl (hD.ldi)) ?_
    refine RD_v rfl rfl (yd_move rfl) ?_
    refine RD_v rfl rfl (yd_nil rfl rfl) ?_
    refine RD_v rfl rfl (yd_field rfl ft_100_2 rfl) ?_
    refine RD_v rfl rfl (yd_field rfl ft_79_2 rfl) ?_
    refine RD_v rfl rfl (yd_load rfl sc_3 rfl (hD.ldj)) ?_
    refine RD_nil ?_
    refine RL_v rfl rfl (yd_eq true rfl rfl rfl (decide_eq_true (by omega))) ?_
    refine RL_nil ?_
    refine hK5 _ _ ?_
    refine CW_t rfl ?_
    refine CW_skip ?_
    refine hK4 _ _ ?_
    refine CW_block ?_
    refine CW_seq fun K6 hK6 => ?_
    refine CW_region rfl ?_
    refine RL_v rfl rfl (yd_move rfl) ?_
    refine RL_call rfl rfl rfl en_37 rfl (fill_eof (j := i) (by have e : j = i := (by omega); rw [e] at h0; exact h0) hpe) ?_
    rintro _ w1 ⟨rfl, hs1, hF1⟩; refine ⟨_, rfl, ?_⟩
    refine RL_v rfl rfl (yd_assign rfl) ?_
    refine RL_nil ?_
    refine hK6 _ _ ?_
    refine CW_seq fun K7 hK7 => ?_
    refine CW_region rfl ?_
    refine RL_v rfl rfl (yd_move rfl) ?_
    refine RL_v rfl rfl (yd_ne_nil rfl if_65 rfl) ?_
    refine RL_nil ?_
    refine hK7 _ _ ?_
    refine CW_t rfl ?_
    refine CW_seq fun K8 hK8 => ?_
    refine CW_region rfl ?_
    refine RL_v rfl rfl (yd_move rfl) ?_
    refine RL_v rfl rfl (yd_assign rfl) ?_
    refine RL_v rfl rfl (yd_assign rfl) ?_
    refine RL_nil ?_
    refine hK8 _ _ ?_
    refine CW_ret ?_
    refine hK _ _ ?_
    exact ⟨rfl, hs1, hF1.trans' hF⟩

theorem readByte_ok {D R : Nat} {e1 e2 : Addr} {S Hs : List Nat} {u av a m n : Nat} {X : Nat → Option Value} {w0 : World} {x : Nat} (hs : Strm w0.heap D R e1 e2 (x :: S) Hs u av a m n X) :
    Calls Tryd.prog 41 #[.pointer (some ⟨D, 0, none⟩)] w0 fun e w' => e = .returned (.tuple #[u8v x, .nilIface]) ∧ (∃ av', Strm w'.heap D R e1 e2 S (x :: Hs.take 1) 0 av' a m n X) ∧ Fr (DR D R) w0 w' := by
  refine calls2 Tryd.func41 rfl rfl rfl rfl (Nat.le_of_ble_eq_true rfl) fun K hK => ?_
  refine CW_seq fun K1 hK1 => ?_
  refine CW_region rfl ?_
  refine RL_v rfl rfl (yd_assign rfl) ?_
  refine RL_v rfl rfl (yd_assign rfl) ?_
  refine RL_nil ?_
  refine hK1 _ _ ?_
  refine CW_seq fun K2 hK2 => ?_
  refine CW_block ?_
  refine CW_loop (n := (if av = 0 then 1 else 0)) (fun σ w N => AtS σ [(0, .pointer (some ⟨D, 0, none⟩))] ∧ ∃ av, Strm w.heap D R e1 e2 (x :: S) Hs u av a m n X ∧ Fr (DR D R) w0 w ∧ N = (if av = 0 then 1 else 0)) ?_ ?_
  · exact ⟨⟨rfl, trivial⟩, av, hs, Fr.refl _ _, rfl⟩
  · intro σ w N hI K3 hK3
    obtain ⟨hσ, av, hs, hF, hN⟩ := hI
    refine CW_at hσ ?_
    obtain ⟨i, j, buf, xs, pos, h0, hj⟩ := hs
    have hD := h0.dec
    have hjb := h0.jb
    obtain ⟨wb, hwb⟩ : ∃ wb, wb = w := ⟨_, rfl⟩
    have hsE := h0.sE
    rw [hj, show i + av - i = av by omega] at hsE
    have hlt : av = 0 → pos < xs.length := by
      intro hav
      rw [hav, seg_zero, List.nil_append] at hsE
      rcases Nat.lt_or_ge pos xs.length with h | h
      · exact h
      · rw [List.drop_eq_nil_of_le h] at hsE; cases hsE
    have hxi : av ≠ 0 → buf i = x ∧ S = seg buf (i + 1) (av - 1) ++ xs.drop pos := by
      intro hav
      obtain ⟨av', rfl⟩ : ∃ k, av = k + 1 := ⟨av - 1, by omega⟩
      rw [seg_succ, List.cons_append] at hsE
      injection hsE with h1 h2
      exact ⟨h1.symm, h2⟩
    have hfin : ∀ (w' : World), av ≠ 0 → DecP w'.heap D R a m n (i + 1) j 0 buf X → Fr (DR D R) w0 w' → (∀ k, k ≠ D → w'.heap[k]? = wb.heap[k]?) →
        Ending.returned (.tuple #[.int .u8 (buf i : Int), .nilIface]) = .returned (.tuple #[u8v x, .nilIface]) ∧ (∃ av', Strm w'.heap D R e1 e2 S (x :: Hs.take 1) 0 av' a m n X) ∧ Fr (DR D R) w0 w' := by
      intro w' hav hD' hF' hk'
      obtain ⟨h1, h2⟩ := hxi hav
      refine ⟨by rw [h1]; rfl, ⟨av - 1, i + 1, j, buf, xs, pos, ⟨hD', ?_, ?_, h0.ne, h0.dlo, h0.rlo, by omega, hjb, h0.pb, h0.xb, ?_, ?_, ?_, ?_, ?_⟩, by omega⟩, hF'⟩
      · exact h0.rdr.keep' h0.ne fun k hk => (hk' k hk).trans (by rw [hwb])
      · have h3 := h0.dlo
        exact h0.glob.keep ((hk' 1 (by omega)).trans (by rw [hwb])) ((hk' 2 (by omega)).trans (by rw [hwb]))
      · rw [h2, hj, show i + av - (i + 1) = av - 1 by omega]
      · simp; omega
      · have := h0.hi; simp; omega
      · intro k y hy
        cases k with
        | zero => simp at hy; rw [← hy, ← h1]; congr 1
        | succ k =>
          rw [List.getElem?_cons_succ, List.getElem?_take] at hy
          split at hy
          · have := h0.hb k y hy; rw [← this]; congr 1; omega
          · cases hy
      · exact Nat.zero_le _
    refine CW_seq fun K4 hK4 => ?_
    refine CW_seq fun K5 hK5 => ?_
    refine CW_draw 10 mixed (by kernel_rfl) rfl ?_
    refine RD_v rfl rfl (yd_move rfl) ?_
    refine RD_v rfl rfl (yd_nil rfl rfl) ?_
    refine RD_v rfl rfl (yd_field rfl ft_100_2 rfl) ?_
    refine RD_v rfl rfl (yd_field rfl ft_79_1 rfl) ?_
    refine RD_v rfl rfl (yd_load rfl sc_3 rfl (hD.ldi)) ?_
    refine RD_v rfl rfl (yd_move rfl) ?_
    refine RD_v rfl rfl (yd_nil rfl rfl) ?_
    refine RD_v rfl rfl (yd_field rfl ft_100_2 rfl) ?_
    refine RD_v rfl rfl (yd_field rfl ft_79_2 rfl) ?_
    refine RD_v rfl rfl (yd_load rfl sc_3 rfl (hD.ldj)) ?_
    refine RD_nil ?_
    by_cases hav : av = 0
    · refine RL_v rfl rfl (yd_eq true rfl rfl rfl (decide_eq_true (by omega))) ?_
      refine RL_nil ?_
      refine hK5 _ _ ?_
      refine CW_t rfl ?_
      refine CW_skip ?_
      refine hK4 _ _ ?_
      refine CW_block ?_
      refine CW_seq fun K6 hK6 => ?_
      refine CW_region rfl ?_
      refine RL_v rfl rfl (yd_move rfl) ?_
      refine RL_call rfl rfl rfl en_37 rfl (fill_some (j := i) (by have e : j = i := (by omega); rw [e] at h0; exact h0) (hlt hav)) ?_
      rintro _ w1 ⟨rfl, ⟨av1, hav1, hs1⟩, hF1⟩; refine ⟨_, rfl, ?_⟩
      refine RL_v rfl rfl (yd_assign rfl) ?_
      refine RL_nil ?_
      refine hK6 _ _ ?_
      refine CW_seq fun K7 hK7 => ?_
      refine CW_region rfl ?_
      refine RL_v rfl rfl (yd_move rfl) ?_
      refine RL_v rfl rfl (yd_ne_nil' rfl if_65 rfl) ?_
      refine RL_nil ?_
      refine hK7 _ _ ?_
      refine CW_f rfl ?_
      refine CW_skip ?_
      refine hK3 _ _ ?_
      exact ⟨0, by rw [hN, if_pos hav]; omega, ⟨rfl, trivial⟩, av1, hs1, hF1.trans' hF, by rw [if_neg (by omega)]⟩
    · refine RL_v rfl rfl (yd_eq false rfl rfl rfl (decide_eq_false (by omega))) ?_
      refine RL_nil ?_
      refine hK5 _ _ ?_
      refine CW_f rfl ?_
      refine CW_exit rfl ?_
      refine hK2 _ _ ?_
      refine CW_seq fun K8 hK8 => ?_
      refine CW_draw 9 mixed (by kernel_rfl) rfl ?_
      refine RD_v rfl rfl (yd_move rfl) ?_
      refine RD_v rfl rfl (yd_move rfl) ?_
      refine RD_v rfl rfl (yd_nil rfl rfl) ?_
      refine RD_v rfl rfl (yd_field rfl ft_100_2 rfl) ?_
      refine RD_v rfl rfl (yd_field rfl ft_79_1 rfl) ?_
      refine RD_v rfl rfl (yd_load rfl sc_3 rfl (hD.ldi)) ?_
      refine RD_v rfl rfl (yd_nil rfl rfl) ?_
      refine RD_v rfl rfl (yd_field rfl ft_100_2 rfl) ?_
      refine RD_v rfl rfl (yd_field rfl ft_79_0 rfl) ?_
      refine RD_nil ?_
      refine RL_v rfl rfl (yd_ix1 rfl at_78 rfl rfl (i) (rfl) (by omega)) ?_
      refine RL_v rfl rfl (yd_load rfl sc_5 rfl (hD.ldb (k := i) (by omega))) ?_
      refine RL_v rfl rfl (yd_assign rfl) ?_
      refine RL_nil ?_
      refine hK8 _ _ ?_
      refine CW_seq fun K9 hK9 => ?_
      refine CW_region rfl ?_
      refine RL_v rfl rfl (yd_move rfl) ?_
      refine RL_v rfl rfl (yd_nil rfl rfl) ?_
      refine RL_v rfl rfl (yd_field rfl ft_100_2 rfl) ?_
      refine RL_v rfl rfl (yd_field rfl ft_79_1 rfl) ?_
      refine RL_v rfl rfl (yd_load rfl sc_3 rfl (hD.ldi)) ?_
      refine RL_v rfl rfl (yd_add64 rfl rfl rfl (by omega)) ?_
      refine RL_v rfl rfl (yd_nil rfl rfl) ?_
      refine RL_v rfl rfl (yd_field rfl ft_100_2 rfl) ?_
      refine RL_v rfl rfl (yd_field rfl ft_79_1 rfl) ?_
      refine RL_storeW (fun w' => DecP w'.heap D R a m n (i + 1) j u buf X ∧ (∀ k, k ≠ D → w'.heap[k]? = wb.heap[k]?) ∧ Fr (DR D R) w0 w') rfl rfl rfl sz_3 rfl rfl rfl (hD.ldi) (hD.fz) (⟨hD.seti (by omega), fun k hk => (set_blk_ne hk _).trans (by subst hwb; rfl), hF.set (fun _ => .inl rfl) _⟩) ?_
      rintro w ⟨hD, hk0, hF⟩
      refine RL_nil ?_
      refine hK9 _ _ ?_
      refine CW_seq fun K10 hK10 => ?_
      refine CW_region rfl ?_
      refine RL_v rfl rfl (yd_move rfl) ?_
      refine RL_v rfl rfl (yd_nil rfl rfl) ?_
      refine RL_v rfl rfl (yd_field rfl ft_100_2 rfl) ?_
      refine RL_v rfl rfl (yd_field rfl ft_79_3 rfl) ?_
      refine RL_storeW (fun w' => DecP w'.heap D R a m n (i + 1) j 0 buf X ∧ (∀ k, k ≠ D → w'.heap[k]? = wb.heap[k]?) ∧ Fr (DR D R) w0 w') rfl rfl rfl sz_3 rfl rfl rfl (hD.ldu) (hD.fz) (⟨hD.setu (rfl), fun k hk => (set_blk_ne hk _).trans (hk0 k hk), hF.set (fun _ => .inl rfl) _⟩) ?_
      rintro w ⟨hD, hk0, hF⟩
      refine RL_nil ?_
      refine hK10 _ _ ?_
      refine CW_seq fun K11 hK11 => ?_
      refine CW_region rfl ?_
      refine RL_v rfl rfl (yd_move rfl) ?_
      refine RL_v rfl rfl (yd_assign rfl) ?_
      refine RL_v rfl rfl (yd_assign rfl) ?_
      refine RL_nil ?_
      refine hK11 _ _ ?_
      refine CW_ret ?_
      refine hK _ _ ?_
      exact hfin w hav hD hF hk0

end Go.Proofs.YtdjilplpbaackaaDoor.Eng
