/- readByteStuffedByte, case by case. -/
import Derived.Test.YtdjilplpbaackaaDoorStrmOps
set_option linter.unusedVariables false
set_option linter.unusedSimpArgs false
set_option maxRecDepth 100000
namespace Go.Proofs.YtdjilplpbaackaaDoor.Eng
open Go
theorem rbs_A {D R : Nat} {e1 e2 : Addr} {S Hs : List Nat} {u av a m n : Nat} {X : Nat → Option Value} {w0 : World} {x : Nat} (hx : x ≠ 255) (hs : Strm w0.heap D R e1 e2 (x :: S) Hs u av a m n X) :
    Calls Tryd.prog 38 #[.pointer (some ⟨D, 0, none⟩)] w0 fun e w' => e = .returned (.tuple #[u8v x, .nilIface]) ∧ (∃ Hs' u' av', Strm w'.heap D R e1 e2 S Hs' u' av' a m n X) ∧ Fr (DR D R) w0 w' := by
  obtain ⟨i, j, buf, xs, pos, h0, hj⟩ := id hs
  have hF := Fr.refl (DR D R) w0
  have hjb := h0.jb
  have hij := h0.ij
  refine calls2 Tryd.func38 rfl rfl rfl rfl (Nat.le_of_ble_eq_true rfl) fun K hK => ?_
  refine CW_seq fun K1 hK1 => ?_
  refine CW_region rfl ?_
  refine RL_v rfl rfl (yd_assign rfl) ?_
  refine RL_v rfl rfl (yd_assign rfl) ?_
  refine RL_nil ?_
  refine hK1 _ _ ?_
  refine CW_seq fun K2 hK2 => ?_
  refine CW_seq fun K3 hK3 => ?_
  refine CW_draw 11 mixed (by kernel_rfl) rfl ?_
  refine RD_v rfl rfl (yd_move rfl) ?_
  refine RD_v rfl rfl (yd_nil rfl rfl) ?_
  refine RD_v rfl rfl (yd_field rfl ft_100_2 rfl) ?_
  refine RD_v rfl rfl (yd_field rfl ft_79_1 rfl) ?_
  refine RD_v rfl rfl (yd_load rfl sc_3 rfl (h0.dec.ldi)) ?_
  refine RD_v rfl rfl (yd_add64 rfl rfl rfl (by omega)) ?_
  refine RD_v rfl rfl (yd_move rfl) ?_
  refine RD_v rfl rfl (yd_nil rfl rfl) ?_
  refine RD_v rfl rfl (yd_field rfl ft_100_2 rfl) ?_
  refine RD_v rfl rfl (yd_field rfl ft_79_2 rfl) ?_
  refine RD_v rfl rfl (yd_load rfl sc_3 rfl (h0.dec.ldj)) ?_
  refine RD_nil ?_
  by_cases hfast : i + 2 ≤ j
  · refine RL_v rfl rfl (yd_le true rfl rfl rfl (decide_eq_true (by omega))) ?_
    refine RL_nil ?_
    refine hK3 _ _ ?_
    refine CW_t rfl ?_
    refine CW_seq fun K4 hK4 => ?_
    refine CW_draw 9 mixed (by kernel_rfl) rfl ?_
    refine RD_v rfl rfl (yd_move rfl) ?_
    refine RD_v rfl rfl (yd_move rfl) ?_
    refine RD_v rfl rfl (yd_nil rfl rfl) ?_
    refine RD_v rfl rfl (yd_field rfl ft_100_2 rfl) ?_
    refine RD_v rfl rfl (yd_field rfl ft_79_1 rfl) ?_
    refine RD_v rfl rfl (yd_load rfl sc_3 rfl (h0.dec.ldi)) ?_
    refine RD_v rfl rfl (yd_nil rfl rfl) ?_
    refine RD_v rfl rfl (yd_field rfl ft_100_2 rfl) ?_
    refine RD_v rfl rfl (yd_field rfl ft_79_0 rfl) ?_
    refine RD_nil ?_
    refine RL_v rfl rfl (yd_ix1 rfl at_78 rfl rfl (i) (rfl) (by omega)) ?_
    refine RL_v rfl rfl (yd_load rfl sc_5 rfl ((h0.dec.ldb (k := i) (by omega)).trans (by rw [(h0.adv (by omega)).1]))) ?_
    refine RL_v rfl rfl (yd_assign rfl) ?_
    refine RL_nil ?_
    refine hK4 _ _ ?_
    refine CW_seq fun K5 hK5 => ?_
    refine CW_region rfl ?_
    refine RL_v rfl rfl (yd_move rfl) ?_
    refine RL_v rfl rfl (yd_nil rfl rfl) ?_
    refine RL_v rfl rfl (yd_field rfl ft_100_2 rfl) ?_
    refine RL_v rfl rfl (yd_field rfl ft_79_1 rfl) ?_
    refine RL_v rfl rfl (yd_load rfl sc_3 rfl (h0.dec.ldi)) ?_
    refine RL_v rfl rfl (yd_add64 rfl rfl rfl (by omega)) ?_
    refine RL_v rfl rfl (yd_nil rfl rfl) ?_
    refine RL_v rfl rfl (yd_field rfl ft_100_2 rfl) ?_
    refine RL_v rfl rfl (yd_field rfl ft_79_1 rfl) ?_
    refine RL_storeW (fun w' => Strm0 w'.heap D R e1 e2 S (x :: Hs.take 1) (i + 1) j u buf xs pos a m n X ∧ Fr (DR D R) w0 w') rfl rfl rfl sz_3 rfl rfl rfl (h0.dec.ldi) (h0.dec.fz) (⟨(h0.adv (by omega)).2 _ (by omega), hF.set (fun _ => .inl rfl) _⟩) ?_
    rintro w ⟨h0, hF⟩
    refine RL_nil ?_
    refine hK5 _ _ ?_
    refine CW_seq fun K6 hK6 => ?_
    refine CW_region rfl ?_
    refine RL_v rfl rfl (yd_move rfl) ?_
    refine RL_v rfl rfl (yd_nil rfl rfl) ?_
    refine RL_v rfl rfl (yd_field rfl ft_100_2 rfl) ?_
    refine RL_v rfl rfl (yd_field rfl ft_79_3 rfl) ?_
    refine RL_storeW (fun w' => Strm0 w'.heap D R e1 e2 S (x :: Hs.take 1) (i + 1) j 1 buf xs pos a m n X ∧ Fr (DR D R) w0 w') rfl rfl rfl sz_3 rfl rfl rfl (h0.dec.ldu) (h0.dec.fz) (⟨h0.setu rfl (by simp), hF.set (fun _ => .inl rfl) _⟩) ?_
    rintro w ⟨h0, hF⟩
    refine RL_nil ?_
    refine hK6 _ _ ?_
    refine CW_seq fun K7 hK7 => ?_
    refine CW_seq fun K8 hK8 => ?_
    refine CW_region rfl ?_
    refine RL_v rfl rfl (yd_move rfl) ?_
    refine RL_v rfl rfl (yd_ne true rfl rfl rfl (decide_eq_false (by omega))) ?_
    refine RL_nil ?_
    refine hK8 _ _ ?_
    refine CW_t rfl ?_
    refine CW_seq fun K9 hK9 => ?_
    refine CW_region rfl ?_
    refine RL_v rfl rfl (yd_move rfl) ?_
    refine RL_v rfl rfl (yd_move rfl) ?_
    refine RL_v rfl rfl (yd_assign rfl) ?_
    refine RL_v rfl rfl (yd_assign rfl) ?_
    refine RL_nil ?_
    refine hK9 _ _ ?_
    refine CW_ret ?_
    refine hK _ _ ?_
    exact ⟨rfl, ⟨_, _, j - (i + 1), _, _, _, _, _, h0, by omega⟩, hF⟩
  · refine RL_v rfl rfl (yd_le false rfl rfl rfl (decide_eq_false (by omega))) ?_
    refine RL_nil ?_
    refine hK3 _ _ ?_
    refine CW_f rfl ?_
    refine CW_skip ?_
    refine hK2 _ _ ?_
    refine CW_seq fun K10 hK10 => ?_
    refine CW_region rfl ?_
    refine RL_v rfl rfl (yd_move rfl) ?_
    refine RL_v rfl rfl (yd_nil rfl rfl) ?_
    refine RL_v rfl rfl (yd_field rfl ft_100_2 rfl) ?_
    refine RL_v rfl rfl (yd_field rfl ft_79_3 rfl) ?_
    refine RL_storeW (fun w' => Strm w'.heap D R e1 e2 (x :: S) Hs 0 av a m n X ∧ Fr (DR D R) w0 w') rfl rfl rfl sz_3 rfl rfl rfl (hs.ldu) (hs.fz) (⟨hs.setu rfl (by simp), hF.set (fun _ => .inl rfl) _⟩) ?_
    rintro w ⟨hs, hF⟩
    refine RL_nil ?_
    refine hK10 _ _ ?_
    refine CW_seq fun K11 hK11 => ?_
    refine CW_region rfl ?_
    refine RL_v rfl rfl (yd_move rfl) ?_
    refine RL_call rfl rfl rfl en_41 rfl (readByte_ok hs) ?_
    rintro _ w1 ⟨rfl, ⟨av1, hs⟩, hF1⟩; refine ⟨_, rfl, ?_⟩; replace hF := hF1.trans' hF
    refine RL_v rfl rfl (yd_move rfl) ?_
    refine RL_v rfl rfl (yd_extract rfl rfl rfl) ?_
    refine RL_v rfl rfl (yd_extract rfl rfl rfl) ?_
    refine RL_v rfl rfl (yd_assign rfl) ?_
    refine RL_v rfl rfl (yd_assign rfl) ?_
    refine RL_nil ?_
    refine hK11 _ _ ?_
    refine CW_seq fun K12 hK12 => ?_
    refine CW_seq fun K13 hK13 => ?_
    refine CW_region rfl ?_
    refine RL_v rfl rfl (yd_move rfl) ?_
    refine RL_v rfl rfl (yd_ne_nil' rfl if_65 rfl) ?_
    refine RL_nil ?_
    refine hK13 _ _ ?_
    refine CW_f rfl ?_
    refine CW_skip ?_
    refine hK12 _ _ ?_
    refine CW_seq fun K14 hK14 => ?_
    refine CW_region rfl ?_
    refine RL_v rfl rfl (yd_move rfl) ?_
    refine RL_v rfl rfl (yd_nil rfl rfl) ?_
    refine RL_v rfl rfl (yd_field rfl ft_100_2 rfl) ?_
    refine RL_v rfl rfl (yd_field rfl ft_79_3 rfl) ?_
    refine RL_storeW (fun w' => Strm w'.heap D R e1 e2 S (x :: Hs.take 1) 1 av1 a m n X ∧ Fr (DR D R) w0 w') rfl rfl rfl sz_3 rfl rfl rfl (hs.ldu) (hs.fz) (⟨hs.setu rfl (by simp), hF.set (fun _ => .inl rfl) _⟩) ?_
    rintro w ⟨hs, hF⟩
    refine RL_nil ?_
    refine hK14 _ _ ?_
    refine CW_seq fun K15 hK15 => ?_
    refine CW_seq fun K16 hK16 => ?_
    refine CW_region rfl ?_
    refine RL_v rfl rfl (yd_move rfl) ?_
    refine RL_v rfl rfl (yd_ne true rfl rfl rfl (decide_eq_false (by omega))) ?_
    refine RL_nil ?_
    refine hK16 _ _ ?_
    refine CW_t rfl ?_
    refine CW_seq fun K17 hK17 => ?_
    refine CW_region rfl ?_
    refine RL_v rfl rfl (yd_move rfl) ?_
    refine RL_v rfl rfl (yd_assign rfl) ?_
    refine RL_v rfl rfl (yd_assign rfl) ?_
    refine RL_nil ?_
    refine hK17 _ _ ?_
    refine CW_ret ?_
    refine hK _ _ ?_
    exact ⟨rfl, ⟨_, _, _, hs⟩, hF⟩

theorem rbs_B {D R : Nat} {e1 e2 : Addr} {S Hs : List Nat} {u av a m n : Nat} {X : Nat → Option Value} {w0 : World} (hs : Strm w0.heap D R e1 e2 (255 :: 0 :: S) Hs u av a m n X) :
    Calls Tryd.prog 38 #[.pointer (some ⟨D, 0, none⟩)] w0 fun e w' => e = .returned (.tuple #[u8v 255, .nilIface]) ∧ (∃ Hs' u' av', Strm w'.heap D R e1 e2 S Hs' u' av' a m n X) ∧ Fr (DR D R) w0 w' := by
  obtain ⟨i, j, buf, xs, pos, h0, hj⟩ := id hs
  have hF := Fr.refl (DR D R) w0
  have hjb := h0.jb
  have hij := h0.ij
  refine calls2 Tryd.func38 rfl rfl rfl rfl (Nat.le_of_ble_eq_true rfl) fun K hK => ?_
  refine CW_seq fun K1 hK1 => ?_
  refine CW_region rfl ?_
  refine RL_v rfl rfl (yd_assign rfl) ?_
  refine RL_v rfl rfl (yd_assign rfl) ?_
  refine RL_nil ?_
  refine hK1 _ _ ?_
  refine CW_seq fun K2 hK2 => ?_
  refine CW_seq fun K3 hK3 => ?_
  refine CW_draw 11 mixed (by kernel_rfl) rfl ?_
  refine RD_v rfl rfl (yd_move rfl) ?_
  refine RD_v rfl rfl (yd_nil rfl rfl) ?_
  refine RD_v rfl rfl (yd_field rfl ft_100_2 rfl) ?_
  refine RD_v rfl rfl (yd_field rfl ft_79_1 rfl) ?_
  refine RD_v rfl rfl (yd_load rfl sc_3 rfl (h0.dec.ldi)) ?_
  refine RD_v rfl rfl (yd_add64 rfl rfl rfl (by omega)) ?_
  refine RD_v rfl rfl (yd_move rfl) ?_
  refine RD_v rfl rfl (yd_nil rfl rfl) ?_
  refine RD_v rfl rfl (yd_field rfl ft_100_2 rfl) ?_
  refine RD_v rfl rfl (yd_field rfl ft_79_2 rfl) ?_
  refine RD_v rfl rfl (yd_load rfl sc_3 rfl (h0.dec.ldj)) ?_
  refine RD_nil ?_
  by_cases hfast : i + 2 ≤ j
  · refine RL_v rfl rfl (yd_le true rfl rfl rfl (decide_eq_true (by omega))) ?_
    refine RL_nil ?_
    refine hK3 _ _ ?_
    refine CW_t rfl ?_
    refine CW_seq fun K4 hK4 => ?_
    refine CW_draw 9 mixed (by kernel_rfl) rfl ?_
    refine RD_v rfl rfl (yd_move rfl) ?_
    refine RD_v rfl rfl (yd_move rfl) ?_
    refine RD_v rfl rfl (yd_nil rfl rfl) ?_
    refine RD_v rfl rfl (yd_field rfl ft_100_2 rfl) ?_
    refine RD_v rfl rfl (yd_field rfl ft_79_1 rfl) ?_
    refine RD_v rfl rfl (yd_load rfl sc_3 rfl (h0.dec.ldi)) ?_
    refine RD_v rfl rfl (yd_nil rfl rfl) ?_
    refine RD_v rfl rfl (yd_field rfl ft_100_2 rfl) ?_
    refine RD_v rfl rfl (yd_field rfl ft_79_0 rfl) ?_
    refine RD_nil ?_
    refine RL_v rfl rfl (yd_ix1 rfl at_78 rfl rfl (i) (rfl) (by omega)) ?_
    refine RL_v rfl rfl (yd_load rfl sc_5 rfl ((h0.dec.ldb (k := i) (by omega)).trans (by rw [(h0.adv (by omega)).1]))) ?_
    refine RL_v rfl rfl (yd_assign rfl) ?_
    refine RL_nil ?_
    refine hK4 _ _ ?_
    refine CW_seq fun K5 hK5 => ?_
    refine CW_region rfl ?_
    refine RL_v rfl rfl (yd_move rfl) ?_
    refine RL_v rfl rfl (yd_nil rfl rfl) ?_
    refine RL_v rfl rfl (yd_field rfl ft_100_2 rfl) ?_
    refine RL_v rfl rfl (yd_field rfl ft_79_1 rfl) ?_
    refine RL_v rfl rfl (yd_load rfl sc_3 rfl (h0.dec.ldi)) ?_
    refine RL_v rfl rfl (yd_add64 rfl rfl rfl (by omega)) ?_
    refine RL_v rfl rfl (yd_nil rfl rfl) ?_
    refine RL_v rfl rfl (yd_field rfl ft_100_2 rfl) ?_
    refine RL_v rfl rfl (yd_field rfl ft_79_1 rfl) ?_
    refine RL_storeW (fun w' => Strm0 w'.heap D R e1 e2 (0 :: S) (255 :: Hs.take 1) (i + 1) j u buf xs pos a m n X ∧ Fr (DR D R) w0 w') rfl rfl rfl sz_3 rfl rfl rfl (h0.dec.ldi) (h0.dec.fz) (⟨(h0.adv (by omega)).2 _ (by omega), hF.set (fun _ => .inl rfl) _⟩) ?_
    rintro w ⟨h0, hF⟩
    refine RL_nil ?_
    refine hK5 _ _ ?_
    refine CW_seq fun K6 hK6 => ?_
    refine CW_region rfl ?_
    refine RL_v rfl rfl (yd_move rfl) ?_
    refine RL_v rfl rfl (yd_nil rfl rfl) ?_
    refine RL_v rfl rfl (yd_field rfl ft_100_2 rfl) ?_
    refine RL_v rfl rfl (yd_field rfl ft_79_3 rfl) ?_
    refine RL_storeW (fun w' => Strm0 w'.heap D R e1 e2 (0 :: S) (255 :: Hs.take 1) (i + 1) j 1 buf xs pos a m n X ∧ Fr (DR D R) w0 w') rfl rfl rfl sz_3 rfl rfl rfl (h0.dec.ldu) (h0.dec.fz) (⟨h0.setu rfl (by simp), hF.set (fun _ => .inl rfl) _⟩) ?_
    rintro w ⟨h0, hF⟩
    refine RL_nil ?_
    refine hK6 _ _ ?_
    refine CW_seq fun K7 hK7 => ?_
    refine CW_seq fun K8 hK8 => ?_
    refine CW_region rfl ?_
    refine RL_v rfl rfl (yd_move rfl) ?_
    refine RL_v rfl rfl (yd_ne false rfl rfl rfl (decide_eq_true (by omega))) ?_
    refine RL_nil ?_
    refine hK8 _ _ ?_
    refine CW_f rfl ?_
    refine CW_skip ?_
    refine hK7 _ _ ?_
    refine CW_seq fun K9 hK9 => ?_
    refine CW_seq fun K10 hK10 => ?_
    refine CW_draw 9 mixed (by kernel_rfl) rfl ?_
    refine RD_v rfl rfl (yd_move rfl) ?_
    refine RD_v rfl rfl (yd_move rfl) ?_
    refine RD_v rfl rfl (yd_nil rfl rfl) ?_
    refine RD_v rfl rfl (yd_field rfl ft_100_2 rfl) ?_
    refine RD_v rfl rfl (yd_field rfl ft_79_1 rfl) ?_
    refine RD_v rfl rfl (yd_load rfl sc_3 rfl (h0.dec.ldi)) ?_
    refine RD_v rfl rfl (yd_nil rfl rfl) ?_
    refine RD_v rfl rfl (yd_field rfl ft_100_2 rfl) ?_
    refine RD_v rfl rfl (yd_field rfl ft_79_0 rfl) ?_
    refine RD_nil ?_
    refine RL_v rfl rfl (yd_ix1 rfl at_78 rfl rfl (i + 1) (by omega) (by omega)) ?_
    refine RL_v rfl rfl (yd_load rfl sc_5 rfl ((h0.dec.ldb (k := i + 1) (by omega)).trans (by rw [(h0.adv (by omega)).1]))) ?_
    refine RL_v rfl rfl (yd_ne false rfl rfl rfl (decide_eq_true (by omega))) ?_
    refine RL_nil ?_
    refine hK10 _ _ ?_
    refine CW_f rfl ?_
    refine CW_skip ?_
    refine hK9 _ _ ?_
    refine CW_seq fun K11 hK11 => ?_
    refine CW_region rfl ?_
    refine RL_v rfl rfl (yd_move rfl) ?_
    refine RL_v rfl rfl (yd_nil rfl rfl) ?_
    refine RL_v rfl rfl (yd_field rfl ft_100_2 rfl) ?_
    refine RL_v rfl rfl (yd_field rfl ft_79_1 rfl) ?_
    refine RL_v rfl rfl (yd_load rfl sc_3 rfl (h0.dec.ldi)) ?_
    refine RL_v rfl rfl (yd_add64 rfl rfl rfl (by omega)) ?_
    refine RL_v rfl rfl (yd_nil rfl rfl) ?_
    refine RL_v rfl rfl (yd_field rfl ft_100_2 rfl) ?_
    refine RL_v rfl rfl (yd_field rfl ft_79_1 rfl) ?_
    refine RL_storeW (fun w' => Strm0 w'.heap D R e1 e2 S (0 :: (255 :: Hs.take 1).take 1) (i + 1 + 1) j 1 buf xs pos a m n X ∧ Fr (DR D R) w0 w') rfl rfl rfl sz_3 rfl rfl rfl (h0.dec.ldi) (h0.dec.fz) (⟨(h0.adv (by omega)).2 _ (by omega), hF.set (fun _ => .inl rfl) _⟩) ?_
    rintro w ⟨h0, hF⟩
    refine RL_nil ?_
    refine hK11 _ _ ?_
    refine CW_seq fun K12 hK12 => ?_
    refine CW_region rfl ?_
    refine RL_v rfl rfl (yd_move rfl) ?_
    refine RL_v rfl rfl (yd_nil rfl rfl) ?_
    refine RL_v rfl rfl (yd_field rfl ft_100_2 rfl) ?_
    refine RL_v rfl rfl (yd_field rfl ft_79_3 rfl) ?_
    refine RL_storeW (fun w' => Strm0 w'.heap D R e1 e2 S (0 :: (255 :: Hs.take 1).take 1) (i + 1 + 1) j 2 buf xs pos a m n X ∧ Fr (DR D R) w0 w') rfl rfl rfl sz_3 rfl rfl rfl (h0.dec.ldu) (h0.dec.fz) (⟨h0.setu rfl (by simp), hF.set (fun _ => .inl rfl) _⟩) ?_
    rintro w ⟨h0, hF⟩
    refine RL_nil ?_
    refine hK12 _ _ ?_
    refine CW_seq fun K13 hK13 => ?_
    refine CW_region rfl ?_
    refine RL_v rfl rfl (yd_assign rfl) ?_
    refine RL_v rfl rfl (yd_assign rfl) ?_
    refine RL_nil ?_
    refine hK13 _ _ ?_
    refine CW_ret ?_
    refine hK _ _ ?_
    exact ⟨rfl, ⟨_, _, j - (i + 1 + 1), _, _, _, _, _, h0, by omega⟩, hF⟩
  · refine RL_v rfl rfl (yd_le false rfl rfl rfl (decide_eq_false (by omega))) ?_
    refine RL_nil ?_
    refine hK3 _ _ ?_
    refine CW_f rfl ?_
    refine CW_skip ?_
    refine hK2 _ _ ?_
    refine CW_seq fun K14 hK14 => ?_
    refine CW_region rfl ?_
    refine RL_v rfl rfl (yd_move rfl) ?_
    refine RL_v rfl rfl (yd_nil rfl rfl) ?_
    refine RL_v rfl rfl (yd_field rfl ft_100_2 rfl) ?_
    refine RL_v rfl rfl (yd_field rfl ft_79_3 rfl) ?_
    refine RL_storeW (fun w' => Strm w'.heap D R e1 e2 (255 :: 0 :: S) Hs 0 av a m n X ∧ Fr (DR D R) w0 w') rfl rfl rfl sz_3 rfl rfl rfl (hs.ldu) (hs.fz) (⟨hs.setu rfl (by simp), hF.set (fun _ => .inl rfl) _⟩) ?_
    rintro w ⟨hs, hF⟩
    refine RL_nil ?_
    refine hK14 _ _ ?_
    refine CW_seq fun K15 hK15 => ?_
    refine CW_region rfl ?_
    refine RL_v rfl rfl (yd_move rfl) ?_
    refine RL_call rfl rfl rfl en_41 rfl (readByte_ok hs) ?_
    rintro _ w1 ⟨rfl, ⟨av1, hs⟩, hF1⟩; refine ⟨_, rfl, ?_⟩; replace hF := hF1.trans' hF
    refine RL_v rfl rfl (yd_move rfl) ?_
    refine RL_v rfl rfl (yd_extract rfl rfl rfl) ?_
    refine RL_v rfl rfl (yd_extract rfl rfl rfl) ?_
    refine RL_v rfl rfl (yd_assign rfl) ?_
    refine RL_v rfl rfl (yd_assign rfl) ?_
    refine RL_nil ?_
    refine hK15 _ _ ?_
    refine CW_seq fun K16 hK16 => ?_
    refine CW_seq fun K17 hK17 => ?_
    refine CW_region rfl ?_
    refine RL_v rfl rfl (yd_move rfl) ?_
    refine RL_v rfl rfl (yd_ne_nil' rfl if_65 rfl) ?_
    refine RL_nil ?_
    refine hK17 _ _ ?_
    refine CW_f rfl ?_
    refine CW_skip ?_
    refine hK16 _ _ ?_
    refine CW_seq fun K18 hK18 => ?_
    refine CW_region rfl ?_
    refine RL_v rfl rfl (yd_move rfl) ?_
    refine RL_v rfl rfl (yd_nil rfl rfl) ?_
    refine RL_v rfl rfl (yd_field rfl ft_100_2 rfl) ?_
    refine RL_v rfl rfl (yd_field rfl ft_79_3 rfl) ?_
    refine RL_storeW (fun w' => Strm w'.heap D R e1 e2 (0 :: S) (255 :: Hs.take 1) 1 av1 a m n X ∧ Fr (DR D R) w0 w') rfl rfl rfl sz_3 rfl rfl rfl (hs.ldu) (hs.fz) (⟨hs.setu rfl (by simp), hF.set (fun _ => .inl rfl) _⟩) ?_
    rintro w ⟨hs, hF⟩
    refine RL_nil ?_
    refine hK18 _ _ ?_
    refine CW_seq fun K19 hK19 => ?_
    refine CW_seq fun K20 hK20 => ?_
    refine CW_region rfl ?_
    refine RL_v rfl rfl (yd_move rfl) ?_
    refine RL_v rfl rfl (yd_ne false rfl rfl rfl (decide_eq_true (by omega))) ?_
    refine RL_nil ?_
    refine hK20 _ _ ?_
    refine CW_f rfl ?_
    refine CW_skip ?_
    refine hK19 _ _ ?_
    refine CW_seq fun K21 hK21 => ?_
    refine CW_region rfl ?_
    refine RL_v rfl rfl (yd_move rfl) ?_
    refine RL_call rfl rfl rfl en_41 rfl (readByte_ok hs) ?_
    rintro _ w1 ⟨rfl, ⟨av1, hs⟩, hF1⟩; refine ⟨_, rfl, ?_⟩; replace hF := hF1.trans' hF
    refine RL_v rfl rfl (yd_move rfl) ?_
    refine RL_v rfl rfl (yd_extract rfl rfl rfl) ?_
    refine RL_v rfl rfl (yd_extract rfl rfl rfl) ?_
    refine RL_v rfl rfl (yd_assign rfl) ?_
    refine RL_v rfl rfl (yd_assign rfl) ?_
    refine RL_nil ?_
    refine hK21 _ _ ?_
    refine CW_seq fun K22 hK22 => ?_
    refine CW_seq fun K23 hK23 => ?_
    refine CW_region rfl ?_
    refine RL_v rfl rfl (yd_move rfl) ?_
    refine RL_v rfl rfl (yd_ne_nil' rfl if_65 rfl) ?_
    refine RL_nil ?_
    refine hK23 _ _ ?_
    refine CW_f rfl ?_
    refine CW_skip ?_
    refine hK22 _ _ ?_
    refine CW_seq fun K24 hK24 => ?_
    refine CW_region rfl ?_
    refine RL_v rfl rfl (yd_move rfl) ?_
    refine RL_v rfl rfl (yd_nil rfl rfl) ?_
    refine RL_v rfl rfl (yd_field rfl ft_100_2 rfl) ?_
    refine RL_v rfl rfl (yd_field rfl ft_79_3 rfl) ?_
    refine RL_storeW (fun w' => Strm w'.heap D R e1 e2 S (0 :: (255 :: Hs.take 1).take 1) 2 av1 a m n X ∧ Fr (DR D R) w0 w') rfl rfl rfl sz_3 rfl rfl rfl (hs.ldu) (hs.fz) (⟨hs.setu rfl (by simp), hF.set (fun _ => .inl rfl) _⟩) ?_
    rintro w ⟨hs, hF⟩
    refine RL_nil ?_
    refine hK24 _ _ ?_
    refine CW_seq fun K25 hK25 => ?_
    refine CW_seq fun K26 hK26 => ?_
    refine CW_region rfl ?_
    refine RL_v rfl rfl (yd_move rfl) ?_
    refine RL_v rfl rfl (yd_ne false rfl rfl rfl (decide_eq_true (by omega))) ?_
    refine RL_nil ?_
    refine hK26 _ _ ?_
    refine CW_f rfl ?_
    refine CW_skip ?_
    refine hK25 _ _ ?_
    refine CW_seq fun K27 hK27 => ?_
    refine CW_region rfl ?_
    refine RL_v rfl rfl (yd_assign rfl) ?_
    refine RL_v rfl rfl (yd_assign rfl) ?_
    refine RL_nil ?_
    refine hK27 _ _ ?_
    refine CW_ret ?_
    refine hK _ _ ?_
    exact ⟨rfl, ⟨_, _, _, hs⟩, hF⟩

theorem rbs_C {D R : Nat} {e1 e2 : Addr} {S Hs : List Nat} {u av a m n : Nat} {X : Nat → Option Value} {w0 : World} {y : Nat} (hy : y ≠ 0) (hs : Strm w0.heap D R e1 e2 (255 :: y :: S) Hs u av a m n X) :
    Calls Tryd.prog 38 #[.pointer (some ⟨D, 0, none⟩)] w0 fun e w' => e = .returned (.tuple #[.int .u8 0, .iface 105 (.string missing)]) ∧ (∃ S' Hs' u' av', Strm w'.heap D R e1 e2 S' Hs' u' av' a m n X ∧ (Hs'.take u').reverse ++ S' = (255 :: y :: S)) ∧ Fr (DR D R) w0 w' := by
  obtain ⟨i, j, buf, xs, pos, h0, hj⟩ := id hs
  have hF := Fr.refl (DR D R) w0
  have hjb := h0.jb
  have hij := h0.ij
  refine calls2 Tryd.func38 rfl rfl rfl rfl (Nat.le_of_ble_eq_true rfl) fun K hK => ?_
  refine CW_seq fun K1 hK1 => ?_
  refine CW_region rfl ?_
  refine RL_v rfl rfl (yd_assign rfl) ?_
  refine RL_v rfl rfl (yd_assign rfl) ?_
  refine RL_nil ?_
  refine hK1 _ _ ?_
  refine CW_seq fun K2 hK2 => ?_
  refine CW_seq fun K3 hK3 => ?_
  refine CW_draw 11 mixed (by kernel_rfl) rfl ?_
  refine RD_v rfl rfl (yd_move rfl) ?_
  refine RD_v rfl rfl (yd_nil rfl rfl) ?_
  refine RD_v rfl rfl (yd_field rfl ft_100_2 rfl) ?_
  refine RD_v rfl rfl (yd_field rfl ft_79_1 rfl) ?_
  refine RD_v rfl rfl (yd_load rfl sc_3 rfl (h0.dec.ldi)) ?_
  refine RD_v rfl rfl (yd_add64 rfl rfl rfl (by omega)) ?_
  refine RD_v rfl rfl (yd_move rfl) ?_
  refine RD_v rfl rfl (yd_nil rfl rfl) ?_
  refine RD_v rfl rfl (yd_field rfl ft_100_2 rfl) ?_
  refine RD_v rfl rfl (yd_field rfl ft_79_2 rfl) ?_
  refine RD_v rfl rfl (yd_load rfl sc_3 rfl (h0.dec.ldj)) ?_
  refine RD_nil ?_
  by_cases hfast : i + 2 ≤ j
  · refine RL_v rfl rfl (yd_le true rfl rfl rfl (decide_eq_true (by omega))) ?_
    refine RL_nil ?_
    refine hK3 _ _ ?_
    refine CW_t rfl ?_
    refine CW_seq fun K4 hK4 => ?_
    refine CW_draw 9 mixed (by kernel_rfl) rfl ?_
    refine RD_v rfl rfl (yd_move rfl) ?_
    refine RD_v rfl rfl (yd_move rfl) ?_
    refine RD_v rfl rfl (yd_nil rfl rfl) ?_
    refine RD_v rfl rfl (yd_field rfl ft_100_2 rfl) ?_
    refine RD_v rfl rfl (yd_field rfl ft_79_1 rfl) ?_
    refine RD_v rfl rfl (yd_load rfl sc_3 rfl (h0.dec.ldi)) ?_
    refine RD_v rfl rfl (yd_nil rfl rfl) ?_
    refine RD_v rfl rfl (yd_field rfl ft_100_2 rfl) ?_
    refine RD_v rfl rfl (yd_field rfl ft_79_0 rfl) ?_
    refine RD_nil ?_
    refine RL_v rfl rfl (yd_ix1 rfl at_78 rfl rfl (i) (rfl) (by omega)) ?_
    refine RL_v rfl rfl (yd_load rfl sc_5 rfl ((h0.dec.ldb (k := i) (by omega)).trans (by rw [(h0.adv (by omega)).1]))) ?_
    refine RL_v rfl rfl (yd_assign rfl) ?_
    refine RL_nil ?_
    refine hK4 _ _ ?_
    refine CW_seq fun K5 hK5 => ?_
    refine CW_region rfl ?_
    refine RL_v rfl rfl (yd_move rfl) ?_
    refine RL_v rfl rfl (yd_nil rfl rfl) ?_
    refine RL_v rfl rfl (yd_field rfl ft_100_2 rfl) ?_
    refine RL_v rfl rfl (yd_field rfl ft_79_1 rfl) ?_
    refine RL_v rfl rfl (yd_load rfl sc_3 rfl (h0.dec.ldi)) ?_
    refine RL_v rfl rfl (yd_add64 rfl rfl rfl (by omega)) ?_
    refine RL_v rfl rfl (yd_nil rfl rfl) ?_
    refine RL_v rfl rfl (yd_field rfl ft_100_2 rfl) ?_
    refine RL_v rfl rfl (yd_field rfl ft_79_1 rfl) ?_
    refine RL_storeW (fun w' => Strm0 w'.heap D R e1 e2 (y :: S) (255 :: Hs.take 1) (i + 1) j u buf xs pos a m n X ∧ Fr (DR D R) w0 w') rfl rfl rfl sz_3 rfl rfl rfl (h0.dec.ldi) (h0.dec.fz) (⟨(h0.adv (by omega)).2 _ (by omega), hF.set (fun _ => .inl rfl) _⟩) ?_
    rintro w ⟨h0, hF⟩
    refine RL_nil ?_
    refine hK5 _ _ ?_
    refine CW_seq fun K6 hK6 => ?_
    refine CW_region rfl ?_
    refine RL_v rfl rfl (yd_move rfl) ?_
    refine RL_v rfl rfl (yd_nil rfl rfl) ?_
    refine RL_v rfl rfl (yd_field rfl ft_100_2 rfl) ?_
    refine RL_v rfl rfl (yd_field rfl ft_79_3 rfl) ?_
    refine RL_storeW (fun w' => Strm0 w'.heap D R e1 e2 (y :: S) (255 :: Hs.take 1) (i + 1) j 1 buf xs pos a m n X ∧ Fr (DR D R) w0 w') rfl rfl rfl sz_3 rfl rfl rfl (h0.dec.ldu) (h0.dec.fz) (⟨h0.setu rfl (by simp), hF.set (fun _ => .inl rfl) _⟩) ?_
    rintro w ⟨h0, hF⟩
    refine RL_nil ?_
    refine hK6 _ _ ?_
    refine CW_seq fun K7 hK7 => ?_
    refine CW_seq fun K8 hK8 => ?_
    refine CW_region rfl ?_
    refine RL_v rfl rfl (yd_move rfl) ?_
    refine RL_v rfl rfl (yd_ne false rfl rfl rfl (decide_eq_true (by omega))) ?_
    refine RL_nil ?_
    refine hK8 _ _ ?_
    refine CW_f rfl ?_
    refine CW_skip ?_
    refine hK7 _ _ ?_
    refine CW_seq fun K9 hK9 => ?_
    refine CW_seq fun K10 hK10 => ?_
    refine CW_draw 9 mixed (by kernel_rfl) rfl ?_
    refine RD_v rfl rfl (yd_move rfl) ?_
    refine RD_v rfl rfl (yd_move rfl) ?_
    refine RD_v rfl rfl (yd_nil rfl rfl) ?_
    refine RD_v rfl rfl (yd_field rfl ft_100_2 rfl) ?_
    refine RD_v rfl rfl (yd_field rfl ft_79_1 rfl) ?_
    refine RD_v rfl rfl (yd_load rfl sc_3 rfl (h0.dec.ldi)) ?_
    refine RD_v rfl rfl (yd_nil rfl rfl) ?_
    refine RD_v rfl rfl (yd_field rfl ft_100_2 rfl) ?_
    refine RD_v rfl rfl (yd_field rfl ft_79_0 rfl) ?_
    refine RD_nil ?_
    refine RL_v rfl rfl (yd_ix1 rfl at_78 rfl rfl (i + 1) (by omega) (by omega)) ?_
    refine RL_v rfl rfl (yd_load rfl sc_5 rfl ((h0.dec.ldb (k := i + 1) (by omega)).trans (by rw [(h0.adv (by omega)).1]))) ?_
    refine RL_v rfl rfl (yd_ne true rfl rfl rfl (decide_eq_false (by omega))) ?_
    refine RL_nil ?_
    refine hK10 _ _ ?_
    refine CW_t rfl ?_
    refine CW_seq fun K11 hK11 => ?_
    refine CW_region rfl ?_
    refine RL_v rfl rfl (yd_mki rfl un_105 nf_105) ?_
    refine RL_v rfl rfl (yd_assign rfl) ?_
    refine RL_v rfl rfl (yd_assign rfl) ?_
    refine RL_nil ?_
    refine hK11 _ _ ?_
    refine CW_ret ?_
    refine hK _ _ ?_
    exact ⟨rfl, ⟨_, _, _, j - (i + 1), ⟨_, _, _, _, _, h0, by omega⟩, rfl⟩, hF⟩
  · refine RL_v rfl rfl (yd_le false rfl rfl rfl (decide_eq_false (by omega))) ?_
    refine RL_nil ?_
    refine hK3 _ _ ?_
    refine CW_f rfl ?_
    refine CW_skip ?_
    refine hK2 _ _ ?_
    refine CW_seq fun K12 hK12 => ?_
    refine CW_region rfl ?_
    refine RL_v rfl rfl (yd_move rfl) ?_
    refine RL_v rfl rfl (yd_nil rfl rfl) ?_
    refine RL_v rfl rfl (yd_field rfl ft_100_2 rfl) ?_
    refine RL_v rfl rfl (yd_field rfl ft_79_3 rfl) ?_
    refine RL_storeW (fun w' => Strm w'.heap D R e1 e2 (255 :: y :: S) Hs 0 av a m n X ∧ Fr (DR D R) w0 w') rfl rfl rfl sz_3 rfl rfl rfl (hs.ldu) (hs.fz) (⟨hs.setu rfl (by simp), hF.set (fun _ => .inl rfl) _⟩) ?_
    rintro w ⟨hs, hF⟩
    refine RL_nil ?_
    refine hK12 _ _ ?_
    refine CW_seq fun K13 hK13 => ?_
    refine CW_region rfl ?_
    refine RL_v rfl rfl (yd_move rfl) ?_
    refine RL_call rfl rfl rfl en_41 rfl (readByte_ok hs) ?_
    rintro _ w1 ⟨rfl, ⟨av1, hs⟩, hF1⟩; refine ⟨_, rfl, ?_⟩; replace hF := hF1.trans' hF
    refine RL_v rfl rfl (yd_move rfl) ?_
    refine RL_v rfl rfl (yd_extract rfl rfl rfl) ?_
    refine RL_v rfl rfl (yd_extract rfl rfl rfl) ?_
    refine RL_v rfl rfl (yd_assign rfl) ?_
    refine RL_v rfl rfl (yd_assign rfl) ?_
    refine RL_nil ?_
    refine hK13 _ _ ?_
    refine CW_seq fun K14 hK14 => ?_
    refine CW_seq fun K15 hK15 => ?_
    refine CW_region rfl ?_
    refine RL_v rfl rfl (yd_move rfl) ?_
    refine RL_v rfl rfl (yd_ne_nil' rfl if_65 rfl) ?_
    refine RL_nil ?_
    refine hK15 _ _ ?_
    refine CW_f rfl ?_
    refine CW_skip ?_
    refine hK14 _ _ ?_
    refine CW_seq fun K16 hK16 => ?_
    refine CW_region rfl ?_
    refine RL_v rfl rfl (yd_move rfl) ?_
    refine RL_v rfl rfl (yd_nil rfl rfl) ?_
    refine RL_v rfl rfl (yd_field rfl ft_100_2 rfl) ?_
    refine RL_v rfl rfl (yd_field rfl ft_79_3 rfl) ?_
    refine RL_storeW (fun w' => Strm w'.heap D R e1 e2 (y :: S) (255 :: Hs.take 1) 1 av1 a m n X ∧ Fr (DR D R) w0 w') rfl rfl rfl sz_3 rfl rfl rfl (hs.ldu) (hs.fz) (⟨hs.setu rfl (by simp), hF.set (fun _ => .inl rfl) _⟩) ?_
    rintro w ⟨hs, hF⟩
    refine RL_nil ?_
    refine hK16 _ _ ?_
    refine CW_seq fun K17 hK17 => ?_
    refine CW_seq fun K18 hK18 => ?_
    refine CW_region rfl ?_
    refine RL_v rfl rfl (yd_move rfl) ?_
    refine RL_v rfl rfl (yd_ne false rfl rfl rfl (decide_eq_true (by omega))) ?_
    refine RL_nil ?_
    refine hK18 _ _ ?_
    refine CW_f rfl ?_
    refine CW_skip ?_
    refine hK17 _ _ ?_
    refine CW_seq fun K19 hK19 => ?_
    refine CW_region rfl ?_
    refine RL_v rfl rfl (yd_move rfl) ?_
    refine RL_call rfl rfl rfl en_41 rfl (readByte_ok hs) ?_
    rintro _ w1 ⟨rfl, ⟨av1, hs⟩, hF1⟩; refine ⟨_, rfl, ?_⟩; replace hF := hF1.trans' hF
    refine RL_v rfl rfl (yd_move rfl) ?_
    refine RL_v rfl rfl (yd_extract rfl rfl rfl) ?_
    refine RL_v rfl rfl (yd_extract rfl rfl rfl) ?_
    refine RL_v rfl rfl (yd_assign rfl) ?_
    refine RL_v rfl rfl (yd_assign rfl) ?_
    refine RL_nil ?_
    refine hK19 _ _ ?_
    refine CW_seq fun K20 hK20 => ?_
    refine CW_seq fun K21 hK21 => ?_
    refine CW_region rfl ?_
    refine RL_v rfl rfl (yd_move rfl) ?_
    refine RL_v rfl rfl (yd_ne_nil' rfl if_65 rfl) ?_
    refine RL_nil ?_
    refine hK21 _ _ ?_
    refine CW_f rfl ?_
    refine CW_skip ?_
    refine hK20 _ _ ?_
    refine CW_seq fun K22 hK22 => ?_
    refine CW_region rfl ?_
    refine RL_v rfl rfl (yd_move rfl) ?_
    refine RL_v rfl rfl (yd_nil rfl rfl) ?_
    refine RL_v rfl rfl (yd_field rfl ft_100_2 rfl) ?_
    refine RL_v rfl rfl (yd_field rfl ft_79_3 rfl) ?_
    refine RL_storeW (fun w' => Strm w'.heap D R e1 e2 S (y :: (255 :: Hs.take 1).take 1) 2 av1 a m n X ∧ Fr (DR D R) w0 w') rfl rfl rfl sz_3 rfl rfl rfl (hs.ldu) (hs.fz) (⟨hs.setu rfl (by simp), hF.set (fun _ => .inl rfl) _⟩) ?_
    rintro w ⟨hs, hF⟩
    refine RL_nil ?_
    refine hK22 _ _ ?_
    refine CW_seq fun K23 hK23 => ?_
    refine CW_seq fun K24 hK24 => ?_
    refine CW_region rfl ?_
    refine RL_v rfl rfl (yd_move rfl) ?_
    refine RL_v rfl rfl (yd_ne true rfl rfl rfl (decide_eq_false (by omega))) ?_
    refine RL_nil ?_
    refine hK24 _ _ ?_
    refine CW_t rfl ?_
    refine CW_seq fun K25 hK25 => ?_
    refine CW_region rfl ?_
    refine RL_v rfl rfl (yd_mki rfl un_105 nf_105) ?_
    refine RL_v rfl rfl (yd_assign rfl) ?_
    refine RL_v rfl rfl (yd_assign rfl) ?_
    refine RL_nil ?_
    refine hK25 _ _ ?_
    refine CW_ret ?_
    refine hK _ _ ?_
    exact ⟨rfl, ⟨_, _, _, _, hs, rfl⟩, hF⟩

theorem rbs_D {D R : Nat} {e1 e2 : Addr} {S Hs : List Nat} {u av a m n : Nat} {X : Nat → Option Value} {w0 : World} (hs : Strm w0.heap D R e1 e2 [255] Hs u av a m n X) :
    Calls Tryd.prog 38 #[.pointer (some ⟨D, 0, none⟩)] w0 fun e w' => e = .returned (.tuple #[.int .u8 0, .iface 175 (.pointer (some e1))]) ∧ (∃ S' Hs' u' av', Strm w'.heap D R e1 e2 S' Hs' u' av' a m n X ∧ (Hs'.take u').reverse ++ S' = [255]) ∧ Fr (DR D R) w0 w' := by
  obtain ⟨i, j, buf, xs, pos, h0, hj⟩ := id hs
  have hF := Fr.refl (DR D R) w0
  have hjb := h0.jb
  have hav : av + 0 ≤ 1 := by
    have h := congrArg List.length h0.sE
    rw [List.length_append, seg_length] at h
    simp only [List.length_cons, List.length_nil] at h
    omega
  refine calls2 Tryd.func38 rfl rfl rfl rfl (Nat.le_of_ble_eq_true rfl) fun K hK => ?_
  refine CW_seq fun K1 hK1 => ?_
  refine CW_region rfl ?_
  refine RL_v rfl rfl (yd_assign rfl) ?_
  refine RL_v rfl rfl (yd_assign rfl) ?_
  refine RL_nil ?_
  refine hK1 _ _ ?_
  refine CW_seq fun K2 hK2 => ?_
  refine CW_seq fun K3 hK3 => ?_
  refine CW_draw 11 mixed (by kernel_rfl) rfl ?_
  refine RD_v rfl rfl (yd_move rfl) ?_
  refine RD_v rfl rfl (yd_nil rfl rfl) ?_
  refine RD_v rfl rfl (yd_field rfl ft_100_2 rfl) ?_
  refine RD_v rfl rfl (yd_field rfl ft_79_1 rfl) ?_
  refine RD_v rfl rfl (yd_load rfl sc_3 rfl (h0.dec.ldi)) ?_
  refine RD_v rfl rfl (yd_add64 rfl rfl rfl (by omega)) ?_
  refine RD_v rfl rfl (yd_move rfl) ?_
  refine RD_v rfl rfl (yd_nil rfl rfl) ?_
  refine RD_v rfl rfl (yd_field rfl ft_100_2 rfl) ?_
  refine RD_v rfl rfl (yd_field rfl ft_79_2 rfl) ?_
  refine RD_v rfl rfl (yd_load rfl sc_3 rfl (h0.dec.ldj)) ?_
  refine RD_nil ?_
  refine RL_v rfl rfl (yd_le false rfl rfl rfl (decide_eq_false (by omega))) ?_
  refine RL_nil ?_
  refine hK3 _ _ ?_
  refine CW_f rfl ?_
  refine CW_skip ?_
  refine hK2 _ _ ?_
  refine CW_seq fun K4 hK4 => ?_
  refine CW_region rfl ?_
  refine RL_v rfl rfl (yd_move rfl) ?_
  refine RL_v rfl rfl (yd_nil rfl rfl) ?_
  refine RL_v rfl rfl (yd_field rfl ft_100_2 rfl) ?_
  refine RL_v rfl rfl (yd_field rfl ft_79_3 rfl) ?_
  refine RL_storeW (fun w' => Strm w'.heap D R e1 e2 [255] Hs 0 av a m n X ∧ Fr (DR D R) w0 w') rfl rfl rfl sz_3 rfl rfl rfl (hs.ldu) (hs.fz) (⟨hs.setu rfl (by simp), hF.set (fun _ => .inl rfl) _⟩) ?_
  rintro w ⟨hs, hF⟩
  refine RL_nil ?_
  refine hK4 _ _ ?_
  refine CW_seq fun K5 hK5 => ?_
  refine CW_region rfl ?_
  refine RL_v rfl rfl (yd_move rfl) ?_
  refine RL_call rfl rfl rfl en_41 rfl (readByte_ok hs) ?_
  rintro _ w1 ⟨rfl, ⟨av1, hs⟩, hF1⟩; refine ⟨_, rfl, ?_⟩; replace hF := hF1.trans' hF
  refine RL_v rfl rfl (yd_move rfl) ?_
  refine RL_v rfl rfl (yd_extract rfl rfl rfl) ?_
  refine RL_v rfl rfl (yd_extract rfl rfl rfl) ?_
  refine RL_v rfl rfl (yd_assign rfl) ?_
  refine RL_v rfl rfl (yd_assign rfl) ?_
  refine RL_nil ?_
  refine hK5 _ _ ?_
  refine CW_seq fun K6 hK6 => ?_
  refine CW_seq fun K7 hK7 => ?_
  refine CW_region rfl ?_
  refine RL_v rfl rfl (yd_move rfl) ?_
  refine RL_v rfl rfl (yd_ne_nil' rfl if_65 rfl) ?_
  refine RL_nil ?_
  refine hK7 _ _ ?_
  refine CW_f rfl ?_
  refine CW_skip ?_
  refine hK6 _ _ ?_
  refine CW_seq fun K8 hK8 => ?_
  refine CW_region rfl ?_
  refine RL_v rfl rfl (yd_move rfl) ?_
  refine RL_v rfl rfl (yd_nil rfl rfl) ?_
  refine RL_v rfl rfl (yd_field rfl ft_100_2 rfl) ?_
  refine RL_v rfl rfl (yd_field rfl ft_79_3 rfl) ?_
  refine RL_storeW (fun w' => Strm w'.heap D R e1 e2 [] (255 :: Hs.take 1) 1 av1 a m n X ∧ Fr (DR D R) w0 w') rfl rfl rfl sz_3 rfl rfl rfl (hs.ldu) (hs.fz) (⟨hs.setu rfl (by simp), hF.set (fun _ => .inl rfl) _⟩) ?_
  rintro w ⟨hs, hF⟩
  refine RL_nil ?_
  refine hK8 _ _ ?_
  refine CW_seq fun K9 hK9 => ?_
  refine CW_seq fun K10 hK10 => ?_
  refine CW_region rfl ?_
  refine RL_v rfl rfl (yd_move rfl) ?_
  refine RL_v rfl rfl (yd_ne false rfl rfl rfl (decide_eq_true (by omega))) ?_
  refine RL_nil ?_
  refine hK10 _ _ ?_
  refine CW_f rfl ?_
  refine CW_skip ?_
  refine hK9 _ _ ?_
  refine CW_seq fun K11 hK11 => ?_
  refine CW_region rfl ?_
  refine RL_v rfl rfl (yd_move rfl) ?_
  refine RL_call rfl rfl rfl en_41 rfl (readByte_eof (S := []) hs) ?_
  rintro _ w1 ⟨rfl, hs1, hF1⟩; refine ⟨_, rfl, ?_⟩
  refine RL_v rfl rfl (yd_move rfl) ?_
  refine RL_v rfl rfl (yd_extract rfl rfl rfl) ?_
  refine RL_v rfl rfl (yd_extract rfl rfl rfl) ?_
  refine RL_v rfl rfl (yd_assign rfl) ?_
  refine RL_v rfl rfl (yd_assign rfl) ?_
  refine RL_nil ?_
  refine hK11 _ _ ?_
  refine CW_seq fun K12 hK12 => ?_
  refine CW_seq fun K13 hK13 => ?_
  refine CW_region rfl ?_
  refine RL_v rfl rfl (yd_move rfl) ?_
  refine RL_v rfl rfl (yd_ne_nil rfl if_65 rfl) ?_
  refine RL_nil ?_
  refine hK13 _ _ ?_
  refine CW_t rfl ?_
  refine CW_seq fun K14 hK14 => ?_
  refine CW_region rfl ?_
  refine RL_v rfl rfl (yd_move rfl) ?_
  refine RL_v rfl rfl (yd_assign rfl) ?_
  refine RL_v rfl rfl (yd_assign rfl) ?_
  refine RL_nil ?_
  refine hK14 _ _ ?_
  refine CW_ret ?_
  refine hK _ _ ?_
  exact ⟨rfl, ⟨_, _, _, _, hs1, rfl⟩, hF1.trans' hF⟩

theorem rbs_E {D R : Nat} {e1 e2 : Addr} {S Hs : List Nat} {u av a m n : Nat} {X : Nat → Option Value} {w0 : World} (hs : Strm w0.heap D R e1 e2 [] Hs u av a m n X) :
    Calls Tryd.prog 38 #[.pointer (some ⟨D, 0, none⟩)] w0 fun e w' => e = .returned (.tuple #[.int .u8 0, .iface 175 (.pointer (some e1))]) ∧ (∃ S' Hs' u' av', Strm w'.heap D R e1 e2 S' Hs' u' av' a m n X ∧ (Hs'.take u').reverse ++ S' = []) ∧ Fr (DR D R) w0 w' := by
  obtain ⟨i, j, buf, xs, pos, h0, hj⟩ := id hs
  have hF := Fr.refl (DR D R) w0
  have hjb := h0.jb
  have hav : av + 0 ≤ 0 := by
    have h := congrArg List.length h0.sE
    rw [List.length_append, seg_length] at h
    simp only [List.length_cons, List.length_nil] at h
    omega
  refine calls2 Tryd.func38 rfl rfl rfl rfl (Nat.le_of_ble_eq_true rfl) fun K hK => ?_
  refine CW_seq fun K1 hK1 => ?_
  refine CW_region rfl ?_
  refine RL_v rfl rfl (yd_assign rfl) ?_
  refine RL_v rfl rfl (yd_assign rfl) ?_
  refine RL_nil ?_
  refine hK1 _ _ ?_
  refine CW_seq fun K2 hK2 => ?_
  refine CW_seq fun K3 hK3 => ?_
  refine CW_draw 11 mixed (by kernel_rfl) rfl ?_
  refine RD_v rfl rfl (yd_move rfl) ?_
  refine RD_v rfl rfl (yd_nil rfl rfl) ?_
  refine RD_v rfl rfl (yd_field rfl ft_100_2 rfl) ?_
  refine RD_v rfl rfl (yd_field rfl ft_79_1 rfl) ?_
  refine RD_v rfl rfl (yd_load rfl sc_3 rfl (h0.dec.ldi)) ?_
  refine RD_v rfl rfl (yd_add64 rfl rfl rfl (by omega)) ?_
  refine RD_v rfl rfl (yd_move rfl) ?_
  refine RD_v rfl rfl (yd_nil rfl rfl) ?_
  refine RD_v rfl rfl (yd_field rfl ft_100_2 rfl) ?_
  refine RD_v rfl rfl (yd_field rfl ft_79_2 rfl) ?_
  refine RD_v rfl rfl (yd_load rfl sc_3 rfl (h0.dec.ldj)) ?_
  refine RD_nil ?_
  refine RL_v rfl rfl (yd_le false rfl rfl rfl (decide_eq_false (by omega))) ?_
  refine RL_nil ?_
  refine hK3 _ _ ?_
  refine CW_f rfl ?_
  refine CW_skip ?_
  refine hK2 _ _ ?_
  refine CW_seq fun K4 hK4 => ?_
  refine CW_region rfl ?_
  refine RL_v rfl rfl (yd_move rfl) ?_
  refine RL_v rfl rfl (yd_nil rfl rfl) ?_
  refine RL_v rfl rfl (yd_field rfl ft_100_2 rfl) ?_
  refine RL_v rfl rfl (yd_field rfl ft_79_3 rfl) ?_
  refine RL_storeW (fun w' => Strm w'.heap D R e1 e2 [] Hs 0 av a m n X ∧ Fr (DR D R) w0 w') rfl rfl rfl sz_3 rfl rfl rfl (hs.ldu) (hs.fz) (⟨hs.setu rfl (by simp), hF.set (fun _ => .inl rfl) _⟩) ?_
  rintro w ⟨hs, hF⟩
  refine RL_nil ?_
  refine hK4 _ _ ?_
  refine CW_seq fun K5 hK5 => ?_
  refine CW_region rfl ?_
  refine RL_v rfl rfl (yd_move rfl) ?_
  refine RL_call rfl rfl rfl en_41 rfl (readByte_eof (S := []) hs) ?_
  rintro _ w1 ⟨rfl, hs1, hF1⟩; refine ⟨_, rfl, ?_⟩
  refine RL_v rfl rfl (yd_move rfl) ?_
  refine RL_v rfl rfl (yd_extract rfl rfl rfl) ?_
  refine RL_v rfl rfl (yd_extract rfl rfl rfl) ?_
  refine RL_v rfl rfl (yd_assign rfl) ?_
  refine RL_v rfl rfl (yd_assign rfl) ?_
  refine RL_nil ?_
  refine hK5 _ _ ?_
  refine CW_seq fun K6 hK6 => ?_
  refine CW_seq fun K7 hK7 => ?_
  refine CW_region rfl ?_
  refine RL_v rfl rfl (yd_move rfl) ?_
  refine RL_v rfl rfl (yd_ne_nil rfl if_65 rfl) ?_
  refine RL_nil ?_
  refine hK7 _ _ ?_
  refine CW_t rfl ?_
  refine CW_seq fun K8 hK8 => ?_
  refine CW_region rfl ?_
  refine RL_v rfl rfl (yd_move rfl) ?_
  refine RL_v rfl rfl (yd_assign rfl) ?_
  refine RL_v rfl rfl (yd_assign rfl) ?_
  refine RL_nil ?_
  refine hK8 _ _ ?_
  refine CW_ret ?_
  refine hK _ _ ?_
  exact ⟨rfl, ⟨_, _, _, _, hs1, rfl⟩, hF1.trans' hF⟩

end Go.Proofs.YtdjilplpbaackaaDoor.Eng
