/- ensureNBits: one byte more, or none. -/
import Derived.Test.YtdjilplpbaackaaDoorPBits
import Derived.Test.YtdjilplpbaackaaDoorRbs
set_option linter.unusedVariables false
set_option linter.unusedSimpArgs false
set_option maxRecDepth 100000
namespace Go.Proofs.YtdjilplpbaackaaDoor.Eng
open Go

theorem rbs_ok {D R : Nat} {e1 e2 : Addr} {S Hs : List Nat} {u av a m n : Nat} {X : Nat → Option Value} {w0 : World} {c : Nat} {S' : List Nat} (hd : destuff S = some (c, S')) (hs : Strm w0.heap D R e1 e2 S Hs u av a m n X) :
    Calls Tryd.prog 38 #[.pointer (some ⟨D, 0, none⟩)] w0 fun e w' => e = .returned (.tuple #[u8v c, .nilIface]) ∧ (∃ Hs' u' av', Strm w'.heap D R e1 e2 S' Hs' u' av' a m n X) ∧ Fr (DR D R) w0 w' := by
  unfold destuff at hd
  split at hd
  · cases hd
  · split at hd
    · rename_i hx; subst hx
      split at hd
      · split at hd
        · rename_i hy; subst hy; cases hd; exact rbs_B hs
        · cases hd
      · cases hd
    · rename_i hx; cases hd; exact rbs_A hx hs
theorem rbs_fail {D R : Nat} {e1 e2 : Addr} {S Hs : List Nat} {u av a m n : Nat} {X : Nat → Option Value} {w0 : World} (hd : destuff S = none) (hs : Strm w0.heap D R e1 e2 S Hs u av a m n X) :
    Calls Tryd.prog 38 #[.pointer (some ⟨D, 0, none⟩)] w0 fun e w' => (∃ er, e = .returned (.tuple #[.int .u8 0, er]) ∧ (er = .iface 105 (.string missing) ∨ er = .iface 175 (.pointer (some e1)))) ∧
      (∃ S' Hs' u' av', Strm w'.heap D R e1 e2 S' Hs' u' av' a m n X ∧ (Hs'.take u').reverse ++ S' = S) ∧ Fr (DR D R) w0 w' := by
  unfold destuff at hd
  split at hd
  · exact (rbs_E (S := []) hs).mono fun e w' ⟨h1, h2, h3⟩ => ⟨⟨_, h1, .inr rfl⟩, h2, h3⟩
  · split at hd
    · rename_i hx; subst hx
      split at hd
      · split at hd
        · cases hd
        · rename_i hy; exact (rbs_C hy hs).mono fun e w' ⟨h1, h2, h3⟩ => ⟨⟨_, h1, .inl rfl⟩, h2, h3⟩
      · exact (rbs_D (S := []) hs).mono fun e w' ⟨h1, h2, h3⟩ => ⟨⟨_, h1, .inr rfl⟩, h2, h3⟩
    · cases hd
theorem ens_ok {D R : Nat} {e1 e2 : Addr} {S Hs : List Nat} {u av a m n : Nat} {X : Nat → Option Value} {w0 : World} {c k : Nat} {S' : List Nat} (hd : destuff S = some (c, S')) (hc : c < 256) (hb : BitsSt a m n) (hn : n < 8) (hk : k ≤ 8) (hs : Strm w0.heap D R e1 e2 S Hs u av a m n X) :
    Calls Tryd.prog 28 #[.pointer (some ⟨D, 0, none⟩), .int .i32 k] w0 fun e w' => e = .returned .nilIface ∧ (∃ a' m' Hs' u' av', Strm w'.heap D R e1 e2 S' Hs' u' av' a' m' (n + 8) X ∧ BitsSt a' m' (n + 8) ∧ bitsN a' (n + 8) = bitsN a n ++ bitsN c 8) ∧ Fr (DR D R) w0 w' := by
  obtain ⟨ha, hn15, hm⟩ := hb
  have hfin : ∀ (w : World) (m' : Nat) (Hs' : List Nat) (u' av' : Nat), m' = (if m = 0 then 128 else m * 2 ^ 8 % 4294967296) → Strm w.heap D R e1 e2 S' Hs' u' av' ((a * 256 % 4294967296) ||| c) m' (n + 8) X → Fr (DR D R) w0 w →
      Ending.returned .nilIface = .returned .nilIface ∧ (∃ a' m' Hs' u' av', Strm w.heap D R e1 e2 S' Hs' u' av' a' m' (n + 8) X ∧ BitsSt a' m' (n + 8) ∧ bitsN a' (n + 8) = bitsN a n ++ bitsN c 8) ∧ Fr (DR D R) w0 w := by
    intro w m' Hs' u' av' hm' hs' hF
    refine ⟨rfl, ⟨_, m', Hs', u', av', hs', ⟨?_, by omega, ?_⟩, bits_push a c n hc (by omega)⟩, hF⟩
    · have : (a * 256 % 4294967296) ||| c < 2 ^ 32 := Nat.or_lt_two_pow (by omega) (by omega)
      omega
    · rw [hm', hm, if_neg (show ¬ n + 8 = 0 by omega)]
      by_cases h0 : n = 0
      · subst h0; rfl
      · rw [if_neg h0]
        have h1 : (2 : Nat) ^ (n - 1) < 2 ^ 7 := Nat.pow_lt_pow_right (by omega) (by omega)
        have h2 : 0 < (2 : Nat) ^ (n - 1) := Nat.pow_pos (by omega)
        rw [if_neg (by omega), Nat.mod_eq_of_lt (by omega), ← Nat.pow_add]
        congr 1; omega
  refine calls1 Tryd.func28 rfl rfl rfl rfl (Nat.le_of_ble_eq_true rfl) fun K hK => ?_
  refine CW_seq fun K1 hK1 => ?_
  refine CW_region rfl ?_
  refine RL_v rfl rfl (yd_assign rfl) ?_
  refine RL_nil ?_
  refine hK1 _ _ ?_
  refine CW_seq fun K2 hK2 => ?_
  refine CW_block ?_
  refine CW_once ?_
  refine CW_block ?_
  refine CW_seq fun K3 hK3 => ?_
  refine CW_region rfl ?_
  refine RL_v rfl rfl (yd_move rfl) ?_
  refine RL_call rfl rfl rfl en_38 rfl (rbs_ok hd hs) ?_
  rintro _ w1 ⟨rfl, ⟨Hs', u', av', hs⟩, hF⟩; refine ⟨_, rfl, ?_⟩
  refine RL_v rfl rfl (yd_move rfl) ?_
  refine RL_v rfl rfl (yd_extract rfl rfl rfl) ?_
  refine RL_v rfl rfl (yd_extract rfl rfl rfl) ?_
  refine RL_v rfl rfl (yd_assign rfl) ?_
  refine RL_v rfl rfl (yd_assign rfl) ?_
  refine RL_nil ?_
  refine hK3 _ _ ?_
  refine CW_seq fun K4 hK4 => ?_
  refine CW_seq fun K5 hK5 => ?_
  refine CW_region rfl ?_
  refine RL_v rfl rfl (yd_move rfl) ?_
  refine RL_v rfl rfl (yd_ne_nil' rfl if_65 rfl) ?_
  refine RL_nil ?_
  refine hK5 _ _ ?_
  refine CW_f rfl ?_
  refine CW_skip ?_
  refine hK4 _ _ ?_
  refine CW_seq fun K6 hK6 => ?_
  refine CW_region rfl ?_
  refine RL_v rfl rfl (yd_move rfl) ?_
  refine RL_v rfl rfl (yd_move rfl) ?_
  refine RL_v rfl rfl (yd_nil rfl rfl) ?_
  refine RL_v rfl rfl (yd_field rfl ft_100_1 rfl) ?_
  refine RL_v rfl rfl (yd_field rfl ft_77_0 rfl) ?_
  refine RL_v rfl rfl (yd_load rfl sc_40 rfl (hs.lda)) ?_
  refine RL_v rfl rfl (yd_shl rfl rfl rfl (by omega) _ (shl_u32 a 8 (by omega))) ?_
  refine RL_v rfl rfl (yd_move rfl) ?_
  refine RL_v rfl rfl (yd_conv rfl so_5 it_40 rfl _ (wrap_u32 c)) ?_
  refine RL_v rfl rfl (yd_or rfl rfl rfl _ (or_u32 (a * 256 % 4294967296) (c % 4294967296) (by omega) (by omega))) ?_
  refine RL_v rfl rfl (yd_nil rfl rfl) ?_
  refine RL_v rfl rfl (yd_field rfl ft_100_1 rfl) ?_
  refine RL_v rfl rfl (yd_field rfl ft_77_0 rfl) ?_
  refine RL_storeW (fun w' => Strm w'.heap D R e1 e2 S' Hs' u' av' ((a * 256 % 4294967296) ||| c) m n X ∧ Fr (DR D R) w0 w') rfl rfl rfl sz_40 rfl rfl rfl (hs.lda) (hs.fz) (⟨hs.seta (by rw [Nat.mod_eq_of_lt (show c < 4294967296 by omega)]), hF.set (fun _ => .inl rfl) _⟩) ?_
  rintro w ⟨hs, hF⟩
  refine RL_nil ?_
  refine hK6 _ _ ?_
  refine CW_seq fun K7 hK7 => ?_
  refine CW_region rfl ?_
  refine RL_v rfl rfl (yd_move rfl) ?_
  refine RL_v rfl rfl (yd_nil rfl rfl) ?_
  refine RL_v rfl rfl (yd_field rfl ft_100_1 rfl) ?_
  refine RL_v rfl rfl (yd_field rfl ft_77_2 rfl) ?_
  refine RL_v rfl rfl (yd_load rfl sc_21 rfl (hs.ldn)) ?_
  refine RL_v rfl rfl (yd_add32 rfl rfl rfl (by omega)) ?_
  refine RL_v rfl rfl (yd_nil rfl rfl) ?_
  refine RL_v rfl rfl (yd_field rfl ft_100_1 rfl) ?_
  refine RL_v rfl rfl (yd_field rfl ft_77_2 rfl) ?_
  refine RL_storeW (fun w' => Strm w'.heap D R e1 e2 S' Hs' u' av' ((a * 256 % 4294967296) ||| c) m (n + 8) X ∧ Fr (DR D R) w0 w') rfl rfl rfl sz_21 rfl rfl rfl (hs.ldn) (hs.fz) (⟨hs.setn (by omega), hF.set (fun _ => .inl rfl) _⟩) ?_
  rintro w ⟨hs, hF⟩
  refine RL_nil ?_
  refine hK7 _ _ ?_
  refine CW_seq fun K8 hK8 => ?_
  refine CW_seq fun K9 hK9 => ?_
  refine CW_region rfl ?_
  refine RL_v rfl rfl (yd_move rfl) ?_
  refine RL_v rfl rfl (yd_nil rfl rfl) ?_
  refine RL_v rfl rfl (yd_field rfl ft_100_1 rfl) ?_
  refine RL_v rfl rfl (yd_field rfl ft_77_1 rfl) ?_
  refine RL_v rfl rfl (yd_load rfl sc_40 rfl (hs.ldm)) ?_
  by_cases hm0 : m = 0
  · refine RL_v rfl rfl (yd_eq true rfl rfl rfl (decide_eq_true (by omega))) ?_
    refine RL_nil ?_
    refine hK9 _ _ ?_
    refine CW_t rfl ?_
    refine CW_region rfl ?_
    refine RL_v rfl rfl (yd_move rfl) ?_
    refine RL_v rfl rfl (yd_nil rfl rfl) ?_
    refine RL_v rfl rfl (yd_field rfl ft_100_1 rfl) ?_
    refine RL_v rfl rfl (yd_field rfl ft_77_1 rfl) ?_
    refine RL_storeW (fun w' => Strm w'.heap D R e1 e2 S' Hs' u' av' ((a * 256 % 4294967296) ||| c) 128 (n + 8) X ∧ Fr (DR D R) w0 w') rfl rfl rfl sz_40 rfl rfl rfl (hs.ldm) (hs.fz) (⟨hs.setm (rfl), hF.set (fun _ => .inl rfl) _⟩) ?_
    rintro w ⟨hs, hF⟩
    refine RL_nil ?_
    refine hK8 _ _ ?_
    refine CW_seq fun K10 hK10 => ?_
    refine CW_region rfl ?_
    refine RL_v rfl rfl (yd_move rfl) ?_
    refine RL_v rfl rfl (yd_nil rfl rfl) ?_
    refine RL_v rfl rfl (yd_field rfl ft_100_1 rfl) ?_
    refine RL_v rfl rfl (yd_field rfl ft_77_2 rfl) ?_
    refine RL_v rfl rfl (yd_load rfl sc_21 rfl (hs.ldn)) ?_
    refine RL_v rfl rfl (yd_move rfl) ?_
    refine RL_v rfl rfl (yd_ge true rfl rfl rfl (decide_eq_true (by omega))) ?_
    refine RL_nil ?_
    refine hK10 _ _ ?_
    refine CW_t rfl ?_
    refine CW_exit rfl ?_
    refine hK2 _ _ ?_
    refine CW_seq fun K11 hK11 => ?_
    refine CW_region rfl ?_
    refine RL_v rfl rfl (yd_assign rfl) ?_
    refine RL_nil ?_
    refine hK11 _ _ ?_
    refine CW_ret ?_
    refine hK _ _ ?_
    exact hfin w 128 _ _ _ (by rw [if_pos hm0]) hs hF
  · refine RL_v rfl rfl (yd_eq false rfl rfl rfl (decide_eq_false (by omega))) ?_
    refine RL_nil ?_
    refine hK9 _ _ ?_
    refine CW_f rfl ?_
    refine CW_region rfl ?_
    refine RL_v rfl rfl (yd_move rfl) ?_
    refine RL_v rfl rfl (yd_nil rfl rfl) ?_
    refine RL_v rfl rfl (yd_field rfl ft_100_1 rfl) ?_
    refine RL_v rfl rfl (yd_field rfl ft_77_1 rfl) ?_
    refine RL_v rfl rfl (yd_load rfl sc_40 rfl (hs.ldm)) ?_
    refine RL_v rfl rfl (yd_shl rfl rfl rfl (by omega) _ (shl_u32 m 8 (by omega))) ?_
    refine RL_v rfl rfl (yd_nil rfl rfl) ?_
    refine RL_v rfl rfl (yd_field rfl ft_100_1 rfl) ?_
    refine RL_v rfl rfl (yd_field rfl ft_77_1 rfl) ?_
    refine RL_storeW (fun w' => Strm w'.heap D R e1 e2 S' Hs' u' av' ((a * 256 % 4294967296) ||| c) (m * 2 ^ 8 % 4294967296) (n + 8) X ∧ Fr (DR D R) w0 w') rfl rfl rfl sz_40 rfl rfl rfl (hs.ldm) (hs.fz) (⟨hs.setm (rfl), hF.set (fun _ => .inl rfl) _⟩) ?_
    rintro w ⟨hs, hF⟩
    refine RL_nil ?_
    refine hK8 _ _ ?_
    refine CW_seq fun K12 hK12 => ?_
    refine CW_region rfl ?_
    refine RL_v rfl rfl (yd_move rfl) ?_
    refine RL_v rfl rfl (yd_nil rfl rfl) ?_
    refine RL_v rfl rfl (yd_field rfl ft_100_1 rfl) ?_
    refine RL_v rfl rfl (yd_field rfl ft_77_2 rfl) ?_
    refine RL_v rfl rfl (yd_load rfl sc_21 rfl (hs.ldn)) ?_
    refine RL_v rfl rfl (yd_move rfl) ?_
    refine RL_v rfl rfl (yd_ge true rfl rfl rfl (decide_eq_true (by omega))) ?_
    refine RL_nil ?_
    refine hK12 _ _ ?_
    refine CW_t rfl ?_
    refine CW_exit rfl ?_
    refine hK2 _ _ ?_
    refine CW_seq fun K13 hK13 => ?_
    refine CW_region rfl ?_
    refine RL_v rfl rfl (yd_assign rfl) ?_
    refine RL_nil ?_
    refine hK13 _ _ ?_
    refine CW_ret ?_
    refine hK _ _ ?_
    exact hfin w _ _ _ _ (by rw [if_neg hm0]) hs hF

theorem ens_fail {D R : Nat} {e1 e2 : Addr} {S Hs : List Nat} {u av a m n : Nat} {X : Nat → Option Value} {w0 : World} {k : Nat} (hd : destuff S = none) (hs : Strm w0.heap D R e1 e2 S Hs u av a m n X) :
    Calls Tryd.prog 28 #[.pointer (some ⟨D, 0, none⟩), .int .i32 k] w0 fun e w' => (∃ er, e = .returned (.iface 105 (.string er)) ∧ (er = missing ∨ er = short)) ∧ (∃ S' Hs' u' av', Strm w'.heap D R e1 e2 S' Hs' u' av' a m n X ∧ (Hs'.take u').reverse ++ S' = S) ∧ Fr (DR D R) w0 w' := by
  refine calls1 Tryd.func28 rfl rfl rfl rfl (Nat.le_of_ble_eq_true rfl) fun K hK => ?_
  refine CW_seq fun K1 hK1 => ?_
  refine CW_region rfl ?_
  refine RL_v rfl rfl (yd_assign rfl) ?_
  refine RL_nil ?_
  refine hK1 _ _ ?_
  refine CW_seq fun K2 hK2 => ?_
  refine CW_block ?_
  refine CW_once ?_
  refine CW_block ?_
  refine CW_seq fun K3 hK3 => ?_
  refine CW_region rfl ?_
  refine RL_v rfl rfl (yd_move rfl) ?_
  refine RL_call rfl rfl rfl en_38 rfl (rbs_fail hd hs) ?_
  rintro _ w1 ⟨⟨er, rfl, her⟩, hs1, hF⟩; refine ⟨_, rfl, ?_⟩
  obtain ⟨S', Hs', u', av', hs, hS'⟩ := hs1
  rcases her with rfl | rfl
  · refine RL_v rfl rfl (yd_move rfl) ?_
    refine RL_v rfl rfl (yd_extract rfl rfl rfl) ?_
    refine RL_v rfl rfl (yd_extract rfl rfl rfl) ?_
    refine RL_v rfl rfl (yd_assign rfl) ?_
    refine RL_v rfl rfl (yd_assign rfl) ?_
    refine RL_nil ?_
    refine hK3 _ _ ?_
    refine CW_seq fun K4 hK4 => ?_
    refine CW_seq fun K5 hK5 => ?_
    refine CW_region rfl ?_
    refine RL_v rfl rfl (yd_move rfl) ?_
    refine RL_v rfl rfl (yd_ne_nil rfl if_65 rfl) ?_
    refine RL_nil ?_
    refine hK5 _ _ ?_
    refine CW_t rfl ?_
    refine CW_seq fun K6 hK6 => ?_
    refine CW_seq fun K7 hK7 => ?_
    refine CW_region rfl ?_
    refine RL_v rfl rfl (yd_move rfl) ?_
    refine RL_v rfl rfl (yd_load rfl sc_65 rfl (cellOf_cell hs.glob.1)) ?_
    refine RL_v rfl rfl (yd_cmp_other (.inl rfl) rfl if_65 rfl rfl (by decide)) ?_
    refine RL_nil ?_
    refine hK7 _ _ ?_
    refine CW_f rfl ?_
    refine CW_skip ?_
    refine hK6 _ _ ?_
    refine CW_seq fun K8 hK8 => ?_
    refine CW_region rfl ?_
    refine RL_v rfl rfl (yd_move rfl) ?_
    refine RL_v rfl rfl (yd_assign rfl) ?_
    refine RL_nil ?_
    refine hK8 _ _ ?_
    refine CW_ret ?_
    refine hK _ _ ?_
    exact ⟨⟨_, rfl, .inl rfl⟩, ⟨S', Hs', u', av', hs, hS'⟩, hF⟩
  · refine RL_v rfl rfl (yd_move rfl) ?_
    refine RL_v rfl rfl (yd_extract rfl rfl rfl) ?_
    refine RL_v rfl rfl (yd_extract rfl rfl rfl) ?_
    refine RL_v rfl rfl (yd_assign rfl) ?_
    refine RL_v rfl rfl (yd_assign rfl) ?_
    refine RL_nil ?_
    refine hK3 _ _ ?_
    refine CW_seq fun K9 hK9 => ?_
    refine CW_seq fun K10 hK10 => ?_
    refine CW_region rfl ?_
    refine RL_v rfl rfl (yd_move rfl) ?_
    refine RL_v rfl rfl (yd_ne_nil rfl if_65 rfl) ?_
    refine RL_nil ?_
    refine hK10 _ _ ?_
    refine CW_t rfl ?_
    refine CW_seq fun K11 hK11 => ?_
    refine CW_seq fun K12 hK12 => ?_
    refine CW_region rfl ?_
    refine RL_v rfl rfl (yd_move rfl) ?_
    refine RL_v rfl rfl (yd_load rfl sc_65 rfl (cellOf_cell hs.glob.1)) ?_
    refine RL_v rfl rfl (yd_cmp_same (.inl rfl) rfl if_65 rfl rfl cmp_175 (equalIn_ptr Tryd.underlying175 sz_212)) ?_
    refine RL_nil ?_
    refine hK12 _ _ ?_
    refine CW_t rfl ?_
    refine CW_seq fun K13 hK13 => ?_
    refine CW_region rfl ?_
    refine RL_v rfl rfl (yd_mki rfl un_105 nf_105) ?_
    refine RL_v rfl rfl (yd_assign rfl) ?_
    refine RL_nil ?_
    refine hK13 _ _ ?_
    refine CW_ret ?_
    refine hK _ _ ?_
    exact ⟨⟨_, rfl, .inr rfl⟩, ⟨S', Hs', u', av', hs, hS'⟩, hF⟩

end Go.Proofs.YtdjilplpbaackaaDoor.Eng
