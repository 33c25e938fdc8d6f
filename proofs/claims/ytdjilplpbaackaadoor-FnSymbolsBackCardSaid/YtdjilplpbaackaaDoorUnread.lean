/- unreadByteStuffedByte -/
import Derived.Test.YtdjilplpbaackaaDoorDec
import Derived.Test.YtdjilplpbaackaaDoorStat
set_option linter.unusedVariables false
set_option linter.unusedSimpArgs false
set_option maxRecDepth 100000
namespace Go.Proofs.YtdjilplpbaackaaDoor.Eng
open Go

theorem unread_any {D R a m n i j u : Nat} {buf : Nat → Nat} {X : Nat → Option Value} {w0 : World} (hD : DecP w0.heap D R a m n i j u buf X) (hn : n < 8) (hu : u ≤ i) (hi : i ≤ 4096) :
    Calls Tryd.prog 29 #[.pointer (some ⟨D, 0, none⟩)] w0 fun e w' => e = .returned (.tuple #[]) ∧ DecP w'.heap D R a m n (i - u) j 0 buf X ∧ Fr (· = D) w0 w' := by
  have hF := Fr.refl (· = D) w0
  refine calls0 Tryd.func29 rfl rfl rfl rfl (Nat.le_of_ble_eq_true rfl) fun K hK => ?_
  refine CW_seq fun K1 hK1 => ?_
  refine CW_draw 10 mixed (by kernel_rfl) rfl ?_
  refine RD_v rfl rfl (yd_move rfl) ?_
  refine RD_v rfl rfl (yd_nil rfl rfl) ?_
  refine RD_v rfl rfl (yd_field rfl ft_100_2 rfl) ?_
  refine RD_v rfl rfl (yd_field rfl ft_79_1 rfl) ?_
  refine RD_v rfl rfl (yd_load rfl sc_3 rfl (hD.ldi)) ?_
  refine RD_v rfl rfl (yd_move rfl) ?_
  refine RD_v rfl rfl (yd_nil rfl rfl) ?_
  refine RD_v rfl rfl (yd_field rfl ft_100_2 rfl) ?_
  refine RD_v rfl rfl (yd_field rfl ft_79_3 rfl) ?_
  refine RD_v rfl rfl (yd_load rfl sc_3 rfl (hD.ldu)) ?_
  refine RD_nil ?_
  refine RL_v rfl rfl (yd_sub64 rfl rfl rfl (by omega)) ?_
  refine RL_v rfl rfl (yd_nil rfl rfl) ?_
  refine RL_v rfl rfl (yd_field rfl ft_100_2 rfl) ?_
  refine RL_v rfl rfl (yd_field rfl ft_79_1 rfl) ?_
  refine RL_storeW (fun w' => DecP w'.heap D R a m n (i - u) j u buf X ∧ Fr (· = D) w0 w') rfl rfl rfl sz_3 rfl rfl rfl (hD.ldi) (hD.fz) (⟨hD.seti (by omega), hF.set (fun _ => rfl) _⟩) ?_
  rintro w ⟨hD, hF⟩
  refine RL_nil ?_
  refine hK1 _ _ ?_
  refine CW_seq fun K2 hK2 => ?_
  refine CW_region rfl ?_
  refine RL_v rfl rfl (yd_move rfl) ?_
  refine RL_v rfl rfl (yd_nil rfl rfl) ?_
  refine RL_v rfl rfl (yd_field rfl ft_100_2 rfl) ?_
  refine RL_v rfl rfl (yd_field rfl ft_79_3 rfl) ?_
  refine RL_storeW (fun w' => DecP w'.heap D R a m n (i - u) j 0 buf X ∧ Fr (· = D) w0 w') rfl rfl rfl sz_3 rfl rfl rfl (hD.ldu) (hD.fz) (⟨hD.setu (rfl), hF.set (fun _ => rfl) _⟩) ?_
  rintro w ⟨hD, hF⟩
  refine RL_nil ?_
  refine hK2 _ _ ?_
  refine CW_seq fun K3 hK3 => ?_
  refine CW_region rfl ?_
  refine RL_v rfl rfl (yd_move rfl) ?_
  refine RL_v rfl rfl (yd_nil rfl rfl) ?_
  refine RL_v rfl rfl (yd_field rfl ft_100_1 rfl) ?_
  refine RL_v rfl rfl (yd_field rfl ft_77_2 rfl) ?_
  refine RL_v rfl rfl (yd_load rfl sc_21 rfl (hD.ldn)) ?_
  refine RL_v rfl rfl (yd_ge false rfl rfl rfl (decide_eq_false (by omega))) ?_
  refine RL_nil ?_
  refine hK3 _ _ ?_
  refine CW_f rfl ?_
  refine CW_skip ?_
  refine hK _ _ ?_
  exact ⟨rfl, hD, hF⟩

end Go.Proofs.YtdjilplpbaackaaDoor.Eng
