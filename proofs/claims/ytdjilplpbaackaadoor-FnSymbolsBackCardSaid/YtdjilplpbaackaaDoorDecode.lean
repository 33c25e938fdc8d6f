/- decodeHuffman: the next symbol of the bits that are left, or an error. -/
import Derived.Test.YtdjilplpbaackaaDoorDecLem
set_option linter.unusedVariables false
set_option linter.unusedSimpArgs false
set_option maxRecDepth 100000
namespace Go.Proofs.YtdjilplpbaackaaDoor.Eng
open Go

def DecPost (T : Tab) (bs : List Bool) (D R : Nat) (e1 e2 : Addr) (X : Nat → Option Value) (e : Ending) (w' : World) : Prop :=
  match T.sym bs with
  | some (s, rest) => e = .returned (.tuple #[u8v s, .nilIface]) ∧ BS w'.heap D R e1 e2 X rest
  | none => ∃ er, e = .returned (.tuple #[.int .u8 0, .iface 105 (.string er)])
theorem DecPost.some {T : Tab} {bs rest : List Bool} {D R s : Nat} {e1 e2 : Addr} {X : Nat → Option Value} {e : Ending} {w' : World} (h : T.sym bs = some (s, rest)) (he : e = .returned (.tuple #[u8v s, .nilIface]))
    (hb : BS w'.heap D R e1 e2 X rest) : DecPost T bs D R e1 e2 X e w' := by unfold DecPost; rw [h]; exact ⟨he, hb⟩
theorem DecPost.none {T : Tab} {bs : List Bool} {D R : Nat} {e1 e2 : Addr} {X : Nat → Option Value} {e : Ending} {w' : World} {er : ByteArray} (h : T.sym bs = none) (he : e = .returned (.tuple #[.int .u8 0, .iface 105 (.string er)])) :
    DecPost T bs D R e1 e2 X e w' := by unfold DecPost; rw [h]; exact ⟨er, he⟩
set_option maxHeartbeats 2000000 in
theorem decode_any {D R hh : Nat} {e1 e2 : Addr} {bs : List Bool} {T : Tab} {X : Nat → Option Value} {w0 : World} (hX : T.HufX X hh) (hh3 : 4103 ≤ hh) (hs : BS w0.heap D R e1 e2 X bs) :
    Calls Tryd.prog 21 #[.pointer (some ⟨D, 0, none⟩), .pointer (some ⟨D, hh, none⟩)] w0 fun e w' => DecPost T bs D R e1 e2 X e w' ∧ Fr (DR D R) w0 w' := by
  obtain ⟨S, Hs, u, av, a, m, n, hs, hb, hbs, hS⟩ := hs
  have hF := Fr.refl (DR D R) w0
  have hpos := hX.ok.pos
  have hn15 := hb.2.1
  refine calls2 Tryd.func21 rfl rfl rfl rfl (Nat.le_of_ble_eq_true rfl) fun K hK => ?_
  refine CW_seq fun K1 hK1 => ?_
  refine CW_region rfl ?_
  refine RL_v rfl rfl (yd_assign rfl) ?_
  refine RL_v rfl rfl (yd_assign rfl) ?_
  refine RL_nil ?_
  refine hK1 _ _ ?_
  refine CW_scope 0 (fun σ w => AtS σ [(0, .pointer (some ⟨D, 0, none⟩)), (1, .pointer (some ⟨D, hh, none⟩))] ∧ BS w.heap D R e1 e2 X bs ∧ Fr (DR D R) w0 w) rfl ?_ ?_
  · refine CW_seq fun K2 hK2 => ?_
    refine CW_seq fun K3 hK3 => ?_
    refine CW_region rfl ?_
    refine RL_v rfl rfl (yd_move rfl) ?_
    refine RL_v rfl rfl (yd_nil rfl rfl) ?_
    refine RL_v rfl rfl (yd_field rfl ft_92_0 rfl) ?_
    refine RL_v rfl rfl (yd_load rfl sc_21 rfl ((hs.ldx hh3).trans hX.n)) ?_
    refine RL_v rfl rfl (yd_eq false rfl rfl rfl (decide_eq_false (by omega))) ?_
    refine RL_nil ?_
    refine hK3 _ _ ?_
    refine CW_f rfl ?_
    refine CW_skip ?_
    refine hK2 _ _ ?_
    refine CW_cut (fun σ w => AtS σ [(0, .pointer (some ⟨D, 0, none⟩)), (1, .pointer (some ⟨D, hh, none⟩))] ∧ ∃ S Hs u av a m n, Strm w.heap D R e1 e2 S Hs u av a m n X ∧ BitsSt a m n ∧ bitsN a n ++ bitsOf S = bs ∧ (∀ x ∈ S, x < 256) ∧ 8 ≤ n ∧ Fr (DR D R) w0 w) ?_ ?_
    · refine CW_seq fun K4 hK4 => ?_
      refine CW_region rfl ?_
      refine RL_v rfl rfl (yd_move rfl) ?_
      refine RL_v rfl rfl (yd_nil rfl rfl) ?_
      refine RL_v rfl rfl (yd_field rfl ft_100_1 rfl) ?_
      refine RL_v rfl rfl (yd_field rfl ft_77_2 rfl) ?_
      refine RL_v rfl rfl (yd_load rfl sc_21 rfl (hs.ldn)) ?_
      by_cases hn8 : n < 8
      · refine RL_v rfl rfl (yd_lt true rfl rfl rfl (decide_eq_true (by omega))) ?_
        refine RL_nil ?_
        refine hK4 _ _ ?_
        refine CW_t rfl ?_
        refine CW_seq fun K5 hK5 => ?_
        refine CW_region rfl ?_
        refine RL_v rfl rfl (yd_move rfl) ?_
        rcases hd : destuff S with _ | ⟨c, S'⟩
        · refine RL_call rfl rfl rfl en_28 rfl (ens_fail (k := 8) hd hs) ?_
          rintro _ w1 ⟨⟨er, rfl, her⟩, ⟨S1, Hs1, u1, av1, hs, hrest⟩, hF1⟩; refine ⟨_, rfl, ?_⟩; replace hF := hF1.trans' hF
          rcases her with rfl | rfl
          · refine RL_v rfl rfl (yd_assign rfl) ?_
            refine RL_nil ?_
            refine hK5 _ _ ?_
            refine CW_seq fun K6 hK6 => ?_
            refine CW_region rfl ?_
            refine RL_v rfl rfl (yd_move rfl) ?_
            refine RL_v rfl rfl (yd_ne_nil rfl if_65 rfl) ?_
            refine RL_nil ?_
            refine hK6 _ _ ?_
            refine CW_t rfl ?_
            refine CW_seq fun K7 hK7 => ?_
            refine CW_seq fun K8 hK8 => ?_
            refine CW_region rfl ?_
            refine RL_v rfl rfl (yd_move rfl) ?_
            refine RL_v rfl rfl (yd_mki rfl un_105 nf_105) ?_
            refine RL_v rfl rfl (yd_cmp_same (.inr rfl) rfl if_65 rfl rfl cmp_105 (equalIn_str' Tryd.underlying105 miss_miss)) ?_
            refine RL_v rfl rfl (yd_move rfl) ?_
            refine RL_skip rfl rfl ?_
            refine RL_skip rfl rfl ?_
            refine RL_skip rfl rfl ?_
            refine RL_v rfl rfl (yd_pick rfl rfl) ?_
            refine RL_nil ?_
            refine hK8 _ _ ?_
            refine CW_f rfl ?_
            refine CW_skip ?_
            refine hK7 _ _ ?_
            refine CW_seq fun K9 hK9 => ?_
            refine CW_seq fun K10 hK10 => ?_
            refine CW_region rfl ?_
            refine RL_v rfl rfl (yd_move rfl) ?_
            refine RL_v rfl rfl (yd_nil rfl rfl) ?_
            refine RL_v rfl rfl (yd_field rfl ft_100_2 rfl) ?_
            refine RL_v rfl rfl (yd_field rfl ft_79_3 rfl) ?_
            refine RL_v rfl rfl (yd_load rfl sc_3 rfl (hs.ldu)) ?_
            by_cases hu0 : u1 ≠ 0
            · refine RL_v rfl rfl (yd_ne true rfl rfl rfl (decide_eq_false (by omega))) ?_
              refine RL_nil ?_
              refine hK10 _ _ ?_
              refine CW_t rfl ?_
              refine CW_region rfl ?_
              refine RL_v rfl rfl (yd_move rfl) ?_
              refine RL_call rfl rfl rfl en_29 rfl (unread_strm hs hn8) ?_
              rintro _ w2 ⟨rfl, ⟨Hs2, av2, hs⟩, hF2⟩; refine ⟨_, rfl, ?_⟩; rw [hrest] at hs; replace hF := hF2.trans' hF
              refine RL_nil ?_
              refine hK9 _ _ ?_
              refine CW_goto rfl ?_
              exact ⟨⟨rfl, rfl, trivial⟩, ⟨S, _, _, _, a, m, n, hs, hb, hbs, hS⟩, hF⟩
            · refine RL_v rfl rfl (yd_ne false rfl rfl rfl (decide_eq_true (by omega))) ?_
              refine RL_nil ?_
              refine hK10 _ _ ?_
              refine CW_f rfl ?_
              refine CW_skip ?_
              refine hK9 _ _ ?_
              refine CW_goto rfl ?_
              have e : S1 = S := by
                have h0 : u1 = 0 := by omega
                rw [h0] at hrest; simpa using hrest
              rw [e] at hs
              exact ⟨⟨rfl, rfl, trivial⟩, ⟨S, _, _, _, a, m, n, hs, hb, hbs, hS⟩, hF⟩
          · refine RL_v rfl rfl (yd_assign rfl) ?_
            refine RL_nil ?_
            refine hK5 _ _ ?_
            refine CW_seq fun K11 hK11 => ?_
            refine CW_region rfl ?_
            refine RL_v rfl rfl (yd_move rfl) ?_
            refine RL_v rfl rfl (yd_ne_nil rfl if_65 rfl) ?_
            refine RL_nil ?_
            refine hK11 _ _ ?_
            refine CW_t rfl ?_
            refine CW_seq fun K12 hK12 => ?_
            refine CW_seq fun K13 hK13 => ?_
            refine CW_region rfl ?_
            refine RL_v rfl rfl (yd_move rfl) ?_
            refine RL_v rfl rfl (yd_mki rfl un_105 nf_105) ?_
            refine RL_v rfl rfl (yd_cmp_same (.inr rfl) rfl if_65 rfl rfl cmp_105 (equalIn_str' Tryd.underlying105 short_miss)) ?_
            refine RL_v rfl rfl (yd_move rfl) ?_
            refine RL_gv rfl rfl (yd_move rfl) ?_
            refine RL_gv rfl rfl (yd_mki rfl un_105 nf_105) ?_
            refine RL_gv rfl rfl (yd_cmp_same (.inr rfl) rfl if_65 rfl rfl cmp_105 (equalIn_str' Tryd.underlying105 short_short)) ?_
            refine RL_v rfl rfl (yd_pick rfl rfl) ?_
            refine RL_nil ?_
            refine hK13 _ _ ?_
            refine CW_f rfl ?_
            refine CW_skip ?_
            refine hK12 _ _ ?_
            refine CW_seq fun K14 hK14 => ?_
            refine CW_seq fun K15 hK15 => ?_
            refine CW_region rfl ?_
            refine RL_v rfl rfl (yd_move rfl) ?_
            refine RL_v rfl rfl (yd_nil rfl rfl) ?_
            refine RL_v rfl rfl (yd_field rfl ft_100_2 rfl) ?_
            refine RL_v rfl rfl (yd_field rfl ft_79_3 rfl) ?_
            refine RL_v rfl rfl (yd_load rfl sc_3 rfl (hs.ldu)) ?_
            by_cases hu0 : u1 ≠ 0
            · refine RL_v rfl rfl (yd_ne true rfl rfl rfl (decide_eq_false (by omega))) ?_
              refine RL_nil ?_
              refine hK15 _ _ ?_
              refine CW_t rfl ?_
              refine CW_region rfl ?_
              refine RL_v rfl rfl (yd_move rfl) ?_
              refine RL_call rfl rfl rfl en_29 rfl (unread_strm hs hn8) ?_
              rintro _ w2 ⟨rfl, ⟨Hs2, av2, hs⟩, hF2⟩; refine ⟨_, rfl, ?_⟩; rw [hrest] at hs; replace hF := hF2.trans' hF
              refine RL_nil ?_
              refine hK14 _ _ ?_
              refine CW_goto rfl ?_
              exact ⟨⟨rfl, rfl, trivial⟩, ⟨S, _, _, _, a, m, n, hs, hb, hbs, hS⟩, hF⟩
            · refine RL_v rfl rfl (yd_ne false rfl rfl rfl (decide_eq_true (by omega))) ?_
              refine RL_nil ?_
              refine hK15 _ _ ?_
              refine CW_f rfl ?_
              refine CW_skip ?_
              refine hK14 _ _ ?_
              refine CW_goto rfl ?_
              have e : S1 = S := by
                have h0 : u1 = 0 := by omega
                rw [h0] at hrest; simpa using hrest
              rw [e] at hs
              exact ⟨⟨rfl, rfl, trivial⟩, ⟨S, _, _, _, a, m, n, hs, hb, hbs, hS⟩, hF⟩
        · obtain ⟨hc, hS'⟩ := destuff_lt hd hS
          refine RL_call rfl rfl rfl en_28 rfl (ens_ok (k := 8) hd hc hb hn8 (by omega) hs) ?_
          rintro _ w1 ⟨rfl, ⟨a1, m1, Hs1, u1, av1, hs, hb1, hbits⟩, hF1⟩; refine ⟨_, rfl, ?_⟩; replace hF := hF1.trans' hF
          have hbs1 : bitsN a1 (n + 8) ++ bitsOf S' = bs := by rw [hbits, List.append_assoc, ← bitsOf_some hd]; exact hbs
          refine RL_v rfl rfl (yd_assign rfl) ?_
          refine RL_nil ?_
          refine hK5 _ _ ?_
          refine CW_seq fun K16 hK16 => ?_
          refine CW_region rfl ?_
          refine RL_v rfl rfl (yd_move rfl) ?_
          refine RL_v rfl rfl (yd_ne_nil' rfl if_65 rfl) ?_
          refine RL_nil ?_
          refine hK16 _ _ ?_
          refine CW_f rfl ?_
          refine CW_skip ?_
          exact ⟨⟨rfl, rfl, trivial⟩, S', _, _, _, a1, m1, n + 8, hs, hb1, hbs1, hS', by omega, hF⟩
      · refine RL_v rfl rfl (yd_lt false rfl rfl rfl (decide_eq_false (by omega))) ?_
        refine RL_nil ?_
        refine hK4 _ _ ?_
        refine CW_f rfl ?_
        refine CW_skip ?_
        exact ⟨⟨rfl, rfl, trivial⟩, S, _, _, _, a, m, n, hs, hb, hbs, hS, by omega, hF⟩
    · intro σ w ⟨hσ, S, Hs, u, av, a, m, n, hs, hb, hbs, hS, hn8, hF⟩; refine CW_at hσ ?_
      have hn15 := hb.2.1
      obtain ⟨v, hv, hvok⟩ := hX.lut (a / 2 ^ (n - 8) % 256) (by omega)
      refine CW_cut (fun σ w => AtS σ [(0, .pointer (some ⟨D, 0, none⟩)), (1, .pointer (some ⟨D, hh, none⟩))] ∧ BS w.heap D R e1 e2 X bs ∧ Fr (DR D R) w0 w) ?_ ?_
      · refine CW_seq fun K17 hK17 => ?_
        refine CW_draw 17 mixed (by kernel_rfl) rfl ?_
        refine RD_v rfl rfl (yd_move rfl) ?_
        refine RD_v rfl rfl (yd_move rfl) ?_
        refine RD_v rfl rfl (yd_nil rfl rfl) ?_
        refine RD_v rfl rfl (yd_field rfl ft_100_1 rfl) ?_
        refine RD_v rfl rfl (yd_field rfl ft_77_0 rfl) ?_
        refine RD_v rfl rfl (yd_load rfl sc_40 rfl (hs.lda)) ?_
        refine RD_v rfl rfl (yd_move rfl) ?_
        refine RD_v rfl rfl (yd_nil rfl rfl) ?_
        refine RD_v rfl rfl (yd_field rfl ft_100_1 rfl) ?_
        refine RD_v rfl rfl (yd_field rfl ft_77_2 rfl) ?_
        refine RD_v rfl rfl (yd_load rfl sc_21 rfl (hs.ldn)) ?_
        refine RD_v rfl rfl (yd_sub32 rfl rfl rfl (by omega)) ?_
        refine RD_v rfl rfl (yd_conv rfl so_21 it_40 rfl _ (by rw [show ((n : Int) - 8) = ((n - 8 : Nat) : Int) by omega, wrap_u32, Nat.mod_eq_of_lt (by omega)])) ?_
        refine RD_v rfl rfl (yd_shr rfl rfl rfl (by omega) _ (shr_k .u32 a (n - 8) (by show n - 8 ≤ 32; omega))) ?_
        refine RD_v rfl rfl (yd_and rfl rfl rfl _ (and255 a (n - 8) hb.1)) ?_
        refine RD_v rfl rfl (yd_nil rfl rfl) ?_
        refine RD_v rfl rfl (yd_field rfl ft_92_1 rfl) ?_
        refine RD_nil ?_
        refine RL_v rfl rfl (yd_ix1 rfl at_88 rfl rfl (a / 2 ^ (n - 8) % 256) (rfl) (by omega)) ?_
        refine RL_v rfl rfl (yd_load rfl sc_82 rfl ((hs.ldx (by omega)).trans hv)) ?_
        refine RL_v rfl rfl (yd_assign rfl) ?_
        refine RL_nil ?_
        refine hK17 _ _ ?_
        refine CW_seq fun K18 hK18 => ?_
        refine CW_region rfl ?_
        refine RL_v rfl rfl (yd_move rfl) ?_
        by_cases hv0 : v ≠ 0
        · refine RL_v rfl rfl (yd_ne true rfl rfl rfl (decide_eq_false (by omega))) ?_
          refine RL_nil ?_
          refine hK18 _ _ ?_
          refine CW_t rfl ?_
          refine CW_seq fun K19 hK19 => ?_
          refine CW_region rfl ?_
          obtain ⟨hv16, hvk⟩ := hvok
          obtain ⟨L, s, hL1, hL8, hs256, hve, hsym⟩ := hvk hv0
          refine RL_v rfl rfl (yd_move rfl) ?_
          refine RL_v rfl rfl (yd_and rfl rfl rfl ((L + 1 : Nat) : Int) ((and255_16 v hv16).trans (by omega))) ?_
          refine RL_v rfl rfl (yd_sub rfl rfl rfl ((L : Nat) : Int) (by rw [show ((L + 1 : Nat) : Int) - 1 = (L : Int) by omega, wrap_u16, Nat.mod_eq_of_lt (by omega)])) ?_
          refine RL_v rfl rfl (yd_assign rfl) ?_
          refine RL_nil ?_
          refine hK19 _ _ ?_
          refine CW_seq fun K20 hK20 => ?_
          refine CW_region rfl ?_
          refine RL_v rfl rfl (yd_move rfl) ?_
          refine RL_v rfl rfl (yd_nil rfl rfl) ?_
          refine RL_v rfl rfl (yd_field rfl ft_100_1 rfl) ?_
          refine RL_v rfl rfl (yd_field rfl ft_77_2 rfl) ?_
          refine RL_v rfl rfl (yd_load rfl sc_21 rfl (hs.ldn)) ?_
          refine RL_v rfl rfl (yd_move rfl) ?_
          refine RL_v rfl rfl (yd_conv rfl so_82 it_21 rfl _ (IntWalk.i32_in _ (by omega))) ?_
          refine RL_v rfl rfl (yd_sub32 rfl rfl rfl (by omega)) ?_
          refine RL_v rfl rfl (yd_nil rfl rfl) ?_
          refine RL_v rfl rfl (yd_field rfl ft_100_1 rfl) ?_
          refine RL_v rfl rfl (yd_field rfl ft_77_2 rfl) ?_
          refine RL_storeW (fun w' => Strm w'.heap D R e1 e2 S Hs u av a m (n - L) X ∧ Fr (DR D R) w0 w') rfl rfl rfl sz_21 rfl rfl rfl (hs.ldn) (hs.fz) (⟨hs.setn (by omega), hF.set (fun _ => .inl rfl) _⟩) ?_
          rintro w ⟨hs, hF⟩
          refine RL_nil ?_
          refine hK20 _ _ ?_
          refine CW_seq fun K21 hK21 => ?_
          refine CW_region rfl ?_
          refine RL_v rfl rfl (yd_move rfl) ?_
          refine RL_v rfl rfl (yd_nil rfl rfl) ?_
          refine RL_v rfl rfl (yd_field rfl ft_100_1 rfl) ?_
          refine RL_v rfl rfl (yd_field rfl ft_77_1 rfl) ?_
          refine RL_v rfl rfl (yd_load rfl sc_40 rfl (hs.ldm)) ?_
          refine RL_v rfl rfl (yd_move rfl) ?_
          refine RL_v rfl rfl (yd_shr rfl rfl rfl (by omega) _ (shr_k .u32 m L (by show L ≤ 32; omega))) ?_
          refine RL_v rfl rfl (yd_nil rfl rfl) ?_
          refine RL_v rfl rfl (yd_field rfl ft_100_1 rfl) ?_
          refine RL_v rfl rfl (yd_field rfl ft_77_1 rfl) ?_
          refine RL_storeW (fun w' => Strm w'.heap D R e1 e2 S Hs u av a (m / 2 ^ L) (n - L) X ∧ Fr (DR D R) w0 w') rfl rfl rfl sz_40 rfl rfl rfl (hs.ldm) (hs.fz) (⟨hs.setm (rfl), hF.set (fun _ => .inl rfl) _⟩) ?_
          rintro w ⟨hs, hF⟩
          refine RL_nil ?_
          refine hK21 _ _ ?_
          refine CW_seq fun K22 hK22 => ?_
          refine CW_region rfl ?_
          refine RL_v rfl rfl (yd_move rfl) ?_
          refine RL_v rfl rfl (yd_shr rfl rfl rfl (by omega) ((s : Nat) : Int) ((shr_k .u16 v 8 (by decide)).trans (by omega))) ?_
          refine RL_v rfl rfl (yd_conv rfl so_82 it_5 rfl _ ((wrap_u8 s).trans (by rw [Nat.mod_eq_of_lt hs256]))) ?_
          refine RL_v rfl rfl (yd_assign rfl) ?_
          refine RL_v rfl rfl (yd_assign rfl) ?_
          refine RL_nil ?_
          refine hK22 _ _ ?_
          refine CW_ret ?_
          refine hK _ _ ?_
          exact ⟨.some (lut_step hn8 hL8 hbs hsym) rfl ⟨S, _, _, _, a, _, n - L, hs, hb.drop (by omega) (by omega), rfl, hS⟩, hF⟩
        · refine RL_v rfl rfl (yd_ne false rfl rfl rfl (decide_eq_true (by omega))) ?_
          refine RL_nil ?_
          refine hK18 _ _ ?_
          refine CW_f rfl ?_
          refine CW_skip ?_
          exact ⟨⟨rfl, rfl, trivial⟩, ⟨S, _, _, _, a, m, n, hs, hb, hbs, hS⟩, hF⟩
      · intro σ w ⟨hσ, ⟨S, Hs, u, av, a, m, n, hs, hb, hbs, hS⟩, hF⟩; refine CW_at hσ ?_
        refine CW_seq fun K23 hK23 => ?_
        refine CW_label ?_
        refine hK23 _ _ ?_
        refine CW_seq fun K24 hK24 => ?_
        refine CW_seq fun K25 hK25 => ?_
        refine CW_region rfl ?_
        refine RL_v rfl rfl (yd_assign rfl) ?_
        refine RL_v rfl rfl (yd_assign rfl) ?_
        refine RL_nil ?_
        refine hK25 _ _ ?_
        refine CW_block ?_
        refine CW_loop (n := 16) (fun σ w N => ∃ (i cp : Nat), AtS σ [(0, .pointer (some ⟨D, 0, none⟩)), (1, .pointer (some ⟨D, hh, none⟩)), (9, .int .i64 (i : Int)), (10, .int .i32 ((2 * cp) : Nat))] ∧ i ≤ 16 ∧ cp < 2 ^ i ∧ T.first i ≤ 2 * cp ∧ (∃ bs', BS w.heap D R e1 e2 X bs' ∧ T.symGo (16 - i) i cp bs' = T.sym bs) ∧ Fr (DR D R) w0 w ∧ N = 16 - i) ?_ ?_
        · exact ⟨0, 0, ⟨rfl, rfl, rfl, rfl, trivial⟩, by omega, by decide, Nat.le_refl _, ⟨bs, ⟨S, _, _, _, a, m, n, hs, hb, hbs, hS⟩, rfl⟩, hF, rfl⟩
        · intro σ w N hI K26 hK26
          obtain ⟨i, cp, hσ, hi, hcp, hfi, ⟨bs', ⟨S, Hs, u, av, a, m, n, hs, hb, hbs, hS⟩, hsy⟩, hF, hN⟩ := hI
          refine CW_at hσ ?_
          have hn15 := hb.2.1
          refine CW_seq fun K27 hK27 => ?_
          refine CW_seq fun K28 hK28 => ?_
          refine CW_region rfl ?_
          refine RL_v rfl rfl (yd_move rfl) ?_
          by_cases hi16 : i < 16
          · refine RL_v rfl rfl (yd_lt true rfl rfl rfl (decide_eq_true (by omega))) ?_
            refine RL_nil ?_
            refine hK28 _ _ ?_
            refine CW_t rfl ?_
            refine CW_skip ?_
            refine hK27 _ _ ?_
            refine CW_seq fun K29 hK29 => ?_
            refine CW_block ?_
            refine CW_cut (fun σ w => AtS σ [(0, .pointer (some ⟨D, 0, none⟩)), (1, .pointer (some ⟨D, hh, none⟩)), (9, .int .i64 (i : Int)), (10, .int .i32 ((2 * cp) : Nat))] ∧ ∃ S Hs u av a m n, Strm w.heap D R e1 e2 S Hs u av a m n X ∧ BitsSt a m n ∧ bitsN a n ++ bitsOf S = bs' ∧ (∀ x ∈ S, x < 256) ∧ 0 < n ∧ Fr (DR D R) w0 w) ?_ ?_
            · refine CW_seq fun K30 hK30 => ?_
              refine CW_region rfl ?_
              refine RL_v rfl rfl (yd_move rfl) ?_
              refine RL_v rfl rfl (yd_nil rfl rfl) ?_
              refine RL_v rfl rfl (yd_field rfl ft_100_1 rfl) ?_
              refine RL_v rfl rfl (yd_field rfl ft_77_2 rfl) ?_
              refine RL_v rfl rfl (yd_load rfl sc_21 rfl (hs.ldn)) ?_
              by_cases hn0 : n = 0
              · refine RL_v rfl rfl (yd_eq true rfl rfl rfl (decide_eq_true (by omega))) ?_
                refine RL_nil ?_
                refine hK30 _ _ ?_
                refine CW_t rfl ?_
                refine CW_seq fun K31 hK31 => ?_
                refine CW_region rfl ?_
                refine RL_v rfl rfl (yd_move rfl) ?_
                rcases hd : destuff S with _ | ⟨c, S'⟩
                · refine RL_call rfl rfl rfl en_28 rfl (ens_fail (k := 1) hd hs) ?_
                  rintro _ w1 ⟨⟨er, rfl, her⟩, ⟨S1, Hs1, u1, av1, hs, hrest⟩, hF1⟩; refine ⟨_, rfl, ?_⟩; replace hF := hF1.trans' hF
                  rcases her with rfl | rfl
                  · refine RL_v rfl rfl (yd_assign rfl) ?_
                    refine RL_nil ?_
                    refine hK31 _ _ ?_
                    refine CW_seq fun K32 hK32 => ?_
                    refine CW_region rfl ?_
                    refine RL_v rfl rfl (yd_move rfl) ?_
                    refine RL_v rfl rfl (yd_ne_nil rfl if_65 rfl) ?_
                    refine RL_nil ?_
                    refine hK32 _ _ ?_
                    refine CW_t rfl ?_
                    refine CW_seq fun K33 hK33 => ?_
                    refine CW_region rfl ?_
                    refine RL_v rfl rfl (yd_move rfl) ?_
                    refine RL_v rfl rfl (yd_assign rfl) ?_
                    refine RL_v rfl rfl (yd_assign rfl) ?_
                    refine RL_nil ?_
                    refine hK33 _ _ ?_
                    refine CW_ret ?_
                    refine hK _ _ ?_
                    exact ⟨.none (by rw [← hsy, ← hbs, hn0, bitsOf_none hd, show 16 - i = (15 - i) + 1 by omega]; rfl) rfl, hF⟩
                  · refine RL_v rfl rfl (yd_assign rfl) ?_
                    refine RL_nil ?_
                    refine hK31 _ _ ?_
                    refine CW_seq fun K34 hK34 => ?_
                    refine CW_region rfl ?_
                    refine RL_v rfl rfl (yd_move rfl) ?_
                    refine RL_v rfl rfl (yd_ne_nil rfl if_65 rfl) ?_
                    refine RL_nil ?_
                    refine hK34 _ _ ?_
                    refine CW_t rfl ?_
                    refine CW_seq fun K35 hK35 => ?_
                    refine CW_region rfl ?_
                    refine RL_v rfl rfl (yd_move rfl) ?_
                    refine RL_v rfl rfl (yd_assign rfl) ?_
                    refine RL_v rfl rfl (yd_assign rfl) ?_
                    refine RL_nil ?_
                    refine hK35 _ _ ?_
                    refine CW_ret ?_
                    refine hK _ _ ?_
                    exact ⟨.none (by rw [← hsy, ← hbs, hn0, bitsOf_none hd, show 16 - i = (15 - i) + 1 by omega]; rfl) rfl, hF⟩
                · obtain ⟨hc, hS'⟩ := destuff_lt hd hS
                  refine RL_call rfl rfl rfl en_28 rfl (ens_ok (k := 1) hd hc hb (by omega) (by omega) hs) ?_
                  rintro _ w1 ⟨rfl, ⟨a1, m1, Hs1, u1, av1, hs, hb1, hbits⟩, hF1⟩; refine ⟨_, rfl, ?_⟩; replace hF := hF1.trans' hF
                  have hbs1 : bitsN a1 (n + 8) ++ bitsOf S' = bs' := by rw [hbits, List.append_assoc, ← bitsOf_some hd]; exact hbs
                  refine RL_v rfl rfl (yd_assign rfl) ?_
                  refine RL_nil ?_
                  refine hK31 _ _ ?_
                  refine CW_seq fun K36 hK36 => ?_
                  refine CW_region rfl ?_
                  refine RL_v rfl rfl (yd_move rfl) ?_
                  refine RL_v rfl rfl (yd_ne_nil' rfl if_65 rfl) ?_
                  refine RL_nil ?_
                  refine hK36 _ _ ?_
                  refine CW_f rfl ?_
                  refine CW_skip ?_
                  exact ⟨⟨rfl, rfl, rfl, rfl, trivial⟩, S', _, _, _, a1, m1, n + 8, hs, hb1, hbs1, hS', by omega, hF⟩
              · refine RL_v rfl rfl (yd_eq false rfl rfl rfl (decide_eq_false (by omega))) ?_
                refine RL_nil ?_
                refine hK30 _ _ ?_
                refine CW_f rfl ?_
                refine CW_skip ?_
                exact ⟨⟨rfl, rfl, rfl, rfl, trivial⟩, S, _, _, _, a, m, n, hs, hb, hbs, hS, by omega, hF⟩
            · intro σ w ⟨hσ, S, Hs, u, av, a, m, n, hs, hb, hbs, hS, hn0, hF⟩; refine CW_at hσ ?_
              have hn15 := hb.2.1
              have hbit := (and_m hb hn0).2
              have h15 : (2 : Nat) ^ i ≤ 2 ^ 15 := Nat.pow_le_pow_right (by decide) (by omega)
              have hcp16 : cp < 32768 := Nat.lt_of_lt_of_le hcp h15
              refine CW_cut (fun σ w => AtS σ [(0, .pointer (some ⟨D, 0, none⟩)), (1, .pointer (some ⟨D, hh, none⟩)), (9, .int .i64 (i : Int)), (10, .int .i32 ((2 * cp + (a.testBit (n - 1)).toNat) : Nat))] ∧ Strm w.heap D R e1 e2 S Hs u av a m n X ∧ Fr (DR D R) w0 w) ?_ ?_
              · refine CW_seq fun K37 hK37 => ?_
                refine CW_draw 10 mixed (by kernel_rfl) rfl ?_
                refine RD_v rfl rfl (yd_move rfl) ?_
                refine RD_v rfl rfl (yd_nil rfl rfl) ?_
                refine RD_v rfl rfl (yd_field rfl ft_100_1 rfl) ?_
                refine RD_v rfl rfl (yd_field rfl ft_77_0 rfl) ?_
                refine RD_v rfl rfl (yd_load rfl sc_40 rfl (hs.lda)) ?_
                refine RD_v rfl rfl (yd_move rfl) ?_
                refine RD_v rfl rfl (yd_nil rfl rfl) ?_
                refine RD_v rfl rfl (yd_field rfl ft_100_1 rfl) ?_
                refine RD_v rfl rfl (yd_field rfl ft_77_1 rfl) ?_
                refine RD_v rfl rfl (yd_load rfl sc_40 rfl (hs.ldm)) ?_
                refine RD_nil ?_
                refine RL_v rfl rfl (yd_and rfl rfl rfl _ (and_m hb hn0).1) ?_
                by_cases hbt : a.testBit (n - 1) = true
                · refine RL_v rfl rfl (yd_ne true rfl rfl rfl (decide_eq_false (by intro e; have h := hbit.1 (by omega); rw [hbt] at h; cases h))) ?_
                  refine RL_nil ?_
                  refine hK37 _ _ ?_
                  refine CW_t rfl ?_
                  refine CW_region rfl ?_
                  refine RL_v rfl rfl (yd_move rfl) ?_
                  refine RL_v rfl rfl (yd_or rfl rfl rfl _ (or1_i32 cp (by omega))) ?_
                  refine RL_v rfl rfl (yd_assign rfl) ?_
                  refine RL_nil ?_
                  exact ⟨⟨rfl, rfl, rfl, by rw [hbt]; rfl, trivial⟩, hs, hF⟩
                · refine RL_v rfl rfl (yd_ne false rfl rfl rfl (decide_eq_true (by have h := hbit.2 (by simpa using hbt); omega))) ?_
                  refine RL_nil ?_
                  refine hK37 _ _ ?_
                  refine CW_f rfl ?_
                  refine CW_skip ?_
                  exact ⟨⟨rfl, rfl, rfl, by rw [Bool.eq_false_iff.2 hbt]; rfl, trivial⟩, hs, hF⟩
              · intro σ w ⟨hσ, hs, hF⟩
                obtain ⟨b, hbq⟩ : ∃ b, b = a.testBit (n - 1) := ⟨_, rfl⟩
                rw [← hbq] at hσ
                refine CW_at hσ ?_
                have hb1 : b.toNat ≤ 1 := by cases b <;> decide
                have hbe : bs' = b :: (bitsN a (n - 1) ++ bitsOf S) := by
                  rw [← hbs, hbq]
                  obtain ⟨n', rfl⟩ : ∃ n', n = n' + 1 := ⟨n - 1, by omega⟩
                  rfl
                obtain ⟨mn, mx, ix, h1, h2, h3, h4, h5⟩ := hX.codes i hi16
                refine CW_seq fun K38 hK38 => ?_
                refine CW_region rfl ?_
                refine RL_v rfl rfl (yd_move rfl) ?_
                refine RL_v rfl rfl (yd_nil rfl rfl) ?_
                refine RL_v rfl rfl (yd_field rfl ft_100_1 rfl) ?_
                refine RL_v rfl rfl (yd_field rfl ft_77_2 rfl) ?_
                refine RL_v rfl rfl (yd_load rfl sc_21 rfl (hs.ldn)) ?_
                refine RL_v rfl rfl (yd_sub32 rfl rfl rfl (by omega)) ?_
                refine RL_v rfl rfl (yd_nil rfl rfl) ?_
                refine RL_v rfl rfl (yd_field rfl ft_100_1 rfl) ?_
                refine RL_v rfl rfl (yd_field rfl ft_77_2 rfl) ?_
                refine RL_storeW (fun w' => Strm w'.heap D R e1 e2 S Hs u av a m (n - 1) X ∧ Fr (DR D R) w0 w') rfl rfl rfl sz_21 rfl rfl rfl (hs.ldn) (hs.fz) (⟨hs.setn (by omega), hF.set (fun _ => .inl rfl) _⟩) ?_
                rintro w ⟨hs, hF⟩
                refine RL_nil ?_
                refine hK38 _ _ ?_
                refine CW_seq fun K39 hK39 => ?_
                refine CW_region rfl ?_
                refine RL_v rfl rfl (yd_move rfl) ?_
                refine RL_v rfl rfl (yd_nil rfl rfl) ?_
                refine RL_v rfl rfl (yd_field rfl ft_100_1 rfl) ?_
                refine RL_v rfl rfl (yd_field rfl ft_77_1 rfl) ?_
                refine RL_v rfl rfl (yd_load rfl sc_40 rfl (hs.ldm)) ?_
                refine RL_v rfl rfl (yd_shr rfl rfl rfl (by omega) _ (shr_k .u32 m 1 (by decide))) ?_
                refine RL_v rfl rfl (yd_nil rfl rfl) ?_
                refine RL_v rfl rfl (yd_field rfl ft_100_1 rfl) ?_
                refine RL_v rfl rfl (yd_field rfl ft_77_1 rfl) ?_
                refine RL_storeW (fun w' => Strm w'.heap D R e1 e2 S Hs u av a (m / 2 ^ 1) (n - 1) X ∧ Fr (DR D R) w0 w') rfl rfl rfl sz_40 rfl rfl rfl (hs.ldm) (hs.fz) (⟨hs.setm (rfl), hF.set (fun _ => .inl rfl) _⟩) ?_
                rintro w ⟨hs, hF⟩
                refine RL_nil ?_
                refine hK39 _ _ ?_
                refine CW_seq fun K40 hK40 => ?_
                refine CW_seq fun K41 hK41 => ?_
                refine CW_region rfl ?_
                refine RL_v rfl rfl (yd_move rfl) ?_
                refine RL_v rfl rfl (yd_move rfl) ?_
                refine RL_v rfl rfl (yd_move rfl) ?_
                refine RL_v rfl rfl (yd_nil rfl rfl) ?_
                refine RL_v rfl rfl (yd_field rfl ft_92_4 rfl) ?_
                refine RL_v rfl rfl (yd_ix1 rfl at_90 rfl rfl (i) (rfl) (by omega)) ?_
                refine RL_v rfl rfl (yd_load rfl sc_21 rfl ((hs.ldx (by omega)).trans h2)) ?_
                by_cases htk : 2 * cp + b.toNat < T.first i + T.counts i
                · refine RL_v rfl rfl (yd_le true rfl rfl rfl (decide_eq_true (by have h := h5 (by omega); omega))) ?_
                  refine RL_nil ?_
                  refine hK41 _ _ ?_
                  refine CW_t rfl ?_
                  refine CW_seq fun K42 hK42 => ?_
                  refine CW_draw 18 mixed (by kernel_rfl) rfl ?_
                  obtain ⟨h7, h8, h9⟩ := h5 (by omega)
                  have hidx : T.idx i + T.counts i ≤ T.syms.length := by rw [hX.ok.len]; exact T.idx_mono (i := i + 1) (j := 16) (by omega)
                  have hle := hX.ok.le
                  have hsv : T.syms[T.idx i + (2 * cp + b.toNat - T.first i)]? = some (T.syms.getD (T.idx i + (2 * cp + b.toNat - T.first i)) 0) := by rw [List.getD_eq_getElem?_getD, List.getElem?_eq_getElem (by omega)]; rfl
                  refine RD_v rfl rfl (yd_move rfl) ?_
                  refine RD_v rfl rfl (yd_move rfl) ?_
                  refine RD_v rfl rfl (yd_move rfl) ?_
                  refine RD_v rfl rfl (yd_nil rfl rfl) ?_
                  refine RD_v rfl rfl (yd_field rfl ft_92_5 rfl) ?_
                  refine RD_v rfl rfl (yd_ix1 rfl at_90 rfl rfl (i) (rfl) (by omega)) ?_
                  refine RD_v rfl rfl (yd_load rfl sc_21 rfl ((hs.ldx (by omega)).trans h3)) ?_
                  refine RD_v rfl rfl (yd_move rfl) ?_
                  refine RD_v rfl rfl (yd_add32 rfl rfl rfl (by omega)) ?_
                  refine RD_v rfl rfl (yd_move rfl) ?_
                  refine RD_v rfl rfl (yd_move rfl) ?_
                  refine RD_v rfl rfl (yd_nil rfl rfl) ?_
                  refine RD_v rfl rfl (yd_field rfl ft_92_3 rfl) ?_
                  refine RD_v rfl rfl (yd_ix1 rfl at_90 rfl rfl (i) (rfl) (by omega)) ?_
                  refine RD_v rfl rfl (yd_load rfl sc_21 rfl ((hs.ldx (by omega)).trans h1)) ?_
                  refine RD_v rfl rfl (yd_sub32 rfl rfl rfl (by omega)) ?_
                  refine RD_v rfl rfl (yd_nil rfl rfl) ?_
                  refine RD_v rfl rfl (yd_field rfl ft_92_2 rfl) ?_
                  refine RD_nil ?_
                  refine RL_v rfl rfl (yd_ix1 rfl at_89 rfl rfl (T.idx i + (2 * cp + b.toNat - T.first i)) (by omega) (by omega)) ?_
                  refine RL_v rfl rfl (yd_load rfl sc_5 rfl ((hs.ldx (by omega)).trans (hX.vals _ _ hsv))) ?_
                  refine RL_v rfl rfl (yd_assign rfl) ?_
                  refine RL_v rfl rfl (yd_assign rfl) ?_
                  refine RL_nil ?_
                  refine hK42 _ _ ?_
                  refine CW_ret ?_
                  refine hK _ _ ?_
                  exact ⟨.some (by rw [← hsy, hbe, show 16 - i = (15 - i) + 1 by omega]; exact Tab.symGo_take htk) rfl ⟨S, _, _, _, a, _, n - 1, hs, hb.drop (L := 1) (by omega) (by omega), rfl, hS⟩, hF⟩
                · refine RL_v rfl rfl (yd_le false rfl rfl rfl (decide_eq_false (by rcases Nat.eq_zero_or_pos (T.counts i) with h6 | h6 <;> first | (have h := h4 h6; omega) | (have h := h5 h6; omega)))) ?_
                  refine RL_nil ?_
                  refine hK41 _ _ ?_
                  refine CW_f rfl ?_
                  refine CW_skip ?_
                  refine hK40 _ _ ?_
                  refine CW_region rfl ?_
                  refine RL_v rfl rfl (yd_move rfl) ?_
                  refine RL_v rfl rfl (yd_shl rfl rfl rfl (by omega) _ (shl1_i32 (2 * cp + b.toNat) (by omega))) ?_
                  refine RL_v rfl rfl (yd_assign rfl) ?_
                  refine RL_nil ?_
                  refine hK29 _ _ ?_
                  refine CW_region rfl ?_
                  refine RL_v rfl rfl (yd_move rfl) ?_
                  refine RL_v rfl rfl (yd_add64 rfl rfl rfl (by omega)) ?_
                  refine RL_v rfl rfl (yd_assign rfl) ?_
                  refine RL_nil ?_
                  refine hK26 _ _ ?_
                  have hcp' : 2 * cp + b.toNat < 2 ^ (i + 1) := by rw [Nat.pow_succ]; omega
                  exact ⟨16 - (i + 1), by omega, i + 1, 2 * cp + b.toNat, ⟨rfl, rfl, rfl, rfl, trivial⟩, by omega, hcp', by show (T.first i + T.counts i) * 2 ≤ _; omega, ⟨_, ⟨S, _, _, _, a, _, n - 1, hs, hb.drop (L := 1) (by omega) (by omega), rfl, hS⟩, by
                    rw [← hsy, hbe, show 16 - i = (16 - (i + 1)) + 1 by omega, Tab.symGo_pass htk]⟩, hF, rfl⟩
          · refine RL_v rfl rfl (yd_lt false rfl rfl rfl (decide_eq_false (by omega))) ?_
            refine RL_nil ?_
            refine hK28 _ _ ?_
            refine CW_f rfl ?_
            refine CW_exit rfl ?_
            refine hK24 _ _ ?_
            refine CW_seq fun K43 hK43 => ?_
            refine CW_region rfl ?_
            refine RL_v rfl rfl (yd_mki rfl un_105 nf_105) ?_
            refine RL_v rfl rfl (yd_assign rfl) ?_
            refine RL_v rfl rfl (yd_assign rfl) ?_
            refine RL_nil ?_
            refine hK43 _ _ ?_
            refine CW_ret ?_
            refine hK _ _ ?_
            exact ⟨.none (by rw [← hsy, show 16 - i = 0 by omega]; rfl) rfl, hF⟩
  · intro σ w ⟨hσ, ⟨S, Hs, u, av, a, m, n, hs, hb, hbs, hS⟩, hF⟩; refine CW_at hσ ?_
    refine CW_cut (fun σ w => AtS σ [(0, .pointer (some ⟨D, 0, none⟩)), (1, .pointer (some ⟨D, hh, none⟩))] ∧ BS w.heap D R e1 e2 X bs ∧ Fr (DR D R) w0 w) ?_ ?_
    · refine CW_skip ?_
      exact ⟨⟨rfl, rfl, trivial⟩, ⟨S, _, _, _, a, m, n, hs, hb, hbs, hS⟩, hF⟩
    · intro σ w ⟨hσ, ⟨S, Hs, u, av, a, m, n, hs, hb, hbs, hS⟩, hF⟩; refine CW_at hσ ?_
      refine CW_seq fun K44 hK44 => ?_
      refine CW_seq fun K45 hK45 => ?_
      refine CW_region rfl ?_
      refine RL_v rfl rfl (yd_assign rfl) ?_
      refine RL_v rfl rfl (yd_assign rfl) ?_
      refine RL_nil ?_
      refine hK45 _ _ ?_
      refine CW_block ?_
      refine CW_loop (n := 16) (fun σ w N => ∃ (i cp : Nat), AtS σ [(0, .pointer (some ⟨D, 0, none⟩)), (1, .pointer (some ⟨D, hh, none⟩)), (9, .int .i64 (i : Int)), (10, .int .i32 ((2 * cp) : Nat))] ∧ i ≤ 16 ∧ cp < 2 ^ i ∧ T.first i ≤ 2 * cp ∧ (∃ bs', BS w.heap D R e1 e2 X bs' ∧ T.symGo (16 - i) i cp bs' = T.sym bs) ∧ Fr (DR D R) w0 w ∧ N = 16 - i) ?_ ?_
      · exact ⟨0, 0, ⟨rfl, rfl, rfl, rfl, trivial⟩, by omega, by decide, Nat.le_refl _, ⟨bs, ⟨S, _, _, _, a, m, n, hs, hb, hbs, hS⟩, rfl⟩, hF, rfl⟩
      · intro σ w N hI K46 hK46
        obtain ⟨i, cp, hσ, hi, hcp, hfi, ⟨bs', ⟨S, Hs, u, av, a, m, n, hs, hb, hbs, hS⟩, hsy⟩, hF, hN⟩ := hI
        refine CW_at hσ ?_
        have hn15 := hb.2.1
        refine CW_seq fun K47 hK47 => ?_
        refine CW_seq fun K48 hK48 => ?_
        refine CW_region rfl ?_
        refine RL_v rfl rfl (yd_move rfl) ?_
        by_cases hi16 : i < 16
        · refine RL_v rfl rfl (yd_lt true rfl rfl rfl (decide_eq_true (by omega))) ?_
          refine RL_nil ?_
          refine hK48 _ _ ?_
          refine CW_t rfl ?_
          refine CW_skip ?_
          refine hK47 _ _ ?_
          refine CW_seq fun K49 hK49 => ?_
          refine CW_block ?_
          refine CW_cut (fun σ w => AtS σ [(0, .pointer (some ⟨D, 0, none⟩)), (1, .pointer (some ⟨D, hh, none⟩)), (9, .int .i64 (i : Int)), (10, .int .i32 ((2 * cp) : Nat))] ∧ ∃ S Hs u av a m n, Strm w.heap D R e1 e2 S Hs u av a m n X ∧ BitsSt a m n ∧ bitsN a n ++ bitsOf S = bs' ∧ (∀ x ∈ S, x < 256) ∧ 0 < n ∧ Fr (DR D R) w0 w) ?_ ?_
          · refine CW_seq fun K50 hK50 => ?_
            refine CW_region rfl ?_
            refine RL_v rfl rfl (yd_move rfl) ?_
            refine RL_v rfl rfl (yd_nil rfl rfl) ?_
            refine RL_v rfl rfl (yd_field rfl ft_100_1 rfl) ?_
            refine RL_v rfl rfl (yd_field rfl ft_77_2 rfl) ?_
            refine RL_v rfl rfl (yd_load rfl sc_21 rfl (hs.ldn)) ?_
            by_cases hn0 : n = 0
            · refine RL_v rfl rfl (yd_eq true rfl rfl rfl (decide_eq_true (by omega))) ?_
              refine RL_nil ?_
              refine hK50 _ _ ?_
              refine CW_t rfl ?_
              refine CW_seq fun K51 hK51 => ?_
              refine CW_region rfl ?_
              refine RL_v rfl rfl (yd_move rfl) ?_
              rcases hd : destuff S with _ | ⟨c, S'⟩
              · refine RL_call rfl rfl rfl en_28 rfl (ens_fail (k := 1) hd hs) ?_
                rintro _ w1 ⟨⟨er, rfl, her⟩, ⟨S1, Hs1, u1, av1, hs, hrest⟩, hF1⟩; refine ⟨_, rfl, ?_⟩; replace hF := hF1.trans' hF
                rcases her with rfl | rfl
                · refine RL_v rfl rfl (yd_assign rfl) ?_
                  refine RL_nil ?_
                  refine hK51 _ _ ?_
                  refine CW_seq fun K52 hK52 => ?_
                  refine CW_region rfl ?_
                  refine RL_v rfl rfl (yd_move rfl) ?_
                  refine RL_v rfl rfl (yd_ne_nil rfl if_65 rfl) ?_
                  refine RL_nil ?_
                  refine hK52 _ _ ?_
                  refine CW_t rfl ?_
                  refine CW_seq fun K53 hK53 => ?_
                  refine CW_region rfl ?_
                  refine RL_v rfl rfl (yd_move rfl) ?_
                  refine RL_v rfl rfl (yd_assign rfl) ?_
                  refine RL_v rfl rfl (yd_assign rfl) ?_
                  refine RL_nil ?_
                  refine hK53 _ _ ?_
                  refine CW_ret ?_
                  refine hK _ _ ?_
                  exact ⟨.none (by rw [← hsy, ← hbs, hn0, bitsOf_none hd, show 16 - i = (15 - i) + 1 by omega]; rfl) rfl, hF⟩
                · refine RL_v rfl rfl (yd_assign rfl) ?_
                  refine RL_nil ?_
                  refine hK51 _ _ ?_
                  refine CW_seq fun K54 hK54 => ?_
                  refine CW_region rfl ?_
                  refine RL_v rfl rfl (yd_move rfl) ?_
                  refine RL_v rfl rfl (yd_ne_nil rfl if_65 rfl) ?_
                  refine RL_nil ?_
                  refine hK54 _ _ ?_
                  refine CW_t rfl ?_
                  refine CW_seq fun K55 hK55 => ?_
                  refine CW_region rfl ?_
                  refine RL_v rfl rfl (yd_move rfl) ?_
                  refine RL_v rfl rfl (yd_assign rfl) ?_
                  refine RL_v rfl rfl (yd_assign rfl) ?_
                  refine RL_nil ?_
                  refine hK55 _ _ ?_
                  refine CW_ret ?_
                  refine hK _ _ ?_
                  exact ⟨.none (by rw [← hsy, ← hbs, hn0, bitsOf_none hd, show 16 - i = (15 - i) + 1 by omega]; rfl) rfl, hF⟩
              · obtain ⟨hc, hS'⟩ := destuff_lt hd hS
                refine RL_call rfl rfl rfl en_28 rfl (ens_ok (k := 1) hd hc hb (by omega) (by omega) hs) ?_
                rintro _ w1 ⟨rfl, ⟨a1, m1, Hs1, u1, av1, hs, hb1, hbits⟩, hF1⟩; refine ⟨_, rfl, ?_⟩; replace hF := hF1.trans' hF
                have hbs1 : bitsN a1 (n + 8) ++ bitsOf S' = bs' := by rw [hbits, List.append_assoc, ← bitsOf_some hd]; exact hbs
                refine RL_v rfl rfl (yd_assign rfl) ?_
                refine RL_nil ?_
                refine hK51 _ _ ?_
                refine CW_seq fun K56 hK56 => ?_
                refine CW_region rfl ?_
                refine RL_v rfl rfl (yd_move rfl) ?_
                refine RL_v rfl rfl (yd_ne_nil' rfl if_65 rfl) ?_
                refine RL_nil ?_
                refine hK56 _ _ ?_
                refine CW_f rfl ?_
                refine CW_skip ?_
                exact ⟨⟨rfl, rfl, rfl, rfl, trivial⟩, S', _, _, _, a1, m1, n + 8, hs, hb1, hbs1, hS', by omega, hF⟩
            · refine RL_v rfl rfl (yd_eq false rfl rfl rfl (decide_eq_false (by omega))) ?_
              refine RL_nil ?_
              refine hK50 _ _ ?_
              refine CW_f rfl ?_
              refine CW_skip ?_
              exact ⟨⟨rfl, rfl, rfl, rfl, trivial⟩, S, _, _, _, a, m, n, hs, hb, hbs, hS, by omega, hF⟩
          · intro σ w ⟨hσ, S, Hs, u, av, a, m, n, hs, hb, hbs, hS, hn0, hF⟩; refine CW_at hσ ?_
            have hn15 := hb.2.1
            have hbit := (and_m hb hn0).2
            have h15 : (2 : Nat) ^ i ≤ 2 ^ 15 := Nat.pow_le_pow_right (by decide) (by omega)
            have hcp16 : cp < 32768 := Nat.lt_of_lt_of_le hcp h15
            refine CW_cut (fun σ w => AtS σ [(0, .pointer (some ⟨D, 0, none⟩)), (1, .pointer (some ⟨D, hh, none⟩)), (9, .int .i64 (i : Int)), (10, .int .i32 ((2 * cp + (a.testBit (n - 1)).toNat) : Nat))] ∧ Strm w.heap D R e1 e2 S Hs u av a m n X ∧ Fr (DR D R) w0 w) ?_ ?_
            · refine CW_seq fun K57 hK57 => ?_
              refine CW_draw 10 mixed (by kernel_rfl) rfl ?_
              refine RD_v rfl rfl (yd_move rfl) ?_
              refine RD_v rfl rfl (yd_nil rfl rfl) ?_
              refine RD_v rfl rfl (yd_field rfl ft_100_1 rfl) ?_
              refine RD_v rfl rfl (yd_field rfl ft_77_0 rfl) ?_
              refine RD_v rfl rfl (yd_load rfl sc_40 rfl (hs.lda)) ?_
              refine RD_v rfl rfl (yd_move rfl) ?_
              refine RD_v rfl rfl (yd_nil rfl rfl) ?_
              refine RD_v rfl rfl (yd_field rfl ft_100_1 rfl) ?_
              refine RD_v rfl rfl (yd_field rfl ft_77_1 rfl) ?_
              refine RD_v rfl rfl (yd_load rfl sc_40 rfl (hs.ldm)) ?_
              refine RD_nil ?_
              refine RL_v rfl rfl (yd_and rfl rfl rfl _ (and_m hb hn0).1) ?_
              by_cases hbt : a.testBit (n - 1) = true
              · refine RL_v rfl rfl (yd_ne true rfl rfl rfl (decide_eq_false (by intro e; have h := hbit.1 (by omega); rw [hbt] at h; cases h))) ?_
                refine RL_nil ?_
                refine hK57 _ _ ?_
                refine CW_t rfl ?_
                refine CW_region rfl ?_
                refine RL_v rfl rfl (yd_move rfl) ?_
                refine RL_v rfl rfl (yd_or rfl rfl rfl _ (or1_i32 cp (by omega))) ?_
                refine RL_v rfl rfl (yd_assign rfl) ?_
                refine RL_nil ?_
                exact ⟨⟨rfl, rfl, rfl, by rw [hbt]; rfl, trivial⟩, hs, hF⟩
              · refine RL_v rfl rfl (yd_ne false rfl rfl rfl (decide_eq_true (by have h := hbit.2 (by simpa using hbt); omega))) ?_
                refine RL_nil ?_
                refine hK57 _ _ ?_
                refine CW_f rfl ?_
                refine CW_skip ?_
                exact ⟨⟨rfl, rfl, rfl, by rw [Bool.eq_false_iff.2 hbt]; rfl, trivial⟩, hs, hF⟩
            · intro σ w ⟨hσ, hs, hF⟩
              obtain ⟨b, hbq⟩ : ∃ b, b = a.testBit (n - 1) := ⟨_, rfl⟩
              rw [← hbq] at hσ
              refine CW_at hσ ?_
              have hb1 : b.toNat ≤ 1 := by cases b <;> decide
              have hbe : bs' = b :: (bitsN a (n - 1) ++ bitsOf S) := by
                rw [← hbs, hbq]
                obtain ⟨n', rfl⟩ : ∃ n', n = n' + 1 := ⟨n - 1, by omega⟩
                rfl
              obtain ⟨mn, mx, ix, h1, h2, h3, h4, h5⟩ := hX.codes i hi16
              refine CW_seq fun K58 hK58 => ?_
              refine CW_region rfl ?_
              refine RL_v rfl rfl (yd_move rfl) ?_
              refine RL_v rfl rfl (yd_nil rfl rfl) ?_
              refine RL_v rfl rfl (yd_field rfl ft_100_1 rfl) ?_
              refine RL_v rfl rfl (yd_field rfl ft_77_2 rfl) ?_
              refine RL_v rfl rfl (yd_load rfl sc_21 rfl (hs.ldn)) ?_
              refine RL_v rfl rfl (yd_sub32 rfl rfl rfl (by omega)) ?_
              refine RL_v rfl rfl (yd_nil rfl rfl) ?_
              refine RL_v rfl rfl (yd_field rfl ft_100_1 rfl) ?_
              refine RL_v rfl rfl (yd_field rfl ft_77_2 rfl) ?_
              refine RL_storeW (fun w' => Strm w'.heap D R e1 e2 S Hs u av a m (n - 1) X ∧ Fr (DR D R) w0 w') rfl rfl rfl sz_21 rfl rfl rfl (hs.ldn) (hs.fz) (⟨hs.setn (by omega), hF.set (fun _ => .inl rfl) _⟩) ?_
              rintro w ⟨hs, hF⟩
              refine RL_nil ?_
              refine hK58 _ _ ?_
              refine CW_seq fun K59 hK59 => ?_
              refine CW_region rfl ?_
              refine RL_v rfl rfl (yd_move rfl) ?_
              refine RL_v rfl rfl (yd_nil rfl rfl) ?_
              refine RL_v rfl rfl (yd_field rfl ft_100_1 rfl) ?_
              refine RL_v rfl rfl (yd_field rfl ft_77_1 rfl) ?_
              refine RL_v rfl rfl (yd_load rfl sc_40 rfl (hs.ldm)) ?_
              refine RL_v rfl rfl (yd_shr rfl rfl rfl (by omega) _ (shr_k .u32 m 1 (by decide))) ?_
              refine RL_v rfl rfl (yd_nil rfl rfl) ?_
              refine RL_v rfl rfl (yd_field rfl ft_100_1 rfl) ?_
              refine RL_v rfl rfl (yd_field rfl ft_77_1 rfl) ?_
              refine RL_storeW (fun w' => Strm w'.heap D R e1 e2 S Hs u av a (m / 2 ^ 1) (n - 1) X ∧ Fr (DR D R) w0 w') rfl rfl rfl sz_40 rfl rfl rfl (hs.ldm) (hs.fz) (⟨hs.setm (rfl), hF.set (fun _ => .inl rfl) _⟩) ?_
              rintro w ⟨hs, hF⟩
              refine RL_nil ?_
              refine hK59 _ _ ?_
              refine CW_seq fun K60 hK60 => ?_
              refine CW_seq fun K61 hK61 => ?_
              refine CW_region rfl ?_
              refine RL_v rfl rfl (yd_move rfl) ?_
              refine RL_v rfl rfl (yd_move rfl) ?_
              refine RL_v rfl rfl (yd_move rfl) ?_
              refine RL_v rfl rfl (yd_nil rfl rfl) ?_
              refine RL_v rfl rfl (yd_field rfl ft_92_4 rfl) ?_
              refine RL_v rfl rfl (yd_ix1 rfl at_90 rfl rfl (i) (rfl) (by omega)) ?_
              refine RL_v rfl rfl (yd_load rfl sc_21 rfl ((hs.ldx (by omega)).trans h2)) ?_
              by_cases htk : 2 * cp + b.toNat < T.first i + T.counts i
              · refine RL_v rfl rfl (yd_le true rfl rfl rfl (decide_eq_true (by have h := h5 (by omega); omega))) ?_
                refine RL_nil ?_
                refine hK61 _ _ ?_
                refine CW_t rfl ?_
                refine CW_seq fun K62 hK62 => ?_
                refine CW_draw 18 mixed (by kernel_rfl) rfl ?_
                obtain ⟨h7, h8, h9⟩ := h5 (by omega)
                have hidx : T.idx i + T.counts i ≤ T.syms.length := by rw [hX.ok.len]; exact T.idx_mono (i := i + 1) (j := 16) (by omega)
                have hle := hX.ok.le
                have hsv : T.syms[T.idx i + (2 * cp + b.toNat - T.first i)]? = some (T.syms.getD (T.idx i + (2 * cp + b.toNat - T.first i)) 0) := by rw [List.getD_eq_getElem?_getD, List.getElem?_eq_getElem (by omega)]; rfl
                refine RD_v rfl rfl (yd_move rfl) ?_
                refine RD_v rfl rfl (yd_move rfl) ?_
                refine RD_v rfl rfl (yd_move rfl) ?_
                refine RD_v rfl rfl (yd_nil rfl rfl) ?_
                refine RD_v rfl rfl (yd_field rfl ft_92_5 rfl) ?_
                refine RD_v rfl rfl (yd_ix1 rfl at_90 rfl rfl (i) (rfl) (by omega)) ?_
                refine RD_v rfl rfl (yd_load rfl sc_21 rfl ((hs.ldx (by omega)).trans h3)) ?_
                refine RD_v rfl rfl (yd_move rfl) ?_
                refine RD_v rfl rfl (yd_add32 rfl rfl rfl (by omega)) ?_
                refine RD_v rfl rfl (yd_move rfl) ?_
                refine RD_v rfl rfl (yd_move rfl) ?_
                refine RD_v rfl rfl (yd_nil rfl rfl) ?_
                refine RD_v rfl rfl (yd_field rfl ft_92_3 rfl) ?_
                refine RD_v rfl rfl (yd_ix1 rfl at_90 rfl rfl (i) (rfl) (by omega)) ?_
                refine RD_v rfl rfl (yd_load rfl sc_21 rfl ((hs.ldx (by omega)).trans h1)) ?_
                refine RD_v rfl rfl (yd_sub32 rfl rfl rfl (by omega)) ?_
                refine RD_v rfl rfl (yd_nil rfl rfl) ?_
                refine RD_v rfl rfl (yd_field rfl ft_92_2 rfl) ?_
                refine RD_nil ?_
                refine RL_v rfl rfl (yd_ix1 rfl at_89 rfl rfl (T.idx i + (2 * cp + b.toNat - T.first i)) (by omega) (by omega)) ?_
                refine RL_v rfl rfl (yd_load rfl sc_5 rfl ((hs.ldx (by omega)).trans (hX.vals _ _ hsv))) ?_
                refine RL_v rfl rfl (yd_assign rfl) ?_
                refine RL_v rfl rfl (yd_assign rfl) ?_
                refine RL_nil ?_
                refine hK62 _ _ ?_
                refine CW_ret ?_
                refine hK _ _ ?_
                exact ⟨.some (by rw [← hsy, hbe, show 16 - i = (15 - i) + 1 by omega]; exact Tab.symGo_take htk) rfl ⟨S, _, _, _, a, _, n - 1, hs, hb.drop (L := 1) (by omega) (by omega), rfl, hS⟩, hF⟩
              · refine RL_v rfl rfl (yd_le false rfl rfl rfl (decide_eq_false (by rcases Nat.eq_zero_or_pos (T.counts i) with h6 | h6 <;> first | (have h := h4 h6; omega) | (have h := h5 h6; omega)))) ?_
                refine RL_nil ?_
                refine hK61 _ _ ?_
                refine CW_f rfl ?_
                refine CW_skip ?_
                refine hK60 _ _ ?_
                refine CW_region rfl ?_
                refine RL_v rfl rfl (yd_move rfl) ?_
                refine RL_v rfl rfl (yd_shl rfl rfl rfl (by omega) _ (shl1_i32 (2 * cp + b.toNat) (by omega))) ?_
                refine RL_v rfl rfl (yd_assign rfl) ?_
                refine RL_nil ?_
                refine hK49 _ _ ?_
                refine CW_region rfl ?_
                refine RL_v rfl rfl (yd_move rfl) ?_
                refine RL_v rfl rfl (yd_add64 rfl rfl rfl (by omega)) ?_
                refine RL_v rfl rfl (yd_assign rfl) ?_
                refine RL_nil ?_
                refine hK46 _ _ ?_
                have hcp' : 2 * cp + b.toNat < 2 ^ (i + 1) := by rw [Nat.pow_succ]; omega
                exact ⟨16 - (i + 1), by omega, i + 1, 2 * cp + b.toNat, ⟨rfl, rfl, rfl, rfl, trivial⟩, by omega, hcp', by show (T.first i + T.counts i) * 2 ≤ _; omega, ⟨_, ⟨S, _, _, _, a, _, n - 1, hs, hb.drop (L := 1) (by omega) (by omega), rfl, hS⟩, by
                  rw [← hsy, hbe, show 16 - i = (16 - (i + 1)) + 1 by omega, Tab.symGo_pass htk]⟩, hF, rfl⟩
        · refine RL_v rfl rfl (yd_lt false rfl rfl rfl (decide_eq_false (by omega))) ?_
          refine RL_nil ?_
          refine hK48 _ _ ?_
          refine CW_f rfl ?_
          refine CW_exit rfl ?_
          refine hK44 _ _ ?_
          refine CW_seq fun K63 hK63 => ?_
          refine CW_region rfl ?_
          refine RL_v rfl rfl (yd_mki rfl un_105 nf_105) ?_
          refine RL_v rfl rfl (yd_assign rfl) ?_
          refine RL_v rfl rfl (yd_assign rfl) ?_
          refine RL_nil ?_
          refine hK63 _ _ ?_
          refine CW_ret ?_
          refine hK _ _ ?_
          exact ⟨.none (by rw [← hsy, show 16 - i = 0 by omega]; rfl) rfl, hF⟩

end Go.Proofs.YtdjilplpbaackaaDoor.Eng
