/- fill: the buffer is filled from the reader, or the reader is at its end. -/
import Derived.Test.YtdjilplpbaackaaDoorRead
set_option linter.unusedVariables false
set_option linter.unusedSimpArgs false
set_option maxRecDepth 100000
namespace Go.Proofs.YtdjilplpbaackaaDoor.Eng
open Go
theorem fill_some {D R : Nat} {e1 e2 : Addr} {S Hs : List Nat} {j u a m n pos : Nat} {buf : Nat → Nat} {xs : List Nat} {X : Nat → Option Value} {w0 : World} (h : Strm0 w0.heap D R e1 e2 S Hs j j u buf xs pos a m n X) (hlt : pos < xs.length) :
    Calls Tryd.prog 37 #[.pointer (some ⟨D, 0, none⟩)] w0 fun e w' => e = .returned .nilIface ∧ (∃ av, 0 < av ∧ Strm w'.heap D R e1 e2 S Hs u av a m n X) ∧ Fr (DR D R) w0 w' := by
  have hD := h.dec
  have hR := h.rdr
  have hG := h.glob
  have hjb := h.jb
  have hDR := h.ne
  have hdlo := h.dlo
  have hrlo := h.rlo
  have hS1 : ¬ DR D R 1 := by rintro (h | h) <;> omega
  have hS2 : ¬ DR D R 2 := by rintro (h | h) <;> omega
  have hF := Fr.refl (DR D R) w0
  have hmove : 2 < j → ∀ k x, Hs[k]? = some x → updN (updN buf 0 (buf (j - 2))) 1 (buf (j - 1)) (2 - 1 - k) = x := by
    intro hj k x hk
    have hlt : k < Hs.length := by
      rcases Nat.lt_or_ge k Hs.length with h | h
      · exact h
      · rw [List.getElem?_eq_none h] at hk; cases hk
    have hl := h.hl
    have h1 := h.hb k x hk
    rcases Nat.lt_or_ge k 1 with h2 | h2
    · obtain rfl : k = 0 := by omega
      simpa [updN] using h1
    · obtain rfl : k = 1 := by omega
      have e : j - 1 - 1 = j - 2 := by omega
      rw [e] at h1
      simpa [updN] using h1
  have hfin : ∀ (w : World) (q : Nat) (buf' : Nat → Nat) (ys : List Nat), q ≤ 2 → Hs.length ≤ q → (∀ k x, Hs[k]? = some x → buf' (q - 1 - k) = x) → ys = (xs.drop pos).take (4096 - q) → DecP w.heap D R a m n q ((q + ys.length)) u ((putB buf' q ys)) X →
      RdrP w.heap D R xs (pos + ys.length) → Fr (DR D R) w0 w → GlobP w.heap e1 e2 → Ending.returned .nilIface = .returned .nilIface ∧ (∃ av, 0 < av ∧ Strm w.heap D R e1 e2 S Hs u av a m n X) ∧ Fr (DR D R) w0 w := by
    intro w q buf' ys hq hq2 hHb hys hD hR hF hG
    have hyl : ys.length = min (4096 - q) (xs.length - pos) := by rw [hys, List.length_take, List.length_drop]
    have hpb := h.pb
    have hseg : seg (putB buf' q ys) q ys.length = ys := seg_list _ ys q fun k x hx => by
      have hlt : k < ys.length := by
        rcases Nat.lt_or_ge k ys.length with h | h
        · exact h
        · rw [List.getElem?_eq_none h] at hx; cases hx
      rw [putB, if_pos (by omega), show q + k - q = k by omega]
      rw [List.getD_eq_getElem?_getD, hx]; rfl
    have hst : Strm0 w.heap D R e1 e2 S Hs q (q + ys.length) u (putB buf' q ys) xs (pos + ys.length) a m n X :=
      ⟨hD, hR, hG, hDR, hdlo, hrlo, by omega, by omega, by omega, h.xb, by
        rw [h.sE, show q + ys.length - q = ys.length by omega, hseg, Nat.sub_self, seg_zero, List.nil_append]
        have e1 : ys ++ (xs.drop pos).drop ys.length = xs.drop pos := by
          have e2 : ys.length = ((xs.drop pos).take (4096 - q)).length := by rw [hys]
          have e3 : (xs.drop pos).drop ys.length = (xs.drop pos).drop (4096 - q) := by
            rw [hyl]
            rcases Nat.le_total (4096 - q) (xs.length - pos) with h1 | h1
            · rw [Nat.min_eq_left h1]
            · rw [Nat.min_eq_right h1, List.drop_eq_nil_of_le (by simp), List.drop_eq_nil_of_le (by simp; omega)]
          rw [e3, hys, List.take_append_drop]
        rw [List.drop_drop] at e1
        exact e1.symm, h.hl, hq2, fun k x hx => by
          have hlt : k < Hs.length := by
            rcases Nat.lt_or_ge k Hs.length with h | h
            · exact h
            · rw [List.getElem?_eq_none h] at hx; cases hx
          rw [putB, if_neg (by omega)]; exact hHb k x hx, h.uh⟩
    exact ⟨rfl, ⟨ys.length, by omega, _, _, _, _, _, hst, rfl⟩, hF⟩
  refine calls1 Tryd.func37 rfl rfl rfl rfl (Nat.le_of_ble_eq_true rfl) fun K hK => ?_
  refine CW_seq fun K1 hK1 => ?_
  refine CW_region rfl ?_
  refine RL_v rfl rfl (yd_assign rfl) ?_
  refine RL_nil ?_
  refine hK1 _ _ ?_
  refine CW_seq fun K2 hK2 => ?_
  refine CW_seq fun K3 hK3 => ?_
  refine CW_draw 10 mixed (by kernel_rfl) rfl ?_
  refine RD_v rfl rfl (yd_move rfl) ?_
  refine RD_v rfl rfl (yd_nil rfl rfl) ?_
  refine RD_v rfl rfl (yd_field rfl ft_100_2 rfl) ?_
  refine RD_v rfl rfl (yd_field rfl ft_79_1 rfl) ?_
  refine RD_v rfl rfl (yd_load rfl sc_3 rfl (hD.ldi)) ?_
  refine RD_v rfl rfl (yd_move rfl) ?_
  refine RD_v rfl rfl (yd_nil rfl rfl) ?_
  refine RD_v rfl rfl (yd_field rfl ft_100_2 rfl) ?_
  refine RD_v rfl rfl (yd_field rfl ft_79_2 rfl) ?_
  refine RD_v rfl rfl (yd_load rfl sc_3 rfl (hD.ldj)) ?_
  refine RD_nil ?_
  refine RL_v rfl rfl (yd_ne false rfl rfl rfl (decide_eq_true (by omega))) ?_
  refine RL_nil ?_
  refine hK3 _ _ ?_
  refine CW_f rfl ?_
  refine CW_skip ?_
  refine hK2 _ _ ?_
  refine CW_cut (fun σ w => AtS σ [(0, .pointer (some ⟨D, 0, none⟩))] ∧ ∃ q buf', DecP w.heap D R a m n q q u buf' X ∧ RdrP w.heap D R xs pos ∧ GlobP w.heap e1 e2 ∧ Fr (DR D R) w0 w ∧ q ≤ 2 ∧ Hs.length ≤ q ∧ (∀ k x, Hs[k]? = some x → buf' (q - 1 - k) = x)) ?_ ?_
  · refine CW_seq fun K4 hK4 => ?_
    refine CW_region rfl ?_
    refine RL_v rfl rfl (yd_move rfl) ?_
    refine RL_v rfl rfl (yd_nil rfl rfl) ?_
    refine RL_v rfl rfl (yd_field rfl ft_100_2 rfl) ?_
    refine RL_v rfl rfl (yd_field rfl ft_79_2 rfl) ?_
    refine RL_v rfl rfl (yd_load rfl sc_3 rfl (hD.ldj)) ?_
    by_cases hj : 2 < j
    · refine RL_v rfl rfl (yd_gt true rfl rfl rfl (decide_eq_true (by omega))) ?_
      refine RL_nil ?_
      refine hK4 _ _ ?_
      refine CW_t rfl ?_
      refine CW_seq fun K5 hK5 => ?_
      refine CW_draw 16 mixed (by kernel_rfl) rfl ?_
      refine RD_v rfl rfl (yd_move rfl) ?_
      refine RD_v rfl rfl (yd_move rfl) ?_
      refine RD_v rfl rfl (yd_move rfl) ?_
      refine RD_v rfl rfl (yd_nil rfl rfl) ?_
      refine RD_v rfl rfl (yd_field rfl ft_100_2 rfl) ?_
      refine RD_v rfl rfl (yd_field rfl ft_79_2 rfl) ?_
      refine RD_v rfl rfl (yd_load rfl sc_3 rfl (hD.ldj)) ?_
      refine RD_v rfl rfl (yd_sub64 rfl rfl rfl (by omega)) ?_
      refine RD_v rfl rfl (yd_nil rfl rfl) ?_
      refine RD_v rfl rfl (yd_field rfl ft_100_2 rfl) ?_
      refine RD_v rfl rfl (yd_field rfl ft_79_0 rfl) ?_
      refine RD_v rfl rfl (yd_ix1 rfl at_78 rfl rfl (j - 2) (by omega) (by omega)) ?_
      refine RD_v rfl rfl (yd_load rfl sc_5 rfl (hD.ldb (by omega))) ?_
      refine RD_v rfl rfl (yd_nil rfl rfl) ?_
      refine RD_v rfl rfl (yd_field rfl ft_100_2 rfl) ?_
      refine RD_v rfl rfl (yd_field rfl ft_79_0 rfl) ?_
      refine RD_nil ?_
      refine RL_v rfl rfl (yd_ix1 rfl at_78 rfl rfl (0) (rfl) (by decide)) ?_
      refine RL_storeW (fun w' => DecP w'.heap D R a m n j j u ((updN buf 0 (buf (j - 2)))) X ∧ RdrP w'.heap D R xs pos ∧ GlobP w'.heap e1 e2 ∧ Fr (DR D R) w0 w') rfl rfl rfl sz_5 rfl rfl rfl (hD.ldb (by omega)) (hD.fz) (⟨hD.setb (q := 0) (by omega) (rfl), hR.keep' hDR (fun k hk => set_blk_ne hk _), hG.keep (set_blk_ne (by omega) _) (set_blk_ne (by omega) _), hF.set (fun _ => .inl rfl) _⟩) ?_
      rintro w ⟨hD, hR, hG, hF⟩
      refine RL_nil ?_
      refine hK5 _ _ ?_
      refine CW_seq fun K6 hK6 => ?_
      refine CW_draw 16 mixed (by kernel_rfl) rfl ?_
      refine RD_v rfl rfl (yd_move rfl) ?_
      refine RD_v rfl rfl (yd_move rfl) ?_
      refine RD_v rfl rfl (yd_move rfl) ?_
      refine RD_v rfl rfl (yd_nil rfl rfl) ?_
      refine RD_v rfl rfl (yd_field rfl ft_100_2 rfl) ?_
      refine RD_v rfl rfl (yd_field rfl ft_79_2 rfl) ?_
      refine RD_v rfl rfl (yd_load rfl sc_3 rfl (hD.ldj)) ?_
      refine RD_v rfl rfl (yd_sub64 rfl rfl rfl (by omega)) ?_
      refine RD_v rfl rfl (yd_nil rfl rfl) ?_
      refine RD_v rfl rfl (yd_field rfl ft_100_2 rfl) ?_
      refine RD_v rfl rfl (yd_field rfl ft_79_0 rfl) ?_
      refine RD_v rfl rfl (yd_ix1 rfl at_78 rfl rfl (j - 1) (by omega) (by omega)) ?_
      refine RD_v rfl rfl (yd_load rfl sc_5 rfl ((hD.ldb (by omega)).trans (by rw [updN, if_neg (by omega)]))) ?_
      refine RD_v rfl rfl (yd_nil rfl rfl) ?_
      refine RD_v rfl rfl (yd_field rfl ft_100_2 rfl) ?_
      refine RD_v rfl rfl (yd_field rfl ft_79_0 rfl) ?_
      refine RD_nil ?_
      refine RL_v rfl rfl (yd_ix1 rfl at_78 rfl rfl (1) (rfl) (by decide)) ?_
      refine RL_storeW (fun w' => DecP w'.heap D R a m n j j u ((updN (updN buf 0 (buf (j - 2))) 1 (buf (j - 1)))) X ∧ RdrP w'.heap D R xs pos ∧ GlobP w'.heap e1 e2 ∧ Fr (DR D R) w0 w') rfl rfl rfl sz_5 rfl rfl rfl (hD.ldb (by omega)) (hD.fz) (⟨hD.setb (q := 1) (by omega) (rfl), hR.keep' hDR (fun k hk => set_blk_ne hk _), hG.keep (set_blk_ne (by omega) _) (set_blk_ne (by omega) _), hF.set (fun _ => .inl rfl) _⟩) ?_
      rintro w ⟨hD, hR, hG, hF⟩
      refine RL_nil ?_
      refine hK6 _ _ ?_
      refine CW_region rfl ?_
      refine RL_v rfl rfl (yd_move rfl) ?_
      refine RL_v rfl rfl (yd_move rfl) ?_
      refine RL_v rfl rfl (yd_nil rfl rfl) ?_
      refine RL_v rfl rfl (yd_field rfl ft_100_2 rfl) ?_
      refine RL_v rfl rfl (yd_field rfl ft_79_1 rfl) ?_
      refine RL_storeW (fun w' => DecP w'.heap D R a m n 2 j u ((updN (updN buf 0 (buf (j - 2))) 1 (buf (j - 1)))) X ∧ RdrP w'.heap D R xs pos ∧ GlobP w'.heap e1 e2 ∧ Fr (DR D R) w0 w') rfl rfl rfl sz_3 rfl rfl rfl (hD.ldi) (hD.fz) (⟨hD.seti rfl, hR.keep' hDR (fun k hk => set_blk_ne hk _), hG.keep (set_blk_ne (by omega) _) (set_blk_ne (by omega) _), hF.set (fun _ => .inl rfl) _⟩) ?_
      rintro w ⟨hD, hR, hG, hF⟩
      refine RL_v rfl rfl (yd_nil rfl rfl) ?_
      refine RL_v rfl rfl (yd_field rfl ft_100_2 rfl) ?_
      refine RL_v rfl rfl (yd_field rfl ft_79_2 rfl) ?_
      refine RL_storeW (fun w' => DecP w'.heap D R a m n 2 2 u ((updN (updN buf 0 (buf (j - 2))) 1 (buf (j - 1)))) X ∧ RdrP w'.heap D R xs pos ∧ GlobP w'.heap e1 e2 ∧ Fr (DR D R) w0 w') rfl rfl rfl sz_3 rfl rfl rfl (hD.ldj) (hD.fz) (⟨hD.setj rfl, hR.keep' hDR (fun k hk => set_blk_ne hk _), hG.keep (set_blk_ne (by omega) _) (set_blk_ne (by omega) _), hF.set (fun _ => .inl rfl) _⟩) ?_
      rintro w ⟨hD, hR, hG, hF⟩
      refine RL_nil ?_
      exact ⟨⟨rfl, trivial⟩, 2, _, hD, hR, hG, hF, by omega, h.hl, hmove hj⟩
    · refine RL_v rfl rfl (yd_gt false rfl rfl rfl (decide_eq_false (by omega))) ?_
      refine RL_nil ?_
      refine hK4 _ _ ?_
      refine CW_f rfl ?_
      refine CW_skip ?_
      exact ⟨⟨rfl, trivial⟩, j, _, hD, hR, hG, hF, by omega, h.hi, h.hb⟩
  · intro σ w ⟨hσ, q, buf', hD, hR, hG, hF, hq, hq2, hHb⟩
    refine CW_at hσ ?_
    obtain ⟨ys, hys⟩ : ∃ ys, ys = (xs.drop pos).take (4096 - q) := ⟨_, rfl⟩
    have hyl : ys.length = min (4096 - q) (xs.length - pos) := by rw [hys, List.length_take, List.length_drop]
    have hDR := h.ne
    have hpb := h.pb
    have hy0 : 0 < ys.length := by omega
    obtain ⟨er, her⟩ : ∃ er, er = Value.nilIface := ⟨_, rfl⟩
    have hread : ∀ (w : World) (q' : Nat) (buf'' : Nat → Nat), q' = q → DecP w.heap D R a m n q' q' u buf'' X → RdrP w.heap D R xs pos → GlobP w.heap e1 e2 → Fr (DR D R) w0 w → Calls Tryd.prog 62 #[.pointer (some ⟨R, 0, none⟩), .slice (some ⟨D, 4 + q', none⟩) (4096 - q') (4096 - q')] w (fun e w' => e = .returned (.tuple #[.int .i64 ys.length, er]) ∧ DecP w'.heap D R a m n q' q' u ((putB buf'' q' ys)) X ∧ RdrP w'.heap D R xs (pos + ys.length) ∧ GlobP w'.heap e1 e2 ∧ Fr (DR D R) w0 w') := by
      intro w q' buf'' hq' hD hR hG hF
      rw [hq'] at hD ⊢
      refine (read_some hD hR h.ne hlt h.xb (by omega) (by omega) hys).mono fun e w' ⟨h1, h2, h3, h4⟩ => ⟨by rw [h1, her], h2, h3, hG.fr h4 hS1 hS2, hF.trans h4⟩
    refine CW_seq fun K7 hK7 => ?_
    refine CW_any (IV [66, 67, 68, 69, 70, 71, 72, 73, 74, 75, 76, 77, 78, 79, 80, 81, 82, 65, 83, 84, 3, 4] [.pointer (some ⟨D, 0, none⟩), .pointer (some ⟨D, 0, none⟩), .pointer (some ⟨D, 0, none⟩), .iface 72 (.pointer (some ⟨R, 0, none⟩)), .pointer (some ⟨D, 0, none⟩), .pointer (some ⟨D, 0, none⟩), .pointer (some ⟨D, 4, none⟩), .pointer (some ⟨D, 4, none⟩), .pointer (some ⟨D, 0, none⟩), .pointer (some ⟨D, 0, none⟩), .pointer (some ⟨D, 4, none⟩), .pointer (some ⟨D, 4101, none⟩), .int .i64 (q : Int), .slice (some ⟨D, 4 + q, none⟩) (4096 - q) (4096 - q), .iface 72 (.pointer (some ⟨R, 0, none⟩)), .iface 72 (.pointer (some ⟨R, 0, none⟩)), .tuple #[.int .i64 (ys.length : Nat), er], .tuple #[.int .i64 (ys.length : Nat), er], .int .i64 (ys.length : Nat), er, .int .i64 (ys.length : Nat), er] (fun σ => σ 0 = .pointer (some ⟨D, 0, none⟩)) (fun b w => match b with | false => DecP w.heap D R a m n q q u buf' X ∧ RdrP w.heap D R xs pos ∧ GlobP w.heap e1 e2 ∧ Fr (DR D R) w0 w | true => DecP w.heap D R a m n q q u ((putB buf' q ys)) X ∧ RdrP w.heap D R xs (pos + ys.length) ∧ GlobP w.heap e1 e2 ∧ Fr (DR D R) w0 w) 16) mixed rfl (by kernel_rfl) ⟨?_, rfl, hD, hR, hG, hF⟩ (StepsFrom.all ?_) ?_
    · intro k d v _ _ h; cases h
    · have hB : ∀ (dd : Nat), dd ≠ 0 → ∀ (σ : Env) (v : Value), σ 0 = .pointer (some ⟨D, 0, none⟩) → upd σ dd v 0 = .pointer (some ⟨D, 0, none⟩) := fun dd hdd σ v h => by rw [upd_ne _ _ _ _ (Ne.symm hdd)]; exact h
      refine ⟨?_, ?_, ?_, ?_, ?_, ?_, ?_, ?_, ?_, ?_, ?_, ?_, ?_, ?_, ?_, ?_, ?_, ?_, ?_, ?_, ?_, ?_, trivial⟩
      · refine IV_pure (c := 16) (i := 0) [] rfl rfl rfl rfl rfl (hB 66 (by decide)) (by decide) rfl ?_
        exact fun σ w b g hb hw => yd_mv (.inl rfl) hb
      · refine IV_pure (c := 16) (i := 1) [0] rfl rfl rfl rfl rfl (hB 67 (by decide)) (by decide) rfl ?_
        exact fun σ w b g hb hw => yd_nil rfl (show ev σ (.tmp 66) = _ from g 0 (by simp) 66 _ rfl rfl)
      · refine IV_pure (c := 16) (i := 2) [1] rfl rfl rfl rfl rfl (hB 68 (by decide)) (by decide) rfl ?_
        exact fun σ w b g hb hw => yd_field rfl ft_100_0 (show ev σ (.tmp 67) = _ from g 1 (by simp) 67 _ rfl rfl)
      · refine IV_pure (c := 16) (i := 3) [2] rfl rfl rfl rfl rfl (hB 69 (by decide)) (by decide) rfl ?_
        exact fun σ w b g hb hw => yd_load rfl sc_75 (show ev σ (.tmp 68) = _ from g 2 (by simp) 68 _ rfl rfl) (by cases b <;> exact hw.1.ldr)
      · refine IV_pure (c := 16) (i := 4) [] rfl rfl rfl rfl rfl (hB 70 (by decide)) (by decide) rfl ?_
        exact fun σ w b g hb hw => yd_mv (.inl rfl) hb
      · refine IV_pure (c := 16) (i := 5) [4] rfl rfl rfl rfl rfl (hB 71 (by decide)) (by decide) rfl ?_
        exact fun σ w b g hb hw => yd_nil rfl (show ev σ (.tmp 70) = _ from g 4 (by simp) 70 _ rfl rfl)
      · refine IV_pure (c := 16) (i := 6) [5] rfl rfl rfl rfl rfl (hB 72 (by decide)) (by decide) rfl ?_
        exact fun σ w b g hb hw => yd_field rfl ft_100_2 (show ev σ (.tmp 71) = _ from g 5 (by simp) 71 _ rfl rfl)
      · refine IV_pure (c := 16) (i := 7) [6] rfl rfl rfl rfl rfl (hB 73 (by decide)) (by decide) rfl ?_
        exact fun σ w b g hb hw => yd_field rfl ft_79_0 (show ev σ (.tmp 72) = _ from g 6 (by simp) 72 _ rfl rfl)
      · refine IV_pure (c := 16) (i := 8) [] rfl rfl rfl rfl rfl (hB 74 (by decide)) (by decide) rfl ?_
        exact fun σ w b g hb hw => yd_mv (.inl rfl) hb
      · refine IV_pure (c := 16) (i := 9) [8] rfl rfl rfl rfl rfl (hB 75 (by decide)) (by decide) rfl ?_
        exact fun σ w b g hb hw => yd_nil rfl (show ev σ (.tmp 74) = _ from g 8 (by simp) 74 _ rfl rfl)
      · refine IV_pure (c := 16) (i := 10) [9] rfl rfl rfl rfl rfl (hB 76 (by decide)) (by decide) rfl ?_
        exact fun σ w b g hb hw => yd_field rfl ft_100_2 (show ev σ (.tmp 75) = _ from g 9 (by simp) 75 _ rfl rfl)
      · refine IV_pure (c := 16) (i := 11) [10] rfl rfl rfl rfl rfl (hB 77 (by decide)) (by decide) rfl ?_
        exact fun σ w b g hb hw => yd_field rfl ft_79_2 (show ev σ (.tmp 76) = _ from g 10 (by simp) 76 _ rfl rfl)
      · refine IV_pure (c := 16) (i := 12) [11] rfl rfl rfl rfl rfl (hB 78 (by decide)) (by decide) rfl ?_
        exact fun σ w b g hb hw => yd_load rfl sc_3 (show ev σ (.tmp 77) = _ from g 11 (by simp) 77 _ rfl rfl) (by cases b <;> exact hw.1.ldj)
      · refine IV_pure (c := 16) (i := 13) [7, 12] rfl rfl rfl rfl rfl (hB 79 (by decide)) (by decide) rfl ?_
        exact fun σ w b g hb hw => yd_slice_arr (l := q) (h := 4096) rfl at_78 (show ev σ (.tmp 73) = _ from g 7 (by simp) 73 _ rfl rfl) ⟨_, (show ev σ (.tmp 78) = _ from g 12 (by simp) 78 _ rfl rfl)⟩ rfl (by omega) (Nat.le_refl _) (by rw [if_neg (by omega)])
      · refine IV_pure (c := 16) (i := 14) [3] rfl rfl rfl rfl rfl (hB 80 (by decide)) (by decide) rfl ?_
        exact fun σ w b g hb hw => yd_nili rfl (show ev σ (.tmp 69) = _ from g 3 (by simp) 69 _ rfl rfl)
      · refine IV_pure (c := 16) (i := 15) [3, 14] rfl rfl rfl rfl rfl (hB 81 (by decide)) (by decide) rfl ?_
        exact fun σ w b g hb hw => yd_mv (.inl rfl) (show ev σ (.tmp 69) = _ from g 3 (by simp) 69 _ rfl rfl)
      · refine IV_eff (c := 16) [15, 13] rfl rfl rfl rfl rfl (hB 82 (by decide)) rfl fun σ w g hb hw => ⟨62, _, run_invoke rfl (show ev σ (.tmp 81) = _ from g 15 (by simp) 81 _ rfl rfl) (meth_read _ _) en_62 rfl, ?_⟩
        have e : List.map (ev σ) [Operand.tmp 79] = [.slice (some ⟨D, 4 + q, none⟩) (4096 - q) (4096 - q)] := by rw [List.map_cons, List.map_nil, show ev σ (.tmp 79) = _ from g 13 (by simp) 79 _ rfl rfl]
        show Calls Tryd.prog 62 (_ :: List.map (ev σ) [Operand.tmp 79]).toArray w _
        rw [e]
        exact hread w q buf' rfl hw.1 hw.2.1 hw.2.2.1 hw.2.2.2
      · refine IV_pure (c := 16) (i := 17) [16] rfl rfl rfl rfl rfl (hB 65 (by decide)) (by decide) rfl ?_
        exact fun σ w b g hb hw => yd_mv (.inl rfl) (show ev σ (.tmp 82) = _ from g 16 (by simp) 82 _ rfl rfl)
      · refine IV_pure (c := 16) (i := 18) [17] rfl rfl rfl rfl rfl (hB 83 (by decide)) (by decide) rfl ?_
        exact fun σ w b g hb hw => yd_extract rfl (show ev σ (.tmp 65) = _ from g 17 (by simp) 65 _ rfl rfl) rfl
      · refine IV_pure (c := 16) (i := 19) [17] rfl rfl rfl rfl rfl (hB 84 (by decide)) (by decide) rfl ?_
        exact fun σ w b g hb hw => yd_extract rfl (show ev σ (.tmp 65) = _ from g 17 (by simp) 65 _ rfl rfl) rfl
      · refine IV_pure (c := 16) (i := 20) [18] rfl rfl rfl rfl rfl (hB 3 (by decide)) (by decide) rfl ?_
        exact fun σ w b g hb hw => yd_mv (.inr rfl) (show ev σ (.tmp 83) = _ from g 18 (by simp) 83 _ rfl rfl)
      · refine IV_pure (c := 16) (i := 21) [19] rfl rfl rfl rfl rfl (hB 4 (by decide)) (by decide) rfl ?_
        exact fun σ w b g hb hw => yd_mv (.inr rfl) (show ev σ (.tmp 84) = _ from g 19 (by simp) 84 _ rfl rfl)
    intro L σ w ⟨h1, h2, h3⟩ hL
    rw [hL 16 (by decide)] at h3
    obtain ⟨hD, hR, hG, hF⟩ := h3
    rw [← upds_self (σ := σ) (l := [(0, .pointer (some ⟨D, 0, none⟩)), (3, .int .i64 (ys.length : Nat)), (4, er)]) ⟨h2, h1 20 3 _ rfl rfl (hL 20 (by decide)), h1 21 4 _ rfl rfl (hL 21 (by decide)), trivial⟩]
    refine hK7 _ _ ?_
    refine CW_seq fun K8 hK8 => ?_
    refine CW_region rfl ?_
    refine RL_v rfl rfl (yd_move rfl) ?_
    refine RL_v rfl rfl (yd_nil rfl rfl) ?_
    refine RL_v rfl rfl (yd_field rfl ft_100_2 rfl) ?_
    refine RL_v rfl rfl (yd_field rfl ft_79_2 rfl) ?_
    refine RL_v rfl rfl (yd_load rfl sc_3 rfl (hD.ldj)) ?_
    refine RL_v rfl rfl (yd_move rfl) ?_
    refine RL_v rfl rfl (yd_add64 rfl rfl rfl (by omega)) ?_
    refine RL_v rfl rfl (yd_nil rfl rfl) ?_
    refine RL_v rfl rfl (yd_field rfl ft_100_2 rfl) ?_
    refine RL_v rfl rfl (yd_field rfl ft_79_2 rfl) ?_
    refine RL_storeW (fun w' => DecP w'.heap D R a m n q (q + ys.length) u ((putB buf' q ys)) X ∧ RdrP w'.heap D R xs (pos + ys.length) ∧ GlobP w'.heap e1 e2 ∧ Fr (DR D R) w0 w') rfl rfl rfl sz_3 rfl rfl rfl (hD.ldj) (hD.fz) (⟨hD.setj (by omega), hR.keep' hDR (fun k hk => set_blk_ne hk _), hG.keep (set_blk_ne (by omega) _) (set_blk_ne (by omega) _), hF.set (fun _ => .inl rfl) _⟩) ?_
    rintro w ⟨hD, hR, hG, hF⟩
    refine RL_nil ?_
    refine hK8 _ _ ?_
    refine CW_seq fun K9 hK9 => ?_
    refine CW_seq fun K10 hK10 => ?_
    refine CW_region rfl ?_
    refine RL_v rfl rfl (yd_move rfl) ?_
    refine RL_v rfl rfl (yd_gt true rfl rfl rfl (decide_eq_true (by omega))) ?_
    refine RL_nil ?_
    refine hK10 _ _ ?_
    refine CW_t rfl ?_
    refine CW_seq fun K11 hK11 => ?_
    refine CW_region rfl ?_
    refine RL_v rfl rfl (yd_assign rfl) ?_
    refine RL_nil ?_
    refine hK11 _ _ ?_
    refine CW_ret ?_
    refine hK _ _ ?_
    exact hfin w q buf' ys hq hq2 hHb hys hD hR hF hG

theorem fill_eof {D R : Nat} {e1 e2 : Addr} {S Hs : List Nat} {j u a m n pos : Nat} {buf : Nat → Nat} {xs : List Nat} {X : Nat → Option Value} {w0 : World} (h : Strm0 w0.heap D R e1 e2 S Hs j j u buf xs pos a m n X) (hpe : pos = xs.length) :
    Calls Tryd.prog 37 #[.pointer (some ⟨D, 0, none⟩)] w0 fun e w' => e = .returned (.iface 175 (.pointer (some e1))) ∧ Strm w'.heap D R e1 e2 S Hs u 0 a m n X ∧ Fr (DR D R) w0 w' := by
  have hD := h.dec
  have hR := h.rdr
  have hG := h.glob
  have hjb := h.jb
  have hDR := h.ne
  have hdlo := h.dlo
  have hrlo := h.rlo
  have hS1 : ¬ DR D R 1 := by rintro (h | h) <;> omega
  have hS2 : ¬ DR D R 2 := by rintro (h | h) <;> omega
  have hF := Fr.refl (DR D R) w0
  have hmove : 2 < j → ∀ k x, Hs[k]? = some x → updN (updN buf 0 (buf (j - 2))) 1 (buf (j - 1)) (2 - 1 - k) = x := by
    intro hj k x hk
    have hlt : k < Hs.length := by
      rcases Nat.lt_or_ge k Hs.length with h | h
      · exact h
      · rw [List.getElem?_eq_none h] at hk; cases hk
    have hl := h.hl
    have h1 := h.hb k x hk
    rcases Nat.lt_or_ge k 1 with h2 | h2
    · obtain rfl : k = 0 := by omega
      simpa [updN] using h1
    · obtain rfl : k = 1 := by omega
      have e : j - 1 - 1 = j - 2 := by omega
      rw [e] at h1
      simpa [updN] using h1
  have hfin : ∀ (w : World) (q : Nat) (buf' : Nat → Nat) (ys : List Nat), q ≤ 2 → Hs.length ≤ q → (∀ k x, Hs[k]? = some x → buf' (q - 1 - k) = x) → ys = (xs.drop pos).take (4096 - q) → DecP w.heap D R a m n q ((q + ys.length)) u ((putB buf' q ys)) X →
      RdrP w.heap D R xs (pos + ys.length) → Fr (DR D R) w0 w → GlobP w.heap e1 e2 → Ending.returned (.iface 175 (.pointer (some e1))) = .returned (.iface 175 (.pointer (some e1))) ∧ Strm w.heap D R e1 e2 S Hs u 0 a m n X ∧ Fr (DR D R) w0 w := by
    intro w q buf' ys hq hq2 hHb hys hD hR hF hG
    have hyl : ys.length = min (4096 - q) (xs.length - pos) := by rw [hys, List.length_take, List.length_drop]
    have hpb := h.pb
    have hseg : seg (putB buf' q ys) q ys.length = ys := seg_list _ ys q fun k x hx => by
      have hlt : k < ys.length := by
        rcases Nat.lt_or_ge k ys.length with h | h
        · exact h
        · rw [List.getElem?_eq_none h] at hx; cases hx
      rw [putB, if_pos (by omega), show q + k - q = k by omega]
      rw [List.getD_eq_getElem?_getD, hx]; rfl
    have hst : Strm0 w.heap D R e1 e2 S Hs q (q + ys.length) u (putB buf' q ys) xs (pos + ys.length) a m n X :=
      ⟨hD, hR, hG, hDR, hdlo, hrlo, by omega, by omega, by omega, h.xb, by
        rw [h.sE, show q + ys.length - q = ys.length by omega, hseg, Nat.sub_self, seg_zero, List.nil_append]
        have e1 : ys ++ (xs.drop pos).drop ys.length = xs.drop pos := by
          have e2 : ys.length = ((xs.drop pos).take (4096 - q)).length := by rw [hys]
          have e3 : (xs.drop pos).drop ys.length = (xs.drop pos).drop (4096 - q) := by
            rw [hyl]
            rcases Nat.le_total (4096 - q) (xs.length - pos) with h1 | h1
            · rw [Nat.min_eq_left h1]
            · rw [Nat.min_eq_right h1, List.drop_eq_nil_of_le (by simp), List.drop_eq_nil_of_le (by simp; omega)]
          rw [e3, hys, List.take_append_drop]
        rw [List.drop_drop] at e1
        exact e1.symm, h.hl, hq2, fun k x hx => by
          have hlt : k < Hs.length := by
            rcases Nat.lt_or_ge k Hs.length with h | h
            · exact h
            · rw [List.getElem?_eq_none h] at hx; cases hx
          rw [putB, if_neg (by omega)]; exact hHb k x hx, h.uh⟩
    exact ⟨rfl, ⟨_, _, _, _, _, hst, by omega⟩, hF⟩
  refine calls1 Tryd.func37 rfl rfl rfl rfl (Nat.le_of_ble_eq_true rfl) fun K hK => ?_
  refine CW_seq fun K1 hK1 => ?_
  refine CW_region rfl ?_
  refine RL_v rfl rfl (yd_assign rfl) ?_
  refine RL_nil ?_
  refine hK1 _ _ ?_
  refine CW_seq fun K2 hK2 => ?_
  refine CW_seq fun K3 hK3 => ?_
  refine CW_draw 10 mixed (by kernel_rfl) rfl ?_
  refine RD_v rfl rfl (yd_move rfl) ?_
  refine RD_v rfl rfl (yd_nil rfl rfl) ?_
  refine RD_v rfl rfl (yd_field rfl ft_100_2 rfl) ?_
  refine RD_v rfl rfl (yd_field rfl ft_79_1 rfl) ?_
  refine RD_v rfl rfl (yd_load rfl sc_3 rfl (hD.ldi)) ?_
  refine RD_v rfl rfl (yd_move rfl) ?_
  refine RD_v rfl rfl (yd_nil rfl rfl) ?_
  refine RD_v rfl rfl (yd_field rfl ft_100_2 rfl) ?_
  refine RD_v rfl rfl (yd_field rfl ft_79_2 rfl) ?_
  refine RD_v rfl rfl (yd_load rfl sc_3 rfl (hD.ldj)) ?_
  refine RD_nil ?_
  refine RL_v rfl rfl (yd_ne false rfl rfl rfl (decide_eq_true (by omega))) ?_
  refine RL_nil ?_
  refine hK3 _ _ ?_
  refine CW_f rfl ?_
  refine CW_skip ?_
  refine hK2 _ _ ?_
  refine CW_cut (fun σ w => AtS σ [(0, .pointer (some ⟨D, 0, none⟩))] ∧ ∃ q buf', DecP w.heap D R a m n q q u buf' X ∧ RdrP w.heap D R xs pos ∧ GlobP w.heap e1 e2 ∧ Fr (DR D R) w0 w ∧ q ≤ 2 ∧ Hs.length ≤ q ∧ (∀ k x, Hs[k]? = some x → buf' (q - 1 - k) = x)) ?_ ?_
  · refine CW_seq fun K4 hK4 => ?_
    refine CW_region rfl ?_
    refine RL_v rfl rfl (yd_move rfl) ?_
    refine RL_v rfl rfl (yd_nil rfl rfl) ?_
    refine RL_v rfl rfl (yd_field rfl ft_100_2 rfl) ?_
    refine RL_v rfl rfl (yd_field rfl ft_79_2 rfl) ?_
    refine RL_v rfl rfl (yd_load rfl sc_3 rfl (hD.ldj)) ?_
    by_cases hj : 2 < j
    · refine RL_v rfl rfl (yd_gt true rfl rfl rfl (decide_eq_true (by omega))) ?_
      refine RL_nil ?_
      refine hK4 _ _ ?_
      refine CW_t rfl ?_
      refine CW_seq fun K5 hK5 => ?_
      refine CW_draw 16 mixed (by kernel_rfl) rfl ?_
      refine RD_v rfl rfl (yd_move rfl) ?_
      refine RD_v rfl rfl (yd_move rfl) ?_
      refine RD_v rfl rfl (yd_move rfl) ?_
      refine RD_v rfl rfl (yd_nil rfl rfl) ?_
      refine RD_v rfl rfl (yd_field rfl ft_100_2 rfl) ?_
      refine RD_v rfl rfl (yd_field rfl ft_79_2 rfl) ?_
      refine RD_v rfl rfl (yd_load rfl sc_3 rfl (hD.ldj)) ?_
      refine RD_v rfl rfl (yd_sub64 rfl rfl rfl (by omega)) ?_
      refine RD_v rfl rfl (yd_nil rfl rfl) ?_
      refine RD_v rfl rfl (yd_field rfl ft_100_2 rfl) ?_
      refine RD_v rfl rfl (yd_field rfl ft_79_0 rfl) ?_
      refine RD_v rfl rfl (yd_ix1 rfl at_78 rfl rfl (j - 2) (by omega) (by omega)) ?_
      refine RD_v rfl rfl (yd_load rfl sc_5 rfl (hD.ldb (by omega))) ?_
      refine RD_v rfl rfl (yd_nil rfl rfl) ?_
      refine RD_v rfl rfl (yd_field rfl ft_100_2 rfl) ?_
      refine RD_v rfl rfl (yd_field rfl ft_79_0 rfl) ?_
      refine RD_nil ?_
      refine RL_v rfl rfl (yd_ix1 rfl at_78 rfl rfl (0) (rfl) (by decide)) ?_
      refine RL_storeW (fun w' => DecP w'.heap D R a m n j j u ((updN buf 0 (buf (j - 2)))) X ∧ RdrP w'.heap D R xs pos ∧ GlobP w'.heap e1 e2 ∧ Fr (DR D R) w0 w') rfl rfl rfl sz_5 rfl rfl rfl (hD.ldb (by omega)) (hD.fz) (⟨hD.setb (q := 0) (by omega) (rfl), hR.keep' hDR (fun k hk => set_blk_ne hk _), hG.keep (set_blk_ne (by omega) _) (set_blk_ne (by omega) _), hF.set (fun _ => .inl rfl) _⟩) ?_
      rintro w ⟨hD, hR, hG, hF⟩
      refine RL_nil ?_
      refine hK5 _ _ ?_
      refine CW_seq fun K6 hK6 => ?_
      refine CW_draw 16 mixed (by kernel_rfl) rfl ?_
      refine RD_v rfl rfl (yd_move rfl) ?_
      refine RD_v rfl rfl (yd_move rfl) ?_
      refine RD_v rfl rfl (yd_move rfl) ?_
      refine RD_v rfl rfl (yd_nil rfl rfl) ?_
      refine RD_v rfl rfl (yd_field rfl ft_100_2 rfl) ?_
      refine RD_v rfl rfl (yd_field rfl ft_79_2 rfl) ?_
      refine RD_v rfl rfl (yd_load rfl sc_3 rfl (hD.ldj)) ?_
      refine RD_v rfl rfl (yd_sub64 rfl rfl rfl (by omega)) ?_
      refine RD_v rfl rfl (yd_nil rfl rfl) ?_
      refine RD_v rfl rfl (yd_field rfl ft_100_2 rfl) ?_
      refine RD_v rfl rfl (yd_field rfl ft_79_0 rfl) ?_
      refine RD_v rfl rfl (yd_ix1 rfl at_78 rfl rfl (j - 1) (by omega) (by omega)) ?_
      refine RD_v rfl rfl (yd_load rfl sc_5 rfl ((hD.ldb (by omega)).trans (by rw [updN, if_neg (by omega)]))) ?_
      refine RD_v rfl rfl (yd_nil rfl rfl) ?_
      refine RD_v rfl rfl (yd_field rfl ft_100_2 rfl) ?_
      refine RD_v rfl rfl (yd_field rfl ft_79_0 rfl) ?_
      refine RD_nil ?_
      refine RL_v rfl rfl (yd_ix1 rfl at_78 rfl rfl (1) (rfl) (by decide)) ?_
      refine RL_storeW (fun w' => DecP w'.heap D R a m n j j u ((updN (updN buf 0 (buf (j - 2))) 1 (buf (j - 1)))) X ∧ RdrP w'.heap D R xs pos ∧ GlobP w'.heap e1 e2 ∧ Fr (DR D R) w0 w') rfl rfl rfl sz_5 rfl rfl rfl (hD.ldb (by omega)) (hD.fz) (⟨hD.setb (q := 1) (by omega) (rfl), hR.keep' hDR (fun k hk => set_blk_ne hk _), hG.keep (set_blk_ne (by omega) _) (set_blk_ne (by omega) _), hF.set (fun _ => .inl rfl) _⟩) ?_
      rintro w ⟨hD, hR, hG, hF⟩
      refine RL_nil ?_
      refine hK6 _ _ ?_
      refine CW_region rfl ?_
      refine RL_v rfl rfl (yd_move rfl) ?_
      refine RL_v rfl rfl (yd_move rfl) ?_
      refine RL_v rfl rfl (yd_nil rfl rfl) ?_
      refine RL_v rfl rfl (yd_field rfl ft_100_2 rfl) ?_
      refine RL_v rfl rfl (yd_field rfl ft_79_1 rfl) ?_
      refine RL_storeW (fun w' => DecP w'.heap D R a m n 2 j u ((updN (updN buf 0 (buf (j - 2))) 1 (buf (j - 1)))) X ∧ RdrP w'.heap D R xs pos ∧ GlobP w'.heap e1 e2 ∧ Fr (DR D R) w0 w') rfl rfl rfl sz_3 rfl rfl rfl (hD.ldi) (hD.fz) (⟨hD.seti rfl, hR.keep' hDR (fun k hk => set_blk_ne hk _), hG.keep (set_blk_ne (by omega) _) (set_blk_ne (by omega) _), hF.set (fun _ => .inl rfl) _⟩) ?_
      rintro w ⟨hD, hR, hG, hF⟩
      refine RL_v rfl rfl (yd_nil rfl rfl) ?_
      refine RL_v rfl rfl (yd_field rfl ft_100_2 rfl) ?_
      refine RL_v rfl rfl (yd_field rfl ft_79_2 rfl) ?_
      refine RL_storeW (fun w' => DecP w'.heap D R a m n 2 2 u ((updN (updN buf 0 (buf (j - 2))) 1 (buf (j - 1)))) X ∧ RdrP w'.heap D R xs pos ∧ GlobP w'.heap e1 e2 ∧ Fr (DR D R) w0 w') rfl rfl rfl sz_3 rfl rfl rfl (hD.ldj) (hD.fz) (⟨hD.setj rfl, hR.keep' hDR (fun k hk => set_blk_ne hk _), hG.keep (set_blk_ne (by omega) _) (set_blk_ne (by omega) _), hF.set (fun _ => .inl rfl) _⟩) ?_
      rintro w ⟨hD, hR, hG, hF⟩
      refine RL_nil ?_
      exact ⟨⟨rfl, trivial⟩, 2, _, hD, hR, hG, hF, by omega, h.hl, hmove hj⟩
    · refine RL_v rfl rfl (yd_gt false rfl rfl rfl (decide_eq_false (by omega))) ?_
      refine RL_nil ?_
      refine hK4 _ _ ?_
      refine CW_f rfl ?_
      refine CW_skip ?_
      exact ⟨⟨rfl, trivial⟩, j, _, hD, hR, hG, hF, by omega, h.hi, h.hb⟩
  · intro σ w ⟨hσ, q, buf', hD, hR, hG, hF, hq, hq2, hHb⟩
    refine CW_at hσ ?_
    obtain ⟨ys, hys⟩ : ∃ ys, ys = (xs.drop pos).take (4096 - q) := ⟨_, rfl⟩
    have hyl : ys.length = min (4096 - q) (xs.length - pos) := by rw [hys, List.length_take, List.length_drop]
    have hDR := h.ne
    have hpb := h.pb
    have hy0 : ys = [] := List.eq_nil_of_length_eq_zero (by omega)
    obtain ⟨er, her⟩ : ∃ er, er = Value.iface 175 (.pointer (some e2)) := ⟨_, rfl⟩
    have hread : ∀ (w : World) (q' : Nat) (buf'' : Nat → Nat), q' = q → DecP w.heap D R a m n q' q' u buf'' X → RdrP w.heap D R xs pos → GlobP w.heap e1 e2 → Fr (DR D R) w0 w → Calls Tryd.prog 62 #[.pointer (some ⟨R, 0, none⟩), .slice (some ⟨D, 4 + q', none⟩) (4096 - q') (4096 - q')] w (fun e w' => e = .returned (.tuple #[.int .i64 ys.length, er]) ∧ DecP w'.heap D R a m n q' q' u ((putB buf'' q' ys)) X ∧ RdrP w'.heap D R xs (pos + ys.length) ∧ GlobP w'.heap e1 e2 ∧ Fr (DR D R) w0 w') := by
      intro w q' buf'' hq' hD hR hG hF
      subst hpe
      refine (read_eof (b := .slice (some ⟨D, 4 + q', none⟩) (4096 - q') (4096 - q')) hR hG).mono fun e w' ⟨h1, h2, h3⟩ => ⟨by rw [h1, hy0, her]; rfl, ?_⟩
      rw [h2, hy0]
      exact ⟨by rw [show putB buf'' q' [] = buf'' by funext k; simp [putB]; intro h1 h2; omega]; exact hD, hR, hG, hF.trans h3⟩
    refine CW_seq fun K7 hK7 => ?_
    refine CW_any (IV [66, 67, 68, 69, 70, 71, 72, 73, 74, 75, 76, 77, 78, 79, 80, 81, 82, 65, 83, 84, 3, 4] [.pointer (some ⟨D, 0, none⟩), .pointer (some ⟨D, 0, none⟩), .pointer (some ⟨D, 0, none⟩), .iface 72 (.pointer (some ⟨R, 0, none⟩)), .pointer (some ⟨D, 0, none⟩), .pointer (some ⟨D, 0, none⟩), .pointer (some ⟨D, 4, none⟩), .pointer (some ⟨D, 4, none⟩), .pointer (some ⟨D, 0, none⟩), .pointer (some ⟨D, 0, none⟩), .pointer (some ⟨D, 4, none⟩), .pointer (some ⟨D, 4101, none⟩), .int .i64 (q : Int), .slice (some ⟨D, 4 + q, none⟩) (4096 - q) (4096 - q), .iface 72 (.pointer (some ⟨R, 0, none⟩)), .iface 72 (.pointer (some ⟨R, 0, none⟩)), .tuple #[.int .i64 (ys.length : Nat), er], .tuple #[.int .i64 (ys.length : Nat), er], .int .i64 (ys.length : Nat), er, .int .i64 (ys.length : Nat), er] (fun σ => σ 0 = .pointer (some ⟨D, 0, none⟩)) (fun b w => match b with | false => DecP w.heap D R a m n q q u buf' X ∧ RdrP w.heap D R xs pos ∧ GlobP w.heap e1 e2 ∧ Fr (DR D R) w0 w | true => DecP w.heap D R a m n q q u ((putB buf' q ys)) X ∧ RdrP w.heap D R xs (pos + ys.length) ∧ GlobP w.heap e1 e2 ∧ Fr (DR D R) w0 w) 16) mixed rfl (by kernel_rfl) ⟨?_, rfl, hD, hR, hG, hF⟩ (StepsFrom.all ?_) ?_
    · intro k d v _ _ h; cases h
    · have hB : ∀ (dd : Nat), dd ≠ 0 → ∀ (σ : Env) (v : Value), σ 0 = .pointer (some ⟨D, 0, none⟩) → upd σ dd v 0 = .pointer (some ⟨D, 0, none⟩) := fun dd hdd σ v h => by rw [upd_ne _ _ _ _ (Ne.symm hdd)]; exact h
      refine ⟨?_, ?_, ?_, ?_, ?_, ?_, ?_, ?_, ?_, ?_, ?_, ?_, ?_, ?_, ?_, ?_, ?_, ?_, ?_, ?_, ?_, ?_, trivial⟩
      · refine IV_pure (c := 16) (i := 0) [] rfl rfl rfl rfl rfl (hB 66 (by decide)) (by decide) rfl ?_
        exact fun σ w b g hb hw => yd_mv (.inl rfl) hb
      · refine IV_pure (c := 16) (i := 1) [0] rfl rfl rfl rfl rfl (hB 67 (by decide)) (by decide) rfl ?_
        exact fun σ w b g hb hw => yd_nil rfl (show ev σ (.tmp 66) = _ from g 0 (by simp) 66 _ rfl rfl)
      · refine IV_pure (c := 16) (i := 2) [1] rfl rfl rfl rfl rfl (hB 68 (by decide)) (by decide) rfl ?_
        exact fun σ w b g hb hw => yd_field rfl ft_100_0 (show ev σ (.tmp 67) = _ from g 1 (by simp) 67 _ rfl rfl)
      · refine IV_pure (c := 16) (i := 3) [2] rfl rfl rfl rfl rfl (hB 69 (by decide)) (by decide) rfl ?_
        exact fun σ w b g hb hw => yd_load rfl sc_75 (show ev σ (.tmp 68) = _ from g 2 (by simp) 68 _ rfl rfl) (by cases b <;> exact hw.1.ldr)
      · refine IV_pure (c := 16) (i := 4) [] rfl rfl rfl rfl rfl (hB 70 (by decide)) (by decide) rfl ?_
        exact fun σ w b g hb hw => yd_mv (.inl rfl) hb
      · refine IV_pure (c := 16) (i := 5) [4] rfl rfl rfl rfl rfl (hB 71 (by decide)) (by decide) rfl ?_
        exact fun σ w b g hb hw => yd_nil rfl (show ev σ (.tmp 70) = _ from g 4 (by simp) 70 _ rfl rfl)
      · refine IV_pure (c := 16) (i := 6) [5] rfl rfl rfl rfl rfl (hB 72 (by decide)) (by decide) rfl ?_
        exact fun σ w b g hb hw => yd_field rfl ft_100_2 (show ev σ (.tmp 71) = _ from g 5 (by simp) 71 _ rfl rfl)
      · refine IV_pure (c := 16) (i := 7) [6] rfl rfl rfl rfl rfl (hB 73 (by decide)) (by decide) rfl ?_
        exact fun σ w b g hb hw => yd_field rfl ft_79_0 (show ev σ (.tmp 72) = _ from g 6 (by simp) 72 _ rfl rfl)
      · refine IV_pure (c := 16) (i := 8) [] rfl rfl rfl rfl rfl (hB 74 (by decide)) (by decide) rfl ?_
        exact fun σ w b g hb hw => yd_mv (.inl rfl) hb
      · refine IV_pure (c := 16) (i := 9) [8] rfl rfl rfl rfl rfl (hB 75 (by decide)) (by decide) rfl ?_
        exact fun σ w b g hb hw => yd_nil rfl (show ev σ (.tmp 74) = _ from g 8 (by simp) 74 _ rfl rfl)
      · refine IV_pure (c := 16) (i := 10) [9] rfl rfl rfl rfl rfl (hB 76 (by decide)) (by decide) rfl ?_
        exact fun σ w b g hb hw => yd_field rfl ft_100_2 (show ev σ (.tmp 75) = _ from g 9 (by simp) 75 _ rfl rfl)
      · refine IV_pure (c := 16) (i := 11) [10] rfl rfl rfl rfl rfl (hB 77 (by decide)) (by decide) rfl ?_
        exact fun σ w b g hb hw => yd_field rfl ft_79_2 (show ev σ (.tmp 76) = _ from g 10 (by simp) 76 _ rfl rfl)
      · refine IV_pure (c := 16) (i := 12) [11] rfl rfl rfl rfl rfl (hB 78 (by decide)) (by decide) rfl ?_
        exact fun σ w b g hb hw => yd_load rfl sc_3 (show ev σ (.tmp 77) = _ from g 11 (by simp) 77 _ rfl rfl) (by cases b <;> exact hw.1.ldj)
      · refine IV_pure (c := 16) (i := 13) [7, 12] rfl rfl rfl rfl rfl (hB 79 (by decide)) (by decide) rfl ?_
        exact fun σ w b g hb hw => yd_slice_arr (l := q) (h := 4096) rfl at_78 (show ev σ (.tmp 73) = _ from g 7 (by simp) 73 _ rfl rfl) ⟨_, (show ev σ (.tmp 78) = _ from g 12 (by simp) 78 _ rfl rfl)⟩ rfl (by omega) (Nat.le_refl _) (by rw [if_neg (by omega)])
      · refine IV_pure (c := 16) (i := 14) [3] rfl rfl rfl rfl rfl (hB 80 (by decide)) (by decide) rfl ?_
        exact fun σ w b g hb hw => yd_nili rfl (show ev σ (.tmp 69) = _ from g 3 (by simp) 69 _ rfl rfl)
      · refine IV_pure (c := 16) (i := 15) [3, 14] rfl rfl rfl rfl rfl (hB 81 (by decide)) (by decide) rfl ?_
        exact fun σ w b g hb hw => yd_mv (.inl rfl) (show ev σ (.tmp 69) = _ from g 3 (by simp) 69 _ rfl rfl)
      · refine IV_eff (c := 16) [15, 13] rfl rfl rfl rfl rfl (hB 82 (by decide)) rfl fun σ w g hb hw => ⟨62, _, run_invoke rfl (show ev σ (.tmp 81) = _ from g 15 (by simp) 81 _ rfl rfl) (meth_read _ _) en_62 rfl, ?_⟩
        have e : List.map (ev σ) [Operand.tmp 79] = [.slice (some ⟨D, 4 + q, none⟩) (4096 - q) (4096 - q)] := by rw [List.map_cons, List.map_nil, show ev σ (.tmp 79) = _ from g 13 (by simp) 79 _ rfl rfl]
        show Calls Tryd.prog 62 (_ :: List.map (ev σ) [Operand.tmp 79]).toArray w _
        rw [e]
        exact hread w q buf' rfl hw.1 hw.2.1 hw.2.2.1 hw.2.2.2
      · refine IV_pure (c := 16) (i := 17) [16] rfl rfl rfl rfl rfl (hB 65 (by decide)) (by decide) rfl ?_
        exact fun σ w b g hb hw => yd_mv (.inl rfl) (show ev σ (.tmp 82) = _ from g 16 (by simp) 82 _ rfl rfl)
      · refine IV_pure (c := 16) (i := 18) [17] rfl rfl rfl rfl rfl (hB 83 (by decide)) (by decide) rfl ?_
        exact fun σ w b g hb hw => yd_extract rfl (show ev σ (.tmp 65) = _ from g 17 (by simp) 65 _ rfl rfl) rfl
      · refine IV_pure (c := 16) (i := 19) [17] rfl rfl rfl rfl rfl (hB 84 (by decide)) (by decide) rfl ?_
        exact fun σ w b g hb hw => yd_extract rfl (show ev σ (.tmp 65) = _ from g 17 (by simp) 65 _ rfl rfl) rfl
      · refine IV_pure (c := 16) (i := 20) [18] rfl rfl rfl rfl rfl (hB 3 (by decide)) (by decide) rfl ?_
        exact fun σ w b g hb hw => yd_mv (.inr rfl) (show ev σ (.tmp 83) = _ from g 18 (by simp) 83 _ rfl rfl)
      · refine IV_pure (c := 16) (i := 21) [19] rfl rfl rfl rfl rfl (hB 4 (by decide)) (by decide) rfl ?_
        exact fun σ w b g hb hw => yd_mv (.inr rfl) (show ev σ (.tmp 84) = _ from g 19 (by simp) 84 _ rfl rfl)
    intro L σ w ⟨h1, h2, h3⟩ hL
    rw [hL 16 (by decide)] at h3
    obtain ⟨hD, hR, hG, hF⟩ := h3
    rw [← upds_self (σ := σ) (l := [(0, .pointer (some ⟨D, 0, none⟩)), (3, .int .i64 (ys.length : Nat)), (4, er)]) ⟨h2, h1 20 3 _ rfl rfl (hL 20 (by decide)), h1 21 4 _ rfl rfl (hL 21 (by decide)), trivial⟩]
    refine hK7 _ _ ?_
    refine CW_seq fun K8 hK8 => ?_
    refine CW_region rfl ?_
    refine RL_v rfl rfl (yd_move rfl) ?_
    refine RL_v rfl rfl (yd_nil rfl rfl) ?_
    refine RL_v rfl rfl (yd_field rfl ft_100_2 rfl) ?_
    refine RL_v rfl rfl (yd_field rfl ft_79_2 rfl) ?_
    refine RL_v rfl rfl (yd_load rfl sc_3 rfl (hD.ldj)) ?_
    refine RL_v rfl rfl (yd_move rfl) ?_
    refine RL_v rfl rfl (yd_add64 rfl rfl rfl (by omega)) ?_
    refine RL_v rfl rfl (yd_nil rfl rfl) ?_
    refine RL_v rfl rfl (yd_field rfl ft_100_2 rfl) ?_
    refine RL_v rfl rfl (yd_field rfl ft_79_2 rfl) ?_
    refine RL_storeW (fun w' => DecP w'.heap D R a m n q (q + ys.length) u ((putB buf' q ys)) X ∧ RdrP w'.heap D R xs (pos + ys.length) ∧ GlobP w'.heap e1 e2 ∧ Fr (DR D R) w0 w') rfl rfl rfl sz_3 rfl rfl rfl (hD.ldj) (hD.fz) (⟨hD.setj (by omega), hR.keep' hDR (fun k hk => set_blk_ne hk _), hG.keep (set_blk_ne (by omega) _) (set_blk_ne (by omega) _), hF.set (fun _ => .inl rfl) _⟩) ?_
    rintro w ⟨hD, hR, hG, hF⟩
    refine RL_nil ?_
    refine hK8 _ _ ?_
    refine CW_seq fun K9 hK9 => ?_
    refine CW_seq fun K10 hK10 => ?_
    refine CW_region rfl ?_
    refine RL_v rfl rfl (yd_move rfl) ?_
    refine RL_v rfl rfl (yd_gt false rfl rfl rfl (decide_eq_false (by omega))) ?_
    refine RL_nil ?_
    refine hK10 _ _ ?_
    refine CW_f rfl ?_
    refine CW_skip ?_
    refine hK9 _ _ ?_
    refine CW_seq fun K11 hK11 => ?_
    refine CW_seq fun K12 hK12 => ?_
    refine CW_region rfl ?_
    refine RL_v rfl rfl (yd_move rfl) ?_
    refine RL_v rfl rfl (yd_load rfl sc_65 rfl (cellOf_cell hG.2)) ?_
    refine RL_v rfl rfl (yd_cmp_same (.inl rfl) rfl if_65 (by exact her) rfl cmp_175 (equalIn_ptr Tryd.underlying175 sz_212)) ?_
    refine RL_nil ?_
    refine hK12 _ _ ?_
    refine CW_t rfl ?_
    refine CW_region rfl ?_
    refine RL_v rfl rfl (yd_load rfl sc_65 rfl (cellOf_cell hG.1)) ?_
    refine RL_v rfl rfl (yd_assign rfl) ?_
    refine RL_nil ?_
    refine hK11 _ _ ?_
    refine CW_seq fun K13 hK13 => ?_
    refine CW_region rfl ?_
    refine RL_v rfl rfl (yd_move rfl) ?_
    refine RL_v rfl rfl (yd_assign rfl) ?_
    refine RL_nil ?_
    refine hK13 _ _ ?_
    refine CW_ret ?_
    refine hK _ _ ?_
    exact hfin w q buf' ys hq hq2 hHb hys hD hR hF hG

end Go.Proofs.YtdjilplpbaackaaDoor.Eng
