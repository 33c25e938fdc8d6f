/- bytes.Reader's Read: at the end of its bytes; and ahead of it, into the decoder's buffer. -/
import Derived.Test.YtdjilplpbaackaaDoorStrm
set_option linter.unusedVariables false
set_option linter.unusedSimpArgs false
set_option maxRecDepth 100000
namespace Go.Proofs.YtdjilplpbaackaaDoor.Eng
open Go

theorem read_eof {D R : Nat} {e1 e2 : Addr} {xs : List Nat} {b : Value} {w0 : World} (hR : RdrP w0.heap D R xs xs.length) (hG : GlobP w0.heap e1 e2) :
    Calls Tryd.prog 62 #[.pointer (some ⟨R, 0, none⟩), b] w0 fun e w' => e = .returned (.tuple #[.int .i64 0, .iface 175 (.pointer (some e2))]) ∧ w'.heap = w0.heap ∧ Fr (DR D R) w0 w' := by
  obtain ⟨sa, cap, prev, hB, hS, hne, hcap⟩ := hR
  refine calls2 Tryd.func62 rfl rfl rfl rfl (Nat.le_of_ble_eq_true rfl) fun K hK => ?_
  refine CW_seq fun K1 hK1 => ?_
  refine CW_region rfl ?_
  refine RL_v rfl rfl (yd_assign rfl) ?_
  refine RL_v rfl rfl (yd_assign rfl) ?_
  refine RL_nil ?_
  refine hK1 _ _ ?_
  refine CW_seq fun K2 hK2 => ?_
  refine CW_seq fun K3 hK3 => ?_
  refine CW_draw 9 mixed (by kernel_rfl) rfl ?_
  refine RD_v rfl rfl (yd_move rfl) ?_
  refine RD_v rfl rfl (yd_nil rfl rfl) ?_
  refine RD_v rfl rfl (yd_field rfl ft_134_1 rfl) ?_
  refine RD_v rfl rfl (yd_load rfl sc_2 rfl (hB.ld1)) ?_
  refine RD_v rfl rfl (yd_move rfl) ?_
  refine RD_v rfl rfl (yd_nil rfl rfl) ?_
  refine RD_v rfl rfl (yd_field rfl ft_134_0 rfl) ?_
  refine RD_v rfl rfl (yd_load rfl sc_22 rfl (hB.ld0)) ?_
  refine RD_v rfl rfl (yd_len rfl sl_22 rfl) ?_
  refine RD_nil ?_
  refine RL_v rfl rfl (yd_ge true rfl rfl rfl (decide_eq_true (by omega))) ?_
  refine RL_nil ?_
  refine hK3 _ _ ?_
  refine CW_t rfl ?_
  refine CW_seq fun K4 hK4 => ?_
  refine CW_draw 2 mixed (by kernel_rfl) rfl ?_
  refine RD_v rfl rfl (yd_load rfl sc_65 rfl (cellOf_cell hG.2)) ?_
  refine RD_v rfl rfl (yd_assign rfl) ?_
  refine RD_nil ?_
  refine RL_v rfl rfl (yd_assign rfl) ?_
  refine RL_nil ?_
  refine hK4 _ _ ?_
  refine CW_ret ?_
  refine hK _ _ ?_
  exact ⟨rfl, rfl, Fr.refl _ _⟩

theorem read_some {D R a m n i j u q Lq : Nat} {X : Nat → Option Value} {xs ys : List Nat} {pos : Nat} {buf : Nat → Nat} {w0 : World} (hD : DecP w0.heap D R a m n i j u buf X) (hR : RdrP w0.heap D R xs pos) (hDR : D ≠ R)
    (hlt : pos < xs.length) (hxb : xs.length ≤ 4611686018427387904) (hq : q + Lq ≤ 4096) (hL : 0 < Lq) (hys : ys = (xs.drop pos).take Lq) :
    Calls Tryd.prog 62 #[.pointer (some ⟨R, 0, none⟩), .slice (some ⟨D, 4 + q, none⟩) Lq Lq] w0 fun e w' => e = .returned (.tuple #[.int .i64 ys.length, .nilIface]) ∧
      DecP w'.heap D R a m n i j u ((putB buf q ys)) X ∧ RdrP w'.heap D R xs (pos + ys.length) ∧ Fr (DR D R) w0 w' := by
  obtain ⟨sa, cap, prev, hB, hS, hne, hcap⟩ := hR
  have hlen : ys.length = min (xs.length - pos) Lq := by rw [hys, List.length_take, List.length_drop, Nat.min_comm]
  have hq2 : q + ys.length ≤ 4096 := by omega
  obtain ⟨bs, ps, cS, TS, frS, rfl, hbs, hcs⟩ : ∃ b p c T fr, sa = some ⟨b, p, none⟩ ∧ w0.heap[b]? = some (.cells c T fr) ∧ ∀ k x, xs[k]? = some x → c[p + k]? = some (u8v x) := by
    rcases hS with rfl | h
    · simp at hlt
    · exact h
  have hcp : ¬ cap = pos := by omega
  have hys : ys.length = min (xs.length - pos) Lq := hlen
  have hfit : ∀ {w' : World} (cD : Array Value), DecP w'.heap D R a m n i j u buf X → w'.heap[D]? = some (.cells cD 100 (0, 0)) → 4 + q + ys.length ≤ cD.size := by
    intro w' cD hD hc
    obtain ⟨c', hc', hl⟩ := hD
    rw [hc] at hc'; cases hc'
    rcases Nat.lt_or_ge (4 + 4095) cD.size with h | h
    · omega
    · have := hl (4 + 4095); rw [Array.getElem?_eq_none h] at this; simp [lay] at this
  have hsrc : ∀ (k : Nat) (v : Value), (ys.map u8v)[k]? = some v → ∀ {w' : World}, SrcH w'.heap (some ⟨bs, ps, none⟩) xs → w'.cell? ⟨bs, ps + pos + k, none⟩ = some v := by
    intro k v hv w' hS
    rw [List.getElem?_map, Option.map_eq_some_iff] at hv
    obtain ⟨y, hy, rfl⟩ := hv
    rw [‹ys = _›, List.getElem?_take] at hy
    split at hy
    · rw [List.getElem?_drop] at hy; rw [Nat.add_assoc]; exact hS.cell hy
    · cases hy
  have hF := Fr.refl (DR D R) w0
  refine calls2 Tryd.func62 rfl rfl rfl rfl (Nat.le_of_ble_eq_true rfl) fun K hK => ?_
  refine CW_seq fun K1 hK1 => ?_
  refine CW_region rfl ?_
  refine RL_v rfl rfl (yd_assign rfl) ?_
  refine RL_v rfl rfl (yd_assign rfl) ?_
  refine RL_nil ?_
  refine hK1 _ _ ?_
  refine CW_seq fun K2 hK2 => ?_
  refine CW_seq fun K3 hK3 => ?_
  refine CW_draw 9 mixed (by kernel_rfl) rfl ?_
  refine RD_v rfl rfl (yd_move rfl) ?_
  refine RD_v rfl rfl (yd_nil rfl rfl) ?_
  refine RD_v rfl rfl (yd_field rfl ft_134_1 rfl) ?_
  refine RD_v rfl rfl (yd_load rfl sc_2 rfl (hB.ld1)) ?_
  refine RD_v rfl rfl (yd_move rfl) ?_
  refine RD_v rfl rfl (yd_nil rfl rfl) ?_
  refine RD_v rfl rfl (yd_field rfl ft_134_0 rfl) ?_
  refine RD_v rfl rfl (yd_load rfl sc_22 rfl (hB.ld0)) ?_
  refine RD_v rfl rfl (yd_len rfl sl_22 rfl) ?_
  refine RD_nil ?_
  refine RL_v rfl rfl (yd_ge false rfl rfl rfl (decide_eq_false (by omega))) ?_
  refine RL_nil ?_
  refine hK3 _ _ ?_
  refine CW_f rfl ?_
  refine CW_skip ?_
  refine hK2 _ _ ?_
  refine CW_seq fun K4 hK4 => ?_
  refine CW_region rfl ?_
  refine RL_v rfl rfl (yd_move rfl) ?_
  refine RL_v rfl rfl (yd_nil rfl rfl) ?_
  refine RL_v rfl rfl (yd_field rfl ft_134_2 rfl) ?_
  refine RL_storeW (fun w' => RdrB w'.heap R (some ⟨bs, ps, none⟩) xs.length cap pos (-1) ∧ DecP w'.heap D R a m n i j u buf X ∧ SrcH w'.heap (some ⟨bs, ps, none⟩) xs ∧ Fr (DR D R) w0 w') rfl rfl rfl sz_3 rfl rfl rfl (hB.ld2) (hB.fz) (⟨hB.set2 _, hD.of_eq (set_blk_ne hDR _), hS.keep (fun hx b p o e _ => set_blk_ne (hne hx b p e).2 _), hF.set (fun _ => .inr rfl) _⟩) ?_
  rintro w ⟨hB, hD, hS, hF⟩
  refine RL_nil ?_
  refine hK4 _ _ ?_
  refine CW_seq fun K5 hK5 => ?_
  refine CW_draw 10 mixed (by kernel_rfl) rfl ?_
  refine RD_v rfl rfl (yd_move rfl) ?_
  refine RD_v rfl rfl (yd_move rfl) ?_
  refine RD_v rfl rfl (yd_nil rfl rfl) ?_
  refine RD_v rfl rfl (yd_field rfl ft_134_0 rfl) ?_
  refine RD_v rfl rfl (yd_load rfl sc_22 rfl (hB.ld0)) ?_
  refine RD_v rfl rfl (yd_move rfl) ?_
  refine RD_v rfl rfl (yd_nil rfl rfl) ?_
  refine RD_v rfl rfl (yd_field rfl ft_134_1 rfl) ?_
  refine RD_v rfl rfl (yd_load rfl sc_2 rfl (hB.ld1)) ?_
  refine RD_v rfl rfl (yd_slice_lo rfl sl_22 rfl rfl pos rfl (by omega)) ?_
  refine RD_nil ?_
  obtain ⟨cD, hcD, _⟩ := id hD
  refine RL_copy (fun w' => RdrB w'.heap R (some ⟨bs, ps, none⟩) xs.length cap pos (-1) ∧ DecP w'.heap D R a m n i j u ((putB buf q ys)) X ∧ SrcH w'.heap (some ⟨bs, ps, none⟩) xs ∧ Fr (DR D R) w0 w') rfl rfl rfl sl_22 rfl rfl (ys.map u8v) (by rw [List.length_map]; exact hys) (.inr ⟨bs, ps + pos, by rw [if_neg hcp], fun k v hv => ?_⟩) hcD (by rw [List.length_map]; exact hfit cD hD hcD) (fun v hv => ?_) ⟨?_, ?_, ?_, ?_⟩ ?_
  · exact hsrc k v hv (w' := _) hS
  · rw [List.mem_map] at hv; obtain ⟨y, _, rfl⟩ := hv; rfl
  · exact (setCells_ne (Ne.symm hDR) _ _ _).trans hB
  · exact DecP.cpy ys q _ buf hD hq2
  · exact hS.keep (fun hx b p o e _ => setCells_ne (Nat.ne_of_lt (hne hx b p e).1) _ _ _)
  · exact Fr.setCells (fun _ => .inl rfl) _ _ _ hF
  rintro w ⟨hB, hD, hS, hF⟩
  rw [List.length_map]
  refine RL_v rfl rfl (yd_assign rfl) ?_
  refine RL_nil ?_
  refine hK5 _ _ ?_
  refine CW_seq fun K6 hK6 => ?_
  refine CW_region rfl ?_
  refine RL_v rfl rfl (yd_move rfl) ?_
  refine RL_v rfl rfl (yd_nil rfl rfl) ?_
  refine RL_v rfl rfl (yd_field rfl ft_134_1 rfl) ?_
  refine RL_v rfl rfl (yd_load rfl sc_2 rfl (hB.ld1)) ?_
  refine RL_v rfl rfl (yd_move rfl) ?_
  refine RL_v rfl rfl (yd_add64 rfl rfl rfl (by omega)) ?_
  refine RL_v rfl rfl (yd_nil rfl rfl) ?_
  refine RL_v rfl rfl (yd_field rfl ft_134_1 rfl) ?_
  refine RL_storeW (fun w' => RdrB w'.heap R (some ⟨bs, ps, none⟩) xs.length cap (pos + ys.length) (-1) ∧ DecP w'.heap D R a m n i j u ((putB buf q ys)) X ∧ SrcH w'.heap (some ⟨bs, ps, none⟩) xs ∧ Fr (DR D R) w0 w') rfl rfl rfl sz_2 rfl rfl rfl (hB.ld1) (hB.fz) (⟨hB.set1 (by omega), hD.of_eq (set_blk_ne hDR _), hS.keep (fun hx b p o e _ => set_blk_ne (hne hx b p e).2 _), hF.set (fun _ => .inr rfl) _⟩) ?_
  rintro w ⟨hB, hD, hS, hF⟩
  refine RL_nil ?_
  refine hK6 _ _ ?_
  refine CW_ret ?_
  refine hK _ _ ?_
  exact ⟨rfl, hD, ⟨_, _, _, hB, hS, hne, hcap⟩, hF⟩

end Go.Proofs.YtdjilplpbaackaaDoor.Eng
