/- ZZSymbols. -/
import Derived.Test.YtdjilplpbaackaaDoorNewR
import Derived.Test.YtdjilplpbaackaaDoorDecode
set_option linter.unusedVariables false
set_option linter.unusedSimpArgs false
set_option maxRecDepth 100000
namespace Go.Proofs.YtdjilplpbaackaaDoor.Eng
open Go

set_option maxHeartbeats 4000000 in
theorem zzSymbols_ok {sa sb : Option Addr} {ca cb n tc th : Nat} {xs ys : List Nat} {T : Tab} {M' : TabM} {e1 e2 : Addr} {w0 : World} (hd : Dht xs (fun _ _ => none) M') (hM : M' tc th = some T) (htc : tc ≤ 1) (hth : th ≤ 3)
    (hSa : SrcH w0.heap sa xs) (hSb : SrcH w0.heap sb ys) (hla : xs.length ≤ 2147483647) (hlb : ys.length ≤ 4611686018427387904) (hca : xs.length ≤ ca) (hcb : ys.length ≤ cb) (hy : ∀ y ∈ ys, y < 256) (hn : n ≤ 2147483648) (hG : GlobP w0.heap e1 e2) (h2 : 2 < w0.heap.size) :
    Calls Tryd.prog 14 #[.slice sa xs.length ca, .int .i64 (tc : Nat), .int .i64 (th : Nat), .slice sb ys.length cb, .int .i64 (n : Nat)] w0 fun e w' => ∃ v er, e = .returned (.tuple #[v, er]) ∧
      Own w' w0.heap.size 5 v ((decN T n (bitsOf ys)).1.map u8v) ∧ ErrOf (decN T n (bitsOf ys)).2 er ∧ Fr NO w0 w' := by
  refine calls2 Tryd.func14 rfl rfl rfl rfl (Nat.le_of_ble_eq_true rfl) fun K hK => ?_
  refine CW_seq fun K1 hK1 => ?_
  refine CW_region rfl ?_
  refine RL_v rfl rfl (yd_assign rfl) ?_
  refine RL_v rfl rfl (yd_assign rfl) ?_
  refine RL_nil ?_
  refine hK1 _ _ ?_
  refine CW_seq fun K2 hK2 => ?_
  refine CW_region rfl ?_
  refine RL_v rfl rfl (yd_move rfl) ?_
  refine RL_call rfl rfl rfl en_19 rfl (newReader' (R := w0.heap.size) rfl) ?_
  rintro _ w ⟨rfl, hB, hF⟩
  refine ⟨_, rfl, ?_⟩
  have hRl : w0.heap.size < w.heap.size := blk_lt hB
  refine RL_v rfl rfl (yd_mki rfl un_72 nf_72) ?_
  obtain ⟨cells, X0, hbuilt, hX0, hlay⟩ := dec_init w0.heap.size
  refine RL_v rfl rfl (yd_build rfl rfl hbuilt) ?_
  obtain ⟨D, hDe⟩ : ∃ D, D = w.heap.size := ⟨_, rfl⟩
  refine RL_box (fun w' => DecP w'.heap D w0.heap.size 0 0 0 0 0 0 (fun _ => 0) X0 ∧ Fr NO w w') rfl rfl rfl rfl ⟨⟨cells, by rw [hDe]; exact alloc_get, hlay⟩, (Fr.refl _ _).alloc _⟩ ?_
  rintro w1 ⟨hD, hF1⟩
  rw [← hDe]
  have hRD : w0.heap.size < D := by omega
  replace hF := hF1.trans' hF
  replace hB : RdrB w1.heap w0.heap.size sa xs.length ca 0 (-1) := (hF1.block _ (blk_lt hB) id).trans hB
  have hs := Strm.init hD hB (hSa.fr hF) (fun hx b p e => by have := hSa.lt hx e; omega) hca (hG.no hF) (by omega) (by omega) (by omega) (by omega)
  clear hB hD hDe hlay hF1
  refine RL_v rfl rfl (yd_assign rfl) ?_
  refine RL_nil ?_
  refine hK2 _ _ ?_
  refine CW_seq fun K3 hK3 => ?_
  refine CW_seq fun K4 hK4 => ?_
  refine CW_region rfl ?_
  refine RL_v rfl rfl (yd_move rfl) ?_
  refine RL_v rfl rfl (yd_move rfl) ?_
  refine RL_v rfl rfl (yd_len rfl sl_22 rfl) ?_
  refine RL_call rfl rfl rfl en_20 rfl (dht_ok hd hla hX0 (fun _ _ _ _ _ h => by cases h) hs) ?_
  rintro _ w ⟨rfl, ⟨Hs, av, X, hs, hX, hM1⟩, hF1⟩
  refine ⟨_, rfl, ?_⟩
  replace hF := hF.up hF1 (fun k h => by rcases h with h | h <;> omega)
  have hDl : D < w.heap.size := hs.dlt
  obtain ⟨i, j, buf, xs0, pos, h0, hj⟩ := hs
  have hD := h0.dec
  clear h0 hj hF1
  refine RL_v rfl rfl (yd_assign rfl) ?_
  refine RL_nil ?_
  refine hK4 _ _ ?_
  refine CW_seq fun K5 hK5 => ?_
  refine CW_region rfl ?_
  refine RL_v rfl rfl (yd_move rfl) ?_
  refine RL_v rfl rfl (yd_ne_nil' rfl if_65 rfl) ?_
  refine RL_nil ?_
  refine hK5 _ _ ?_
  refine CW_f rfl ?_
  refine CW_skip ?_
  refine hK3 _ _ ?_
  refine CW_seq fun K6 hK6 => ?_
  refine CW_region rfl ?_
  obtain ⟨R, hRe⟩ : ∃ R, R = w.heap.size := ⟨_, rfl⟩
  have hRw := hF.size
  refine RL_v rfl rfl (yd_move rfl) ?_
  refine RL_v rfl rfl (yd_move rfl) ?_
  refine RL_call rfl rfl rfl en_19 rfl (newReader' (R := R) hRe) ?_
  rintro _ w ⟨rfl, hB, hF1⟩
  refine ⟨_, rfl, ?_⟩
  replace hD : DecP w.heap D w0.heap.size 0 0 0 i j 0 buf X := hD.of_eq (hF1.block _ hDl id)
  replace hF := hF1.trans' hF
  clear hF1
  refine RL_v rfl rfl (yd_mki rfl un_72 nf_72) ?_
  refine RL_v rfl rfl (yd_nil rfl rfl) ?_
  refine RL_v rfl rfl (yd_field rfl ft_100_0 rfl) ?_
  refine RL_storeW (fun w' => DecP w'.heap D R 0 0 0 i j 0 buf X ∧ RdrB w'.heap R sb ys.length cb 0 (-1) ∧ Fr NO w0 w') rfl rfl rfl sz_75 rfl rfl rfl (hD.ldr) (hD.fz) (⟨hD.setr _, (set_blk_ne (by omega) _).trans hB, hF.set (fun h => absurd h (by omega)) _⟩) ?_
  clear hD hB hF
  rintro w ⟨hD, hB, hF⟩
  refine RL_nil ?_
  refine hK6 _ _ ?_
  refine CW_seq fun K7 hK7 => ?_
  refine CW_region rfl ?_
  refine RL_v rfl rfl (yd_move rfl) ?_
  refine RL_v rfl rfl (yd_move rfl) ?_
  refine RL_v rfl rfl (yd_move rfl) ?_
  refine RL_v rfl rfl (yd_nil rfl rfl) ?_
  refine RL_v rfl rfl (yd_field rfl ft_100_2 rfl) ?_
  refine RL_v rfl rfl (yd_field rfl ft_79_1 rfl) ?_
  refine RL_storeW (fun w' => DecP w'.heap D R 0 0 0 0 j 0 buf X ∧ RdrB w'.heap R sb ys.length cb 0 (-1) ∧ Fr NO w0 w') rfl rfl rfl sz_3 rfl rfl rfl (hD.ldi) (hD.fz) (⟨hD.seti rfl, (set_blk_ne (by omega) _).trans hB, hF.set (fun h => absurd h (by omega)) _⟩) ?_
  clear hD hB hF
  rintro w ⟨hD, hB, hF⟩
  refine RL_v rfl rfl (yd_nil rfl rfl) ?_
  refine RL_v rfl rfl (yd_field rfl ft_100_2 rfl) ?_
  refine RL_v rfl rfl (yd_field rfl ft_79_2 rfl) ?_
  refine RL_storeW (fun w' => DecP w'.heap D R 0 0 0 0 0 0 buf X ∧ RdrB w'.heap R sb ys.length cb 0 (-1) ∧ Fr NO w0 w') rfl rfl rfl sz_3 rfl rfl rfl (hD.ldj) (hD.fz) (⟨hD.setj rfl, (set_blk_ne (by omega) _).trans hB, hF.set (fun h => absurd h (by omega)) _⟩) ?_
  clear hD hB hF
  rintro w ⟨hD, hB, hF⟩
  refine RL_v rfl rfl (yd_nil rfl rfl) ?_
  refine RL_v rfl rfl (yd_field rfl ft_100_2 rfl) ?_
  refine RL_v rfl rfl (yd_field rfl ft_79_3 rfl) ?_
  refine RL_storeW (fun w' => DecP w'.heap D R 0 0 0 0 0 0 buf X ∧ RdrB w'.heap R sb ys.length cb 0 (-1) ∧ Fr NO w0 w') rfl rfl rfl sz_3 rfl rfl rfl (hD.ldu) (hD.fz) (⟨hD.setu rfl, (set_blk_ne (by omega) _).trans hB, hF.set (fun h => absurd h (by omega)) _⟩) ?_
  clear hD hB hF
  rintro w ⟨hD, hB, hF⟩
  refine RL_nil ?_
  refine hK7 _ _ ?_
  refine CW_seq fun K8 hK8 => ?_
  refine CW_region rfl ?_
  refine RL_v rfl rfl (yd_assign rfl) ?_
  refine RL_nil ?_
  refine hK8 _ _ ?_
  refine CW_seq fun K9 hK9 => ?_
  refine CW_seq fun K10 hK10 => ?_
  refine CW_region rfl ?_
  have hs := Strm.init hD hB (hSb.fr hF) (fun hx b p e => by have := hSb.lt hx e; omega) hcb (hG.no hF) (by omega) (by omega) (by omega) (by omega)
  have hbs : BS w.heap D R e1 e2 X (bitsOf ys) := ⟨ys, [], 0, 0, 0, 0, 0, hs, ⟨by decide, by decide, rfl⟩, rfl, hy⟩
  have hHX := hM1 tc th T htc hth hM
  obtain ⟨B0, hB0⟩ : ∃ B0, B0 = w.heap.size := ⟨_, rfl⟩
  have hB1 : D < B0 := by rw [hB0]; exact hs.dlt
  have hB2 : R < B0 := by rw [hB0]; exact hs.rlt
  have hB3 : w0.heap.size ≤ B0 := by omega
  clear hs hB hD
  refine RL_v rfl rfl (yd_assign rfl) ?_
  refine RL_nil ?_
  refine hK10 _ _ ?_
  refine CW_block ?_
  refine CW_loop (n := n) (fun σ w N => ∃ (k : Nat) (v : Value) (out : List Nat) (bs' : List Bool), AtS σ [(1, .int .i64 ((tc : Nat) : Int)), (2, .int .i64 ((th : Nat) : Int)), (4, .int .i64 ((n : Nat) : Int)), (12, .pointer (some ⟨D, 0, none⟩)), (14, v), (15, .int .i64 ((k : Nat) : Int))] ∧ k ≤ n ∧ out.length = k ∧ Own w B0 5 v (out.map u8v) ∧ BS w.heap D R e1 e2 X bs' ∧ decN T n (bitsOf ys) = (out ++ (decN T (n - k) bs').1, (decN T (n - k) bs').2) ∧ B0 ≤ w.heap.size ∧ Fr NO w0 w ∧ N = n - k) ?_ ?_
  · exact ⟨0, .slice none 0 0, [], bitsOf ys, ⟨rfl, rfl, rfl, rfl, rfl, rfl, trivial⟩, Nat.zero_le _, rfl, Own.nil _ _ _, hbs, rfl, by omega, hF, rfl⟩
  · intro σ w N hI K11 hK11
    clear hF hbs
    obtain ⟨k, v, out, bs', hσ, hkn0, hlen, hown, hbs, hdec, hB4, hF, hNN⟩ := hI
    subst hNN
    refine CW_at hσ ?_
    refine CW_seq fun K12 hK12 => ?_
    refine CW_seq fun K13 hK13 => ?_
    refine CW_region rfl ?_
    refine RL_v rfl rfl (yd_move rfl) ?_
    refine RL_v rfl rfl (yd_move rfl) ?_
    by_cases hkn : k < n
    · refine RL_v rfl rfl (yd_lt true rfl rfl rfl (decide_eq_true (by omega))) ?_
      refine RL_nil ?_
      refine hK13 _ _ ?_
      refine CW_t rfl ?_
      refine CW_skip ?_
      refine hK12 _ _ ?_
      refine CW_seq fun K14 hK14 => ?_
      refine CW_block ?_
      refine CW_seq fun K15 hK15 => ?_
      refine CW_region rfl ?_
      refine RL_v rfl rfl (yd_move rfl) ?_
      refine RL_v rfl rfl (yd_move rfl) ?_
      refine RL_v rfl rfl (yd_move rfl) ?_
      refine RL_v rfl rfl (yd_move rfl) ?_
      refine RL_v rfl rfl (yd_nil rfl rfl) ?_
      refine RL_v rfl rfl (yd_field rfl ft_100_22 rfl) ?_
      refine RL_v rfl rfl (yd_ix rfl at_94 rfl rfl (tc) (rfl) (by omega)) ?_
      refine RL_v rfl rfl (yd_ix rfl at_93 rfl rfl (th) (rfl) (by omega)) ?_
      rcases hsy : T.sym bs' with _ | ⟨s, bs2⟩
      · refine RL_call rfl rfl rfl en_21 rfl (decode_any (hh := 4148 + tc * 2244 + th * 561) hHX (by omega) hbs) ?_
        rintro e w ⟨hp, hF1⟩
        unfold DecPost at hp
        simp only [hsy] at hp
        obtain ⟨er, rfl⟩ := hp
        refine ⟨_, rfl, ?_⟩
        replace hown := hown.fr hF1 (fun k hk h => by rcases h with h | h <;> omega)
        replace hF := hF.up hF1 (fun k h => by rcases h with h | h <;> omega)
        replace hB4 : B0 ≤ w.heap.size := Nat.le_trans hB4 hF1.size
        clear hF1
        refine RL_v rfl rfl (yd_move rfl) ?_
        refine RL_v rfl rfl (yd_extract rfl rfl rfl) ?_
        refine RL_v rfl rfl (yd_extract rfl rfl rfl) ?_
        refine RL_v rfl rfl (yd_assign rfl) ?_
        refine RL_v rfl rfl (yd_assign rfl) ?_
        refine RL_nil ?_
        refine hK15 _ _ ?_
        refine CW_seq fun K16 hK16 => ?_
        refine CW_seq fun K17 hK17 => ?_
        refine CW_region rfl ?_
        refine RL_v rfl rfl (yd_move rfl) ?_
        refine RL_v rfl rfl (yd_ne_nil rfl if_65 rfl) ?_
        refine RL_nil ?_
        refine hK17 _ _ ?_
        refine CW_t rfl ?_
        refine CW_seq fun K18 hK18 => ?_
        refine CW_region rfl ?_
        refine RL_v rfl rfl (yd_move rfl) ?_
        refine RL_v rfl rfl (yd_move rfl) ?_
        refine RL_v rfl rfl (yd_assign rfl) ?_
        refine RL_v rfl rfl (yd_assign rfl) ?_
        refine RL_nil ?_
        refine hK18 _ _ ?_
        refine CW_ret ?_
        refine hK _ _ ?_
        rw [show n - k = (n - k - 1) + 1 by omega, decN_none hsy] at hdec
        exact ⟨v, _, rfl, by rw [hdec]; simp only [List.append_nil]; exact hown.mono hB3, by rw [hdec]; exact ⟨er, rfl⟩, hF⟩
      · refine RL_call rfl rfl rfl en_21 rfl (decode_any (hh := 4148 + tc * 2244 + th * 561) hHX (by omega) hbs) ?_
        rintro e w ⟨hp, hF1⟩
        unfold DecPost at hp
        simp only [hsy] at hp
        obtain ⟨rfl, hbs⟩ := hp
        refine ⟨_, rfl, ?_⟩
        replace hown := hown.fr hF1 (fun k hk h => by rcases h with h | h <;> omega)
        replace hF := hF.up hF1 (fun k h => by rcases h with h | h <;> omega)
        replace hB4 : B0 ≤ w.heap.size := Nat.le_trans hB4 hF1.size
        clear hF1
        refine RL_v rfl rfl (yd_move rfl) ?_
        refine RL_v rfl rfl (yd_extract rfl rfl rfl) ?_
        refine RL_v rfl rfl (yd_extract rfl rfl rfl) ?_
        refine RL_v rfl rfl (yd_assign rfl) ?_
        refine RL_v rfl rfl (yd_assign rfl) ?_
        refine RL_nil ?_
        refine hK15 _ _ ?_
        refine CW_seq fun K19 hK19 => ?_
        refine CW_seq fun K20 hK20 => ?_
        refine CW_region rfl ?_
        refine RL_v rfl rfl (yd_move rfl) ?_
        refine RL_v rfl rfl (yd_ne_nil' rfl if_65 rfl) ?_
        refine RL_nil ?_
        refine hK20 _ _ ?_
        refine CW_f rfl ?_
        refine CW_skip ?_
        refine hK19 _ _ ?_
        refine CW_region rfl ?_
        refine RL_v rfl rfl (yd_move rfl) ?_
        refine RL_v rfl rfl (yd_move rfl) ?_
        obtain ⟨q, hq⟩ : ∃ q, q = w.heap.size := ⟨_, rfl⟩
        refine RL_slice1 (fun w' => Own w' B0 5 v (out.map u8v) ∧ BS w'.heap D R e1 e2 X bs2 ∧ w'.cell? ⟨q, 0 + 0, none⟩ = some (u8v s) ∧ B0 ≤ w'.heap.size ∧ Fr NO w0 w') rfl rfl rfl Tryd.underlying22 si_5 zr_5 rfl rfl rfl ⟨hown.of_eq (fun k _ hk _ => alloc_old hk), hbs.keep (fun k hk _ => alloc_old hk), by rw [hq, cell_of_blk alloc_get]; rfl, by rw [alloc_size]; omega, hF.alloc _⟩ ?_
        clear hown hF hB4
        rintro w ⟨hown, hbs, hcl, hB4, hF⟩
        rw [← hq]
        clear hq
        refine RL_append (base := B0) (news := [u8v s]) rfl rfl rfl Tryd.underlying22 si_5 zr_5 rfl rfl rfl hown rfl (fun j u hj => ?_) (fun u hu => by rw [List.mem_singleton] at hu; subst hu; rfl) (by rw [List.length_map]; omega) (by rw [List.length_map]; omega) hB4 ?_
        · cases j with
          | zero => simp at hj; subst hj; exact hcl
          | succ j => simp at hj
        rintro v2 w2 hown2 hgr
        have hlt := fun k hk => hown.lt k hk
        replace hbs := hbs.keep (H' := w2.heap) (fun k hk hkd => hgr.block k hk (fun e => by have := hlt k e.symm; omega))
        replace hF : Fr NO w0 w2 := hF.grown hgr (fun k hk => by have := hlt k hk; omega)
        replace hB4 : B0 ≤ w2.heap.size := Nat.le_trans hB4 hgr.size
        rw [← List.map_singleton (f := u8v), ← List.map_append] at hown2
        refine RL_v rfl rfl (yd_assign rfl) ?_
        refine RL_nil ?_
        refine hK14 _ _ ?_
        refine CW_region rfl ?_
        refine RL_v rfl rfl (yd_move rfl) ?_
        refine RL_v rfl rfl (yd_add64 rfl rfl rfl (by omega)) ?_
        refine RL_v rfl rfl (yd_assign rfl) ?_
        refine RL_nil ?_
        refine hK11 _ _ ?_
        exact ⟨n - (k + 1), by omega, k + 1, v2, out ++ [s], bs2, ⟨rfl, rfl, rfl, rfl, rfl, rfl, trivial⟩, by omega, by rw [List.length_append, hlen]; rfl, hown2, hbs, by rw [hdec, show n - k = (n - (k + 1)) + 1 by omega, decN_some hsy]; simp, hB4, hF, rfl⟩
    · refine RL_v rfl rfl (yd_lt false rfl rfl rfl (decide_eq_false (by omega))) ?_
      refine RL_nil ?_
      refine hK13 _ _ ?_
      refine CW_f rfl ?_
      refine CW_exit rfl ?_
      refine hK9 _ _ ?_
      refine CW_seq fun K21 hK21 => ?_
      refine CW_region rfl ?_
      refine RL_v rfl rfl (yd_move rfl) ?_
      refine RL_v rfl rfl (yd_assign rfl) ?_
      refine RL_v rfl rfl (yd_assign rfl) ?_
      refine RL_nil ?_
      refine hK21 _ _ ?_
      refine CW_ret ?_
      refine hK _ _ ?_
      obtain rfl : k = n := by omega
      rw [Nat.sub_self] at hdec
      exact ⟨v, .nilIface, rfl, by rw [hdec]; simp only [decN, List.append_nil]; exact hown.mono hB3, by rw [hdec]; rfl, hF⟩

end Go.Proofs.YtdjilplpbaackaaDoor.Eng
