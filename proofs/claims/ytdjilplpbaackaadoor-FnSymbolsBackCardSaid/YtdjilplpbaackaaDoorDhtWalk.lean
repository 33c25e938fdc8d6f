/- processDHT: a segment's tables into the decoder's cells. -/
import Derived.Test.YtdjilplpbaackaaDoorDht
set_option linter.unusedVariables false
set_option linter.unusedSimpArgs false
set_option maxRecDepth 100000
namespace Go.Proofs.YtdjilplpbaackaaDoor.Eng
open Go

theorem zr_90 : zeroT Tryd.prog 90 = some (.agg (Array.replicate 16 (.int .i32 0))) := by kernel_rfl
theorem zr_82 : zeroT Tryd.prog 82 = some (.int .u16 0) := by kernel_rfl
theorem ag_90 : aggT Tryd.prog 90 = true := by kernel_rfl
theorem sz_90 : sizeT Tryd.prog 90 = some 16 := by kernel_rfl
set_option maxHeartbeats 4000000 in
theorem dht_ok {D R : Nat} {e1 e2 : Addr} {xs Hs : List Nat} {av a m n : Nat} {M M' : TabM} {X : Nat → Option Value} {w0 : World} (hd : Dht xs M M') (hl : xs.length ≤ 2147483647) (hX : XOK X) (hM : MX M X)
    (hs : Strm w0.heap D R e1 e2 xs Hs 0 av a m n X) :
    Calls Tryd.prog 20 #[.pointer (some ⟨D, 0, none⟩), .int .i64 (xs.length : Nat)] w0 fun e w' => e = .returned .nilIface ∧ (∃ Hs' av' X', Strm w'.heap D R e1 e2 [] Hs' 0 av' a m n X' ∧ XOK X' ∧ MX M' X') ∧ Fr (DR D R) w0 w' := by
  refine calls1 Tryd.func20 rfl rfl rfl rfl (Nat.le_of_ble_eq_true rfl) fun K hK => ?_
  refine CW_seq fun K1 hK1 => ?_
  refine CW_region rfl ?_
  refine RL_v rfl rfl (yd_assign rfl) ?_
  refine RL_nil ?_
  refine hK1 _ _ ?_
  refine CW_seq fun K2 hK2 => ?_
  refine CW_block ?_
  refine CW_loop (n := xs.length) (fun σ w N => ∃ (rest : List Nat) (M1 : TabM) (X : Nat → Option Value) (Hs : List Nat) (av : Nat), AtS σ [(0, .pointer (some ⟨D, 0, none⟩)), (1, .int .i64 ((rest.length : Nat) : Int))] ∧ Dht rest M1 M' ∧ rest.length ≤ 2147483647 ∧ Strm w.heap D R e1 e2 rest Hs 0 av a m n X ∧ XOK X ∧ MX M1 X ∧ Fr (DR D R) w0 w ∧ N = rest.length) ?_ ?_
  · exact ⟨xs, M, X, Hs, av, ⟨rfl, rfl, trivial⟩, hd, hl, hs, hX, hM, Fr.refl _ _, rfl⟩
  · intro σ w N hI K3 hK3
    clear hd hs hX hM
    obtain ⟨rest, M1, X0, Hs, av, hσ, hdht, hl, hs, hX, hM, hF, hN⟩ := hI
    subst hN
    refine CW_at hσ ?_
    refine CW_seq fun K4 hK4 => ?_
    refine CW_seq fun K5 hK5 => ?_
    refine CW_region rfl ?_
    refine RL_v rfl rfl (yd_move rfl) ?_
    by_cases hp : 0 < rest.length
    · refine RL_v rfl rfl (yd_gt true rfl rfl rfl (decide_eq_true (by omega))) ?_
      refine RL_nil ?_
      refine hK5 _ _ ?_
      refine CW_t rfl ?_
      refine CW_skip ?_
      refine hK4 _ _ ?_
      refine CW_block ?_
      refine CW_seq fun K6 hK6 => ?_
      refine CW_seq fun K7 hK7 => ?_
      refine CW_region rfl ?_
      obtain ⟨hd, tc, th, T, rest', hg, hdr, hre⟩ := hdht.inv hp
      have hln : rest.length = 17 + (T.syms.length + rest'.length) := by rw [hre, List.length_append, List.length_append, hg.len]
      have htc := hg.tc
      have hth := hg.th
      have hlen := hg.ok.len
      have hle := hg.ok.le
      have hpos := hg.ok.pos
      obtain ⟨hh, hhe⟩ : ∃ hh, hh = 4148 + tc * 2244 + th * 561 := ⟨_, rfl⟩
      have hW : WX X0 X0 hh := WX.refl hX
      rw [hre] at hs
      clear hX
      refine RL_v rfl rfl (yd_move rfl) ?_
      refine RL_v rfl rfl (yd_lt false rfl rfl rfl (decide_eq_false (by omega))) ?_
      refine RL_nil ?_
      refine hK7 _ _ ?_
      refine CW_f rfl ?_
      refine CW_skip ?_
      refine hK6 _ _ ?_
      refine CW_seq fun K8 hK8 => ?_
      refine CW_seq fun K9 hK9 => ?_
      refine CW_region rfl ?_
      have hlen17 := hg.len
      refine RL_v rfl rfl (yd_move rfl) ?_
      refine RL_v rfl rfl (yd_move rfl) ?_
      refine RL_v rfl rfl (yd_nil rfl rfl) ?_
      refine RL_v rfl rfl (yd_field rfl ft_100_24 rfl) ?_
      refine RL_v rfl rfl (yd_slice_arr (l := 0) (h := 17) (v := .slice (some ⟨D, 8892, none⟩) 17 128) rfl at_98 rfl rfl ⟨_, rfl⟩ (by decide) (by decide) rfl) ?_
      refine RL_call rfl rfl rfl en_27 rfl (readFull_ok (q := 8892) (len := 17) (cap := 128) hs (hg.len) (by omega) (by omega) (by omega) (fun k hk => hW.ok.all _ (by omega) (by omega))) ?_
      clear hs
      rintro _ w ⟨rfl, ⟨Hs, av, hs⟩, hF2⟩; refine ⟨_, rfl, ?_⟩
      replace hF := hF2.trans' hF
      obtain ⟨X, hXe, hW2, hT⟩ : ∃ X2, X2 = putRow X0 8892 (hd.map u8v) ∧ WX X0 X2 hh ∧ TmpX X2 hd := ⟨_, rfl, hW.row (.inr (by omega)), TmpX.mk'⟩
      rw [← hXe] at hs
      clear hXe hW
      have hW := hW2
      clear hW2
      refine RL_v rfl rfl (yd_assign rfl) ?_
      refine RL_nil ?_
      refine hK9 _ _ ?_
      refine CW_seq fun K10 hK10 => ?_
      refine CW_region rfl ?_
      refine RL_v rfl rfl (yd_move rfl) ?_
      refine RL_v rfl rfl (yd_ne_nil' rfl if_65 rfl) ?_
      refine RL_nil ?_
      refine hK10 _ _ ?_
      refine CW_f rfl ?_
      refine CW_skip ?_
      refine hK8 _ _ ?_
      refine CW_seq fun K11 hK11 => ?_
      refine CW_region rfl ?_
      refine RL_v rfl rfl (yd_move rfl) ?_
      refine RL_v rfl rfl (yd_nil rfl rfl) ?_
      refine RL_v rfl rfl (yd_field rfl ft_100_24 rfl) ?_
      refine RL_v rfl rfl (yd_ix1 rfl at_98 rfl rfl (0) (rfl) (by decide)) ?_
      refine RL_v rfl rfl (yd_load rfl sc_5 rfl ((hs.ldx (by omega)).trans (hT 0 _ hg.h0))) ?_
      refine RL_v rfl rfl (yd_shr rfl rfl rfl (by omega) ((tc : Nat) : Int) ((shr_k .u8 (tc * 16 + th) 4 (by decide)).trans (by omega))) ?_
      refine RL_v rfl rfl (yd_assign rfl) ?_
      refine RL_nil ?_
      refine hK11 _ _ ?_
      refine CW_seq fun K12 hK12 => ?_
      refine CW_seq fun K13 hK13 => ?_
      refine CW_region rfl ?_
      refine RL_v rfl rfl (yd_move rfl) ?_
      refine RL_v rfl rfl (yd_gt false rfl rfl rfl (decide_eq_false (by omega))) ?_
      refine RL_nil ?_
      refine hK13 _ _ ?_
      refine CW_f rfl ?_
      refine CW_skip ?_
      refine hK12 _ _ ?_
      refine CW_seq fun K14 hK14 => ?_
      refine CW_region rfl ?_
      refine RL_v rfl rfl (yd_move rfl) ?_
      refine RL_v rfl rfl (yd_nil rfl rfl) ?_
      refine RL_v rfl rfl (yd_field rfl ft_100_24 rfl) ?_
      refine RL_v rfl rfl (yd_ix1 rfl at_98 rfl rfl (0) (rfl) (by decide)) ?_
      refine RL_v rfl rfl (yd_load rfl sc_5 rfl ((hs.ldx (by omega)).trans (hT 0 _ hg.h0))) ?_
      refine RL_v rfl rfl (yd_and rfl rfl rfl ((th : Nat) : Int) ((and15_u8 (tc * 16 + th) (by omega)).trans (by omega))) ?_
      refine RL_v rfl rfl (yd_assign rfl) ?_
      refine RL_nil ?_
      refine hK14 _ _ ?_
      refine CW_seq fun K15 hK15 => ?_
      refine CW_seq fun K16 hK16 => ?_
      refine CW_region rfl ?_
      refine RL_v rfl rfl (yd_move rfl) ?_
      refine RL_v rfl rfl (yd_gt false rfl rfl rfl (decide_eq_false (by omega))) ?_
      refine RL_v rfl rfl (yd_move rfl) ?_
      refine RL_gv rfl rfl (yd_move rfl) ?_
      refine RL_gv rfl rfl (yd_nil rfl rfl) ?_
      refine RL_gv rfl rfl (yd_field rfl ft_100_14 rfl) ?_
      refine RL_gv rfl rfl (yd_load rfl sc_4 rfl ((hs.ldx (by omega)).trans hW.ok.base)) ?_
      refine RL_gv rfl rfl (yd_move rfl) ?_
      refine RL_skip rfl rfl ?_
      refine RL_skip rfl rfl ?_
      refine RL_gv rfl rfl (yd_pick rfl rfl) ?_
      refine RL_v rfl rfl (yd_pick rfl rfl) ?_
      refine RL_nil ?_
      refine hK16 _ _ ?_
      refine CW_f rfl ?_
      refine CW_skip ?_
      refine hK15 _ _ ?_
      refine CW_cut (fun σ w => ∃ (av : Nat) (Hs : List Nat) (X : Nat → Option Value), AtS σ [(0, .pointer (some ⟨D, 0, none⟩)), (1, .int .i64 ((rest.length : Nat) : Int)), (8, .pointer (some ⟨D, hh, none⟩))] ∧ Strm w.heap D R e1 e2 (T.syms ++ rest') Hs 0 av a m n X ∧ WX X0 X hh ∧ TmpX X hd ∧ Fr (DR D R) w0 w) ?_ ?_
      · refine CW_region rfl ?_
        refine RL_v rfl rfl (yd_move rfl) ?_
        refine RL_v rfl rfl (yd_move rfl) ?_
        refine RL_v rfl rfl (yd_move rfl) ?_
        refine RL_v rfl rfl (yd_nil rfl rfl) ?_
        refine RL_v rfl rfl (yd_field rfl ft_100_22 rfl) ?_
        refine RL_v rfl rfl (yd_ix rfl at_94 rfl rfl (tc) (rfl) (by omega)) ?_
        refine RL_v rfl rfl (yd_ix rfl at_93 rfl rfl (th) (rfl) (by omega)) ?_
        refine RL_v rfl rfl (yd_assign rfl) ?_
        refine RL_nil ?_
        exact ⟨av, Hs, X, ⟨rfl, rfl, by rw [hhe]; rfl, trivial⟩, hs, hW, hT, hF⟩
      · clear hF hT hW
        intro σ w ⟨av, Hs, X, hσ, hs, hW, hT, hF⟩
        refine CW_at hσ ?_
        refine CW_seq fun K17 hK17 => ?_
        refine CW_region rfl ?_
        refine RL_v rfl rfl (yd_move rfl) ?_
        refine RL_v rfl rfl (yd_nil rfl rfl) ?_
        refine RL_v rfl rfl (yd_field rfl ft_92_0 rfl) ?_
        refine RL_storeW (fun w' => ∃ X2, Strm w'.heap D R e1 e2 (T.syms ++ rest') Hs 0 av a m n X2 ∧ WX X0 X2 hh ∧ TmpX X2 hd ∧ HN X2 hh (T.idx 0) ∧ Fr (DR D R) w0 w') rfl rfl rfl sz_21 rfl rfl rfl (hs.cellx (q := hh + 0) (by omega) (hW.ok.all _ (by omega) (by omega))) (hs.fz) (⟨_, hs.setx (q := hh + 0) (by omega) (hW.ok.all _ (by omega) (by omega)), hW.upd (.inl (by omega)), hT.upd (by omega), updX_same, hF.set (fun _ => .inl rfl) _⟩) ?_
        clear hs hF hW hT
        rintro w ⟨X, hs, hW, hT, hN, hF⟩
        refine RL_nil ?_
        refine hK17 _ _ ?_
        refine CW_seq fun K18 hK18 => ?_
        refine CW_region rfl ?_
        obtain ⟨B, hBe⟩ : ∃ B, B = w.heap.size := ⟨_, rfl⟩
        have hB1 : w0.heap.size ≤ B := by rw [hBe]; exact hF.size
        have hB2 : D < B := by rw [hBe]; exact hs.dlt
        have hB3 : R ≠ B := by rw [hBe]; exact Nat.ne_of_lt hs.rlt
        refine RL_alloc (fun w' => Strm w'.heap D R e1 e2 (T.syms ++ rest') Hs 0 av a m n X ∧ ArrP w'.heap B 90 16 (cntF T 0) ∧ Fr (DR D R) w0 w') rfl rfl rfl zr_90 ⟨hs.alloc _, ⟨_, by rw [hBe]; exact alloc_get, rfl, fun i hi => ?_⟩, hF.alloc _⟩ ?_
        · have h1 : (Value.agg (Array.replicate 16 (.int .i32 0))).cells = Array.replicate 16 (.int .i32 0) := rfl
          rw [h1, Array.getElem?_replicate, if_pos hi]; unfold cntF; rw [if_neg (by omega)]; rfl
        clear hs hF
        rintro w ⟨hs, hA, hF⟩
        rw [← hBe]
        clear hBe
        refine RL_nil ?_
        refine hK18 _ _ ?_
        refine CW_seq fun K19 hK19 => ?_
        refine CW_seq fun K20 hK20 => ?_
        refine CW_region rfl ?_
        refine RL_v rfl rfl (yd_move rfl) ?_
        refine RL_nil ?_
        refine hK20 _ _ ?_
        refine CW_block ?_
        refine CW_loop (n := 16) (fun σ w N => ∃ (i : Nat) (X : Nat → Option Value), AtS σ [(0, .pointer (some ⟨D, 0, none⟩)), (1, .int .i64 ((rest.length : Nat) : Int)), (8, .pointer (some ⟨D, hh, none⟩)), (9, .pointer (some ⟨B, 0, none⟩)), (75, .int .i64 ((i : Nat) : Int))] ∧ i ≤ 16 ∧ Strm w.heap D R e1 e2 (T.syms ++ rest') Hs 0 av a m n X ∧ WX X0 X hh ∧ TmpX X hd ∧ HN X hh (T.idx i) ∧ ArrP w.heap B 90 16 (cntF T i) ∧ Fr (DR D R) w0 w ∧ N = 16 - i) ?_ ?_
        · exact ⟨0, X, ⟨rfl, rfl, rfl, rfl, rfl, trivial⟩, by omega, hs, hW, hT, hN, hA, hF, rfl⟩
        · intro σ w N hI K21 hK21
          clear hs hF hW hT hN hA
          obtain ⟨i, X, hσ, hi, hs, hW, hT, hN, hA, hF, hNN⟩ := hI
          subst hNN
          refine CW_at hσ ?_
          refine CW_seq fun K22 hK22 => ?_
          refine CW_region rfl ?_
          by_cases hi16 : i < 16
          · refine RL_v rfl rfl (yd_lt true rfl rfl rfl (decide_eq_true (by omega))) ?_
            refine RL_nil ?_
            refine hK22 _ _ ?_
            refine CW_seq fun K23 hK23 => ?_
            refine CW_t rfl ?_
            refine CW_skip ?_
            refine hK23 _ _ ?_
            refine CW_seq fun K24 hK24 => ?_
            refine CW_block ?_
            refine CW_seq fun K25 hK25 => ?_
            refine CW_region rfl ?_
            refine RL_v rfl rfl (yd_move rfl) ?_
            refine RL_v rfl rfl (yd_assign rfl) ?_
            refine RL_nil ?_
            refine hK25 _ _ ?_
            refine CW_seq fun K26 hK26 => ?_
            refine CW_region rfl ?_
            have hcn := hg.by_ i hi16
            have hmi := T.idx_mono (i := i + 1) (j := 16) (by omega)
            have hmi' : T.idx (i + 1) = T.idx i + T.counts i := rfl
            refine RL_v rfl rfl (yd_move rfl) ?_
            refine RL_v rfl rfl (yd_move rfl) ?_
            refine RL_v rfl rfl (yd_move rfl) ?_
            refine RL_v rfl rfl (yd_add64 rfl rfl rfl (by omega)) ?_
            refine RL_v rfl rfl (yd_nil rfl rfl) ?_
            refine RL_v rfl rfl (yd_field rfl ft_100_24 rfl) ?_
            refine RL_v rfl rfl (yd_ix1 rfl at_98 rfl rfl (i + 1) (by omega) (by omega)) ?_
            refine RL_v rfl rfl (yd_load rfl sc_5 rfl ((hs.ldx (by omega)).trans (hT (i + 1) _ (hg.cnt i (by omega))))) ?_
            refine RL_v rfl rfl (yd_conv rfl so_5 it_21 rfl ((T.counts i : Nat) : Int) (IntWalk.i32_in _ (by omega))) ?_
            refine RL_v rfl rfl (yd_ix1 rfl at_90 rfl rfl (i) (rfl) (by omega)) ?_
            refine RL_storeW (fun w' => Strm w'.heap D R e1 e2 (T.syms ++ rest') Hs 0 av a m n X ∧ ArrP w'.heap B 90 16 (cntF T (i + 1)) ∧ Fr (DR D R) w0 w') rfl rfl rfl sz_21 rfl rfl rfl (hA.ld0 (i := i) (by omega) rfl) (hA.fz) (⟨hs.own hB2 hB3, hA.set0 (by omega) (cntF_self T i) (fun j _ hj => cntF_ne T hj), hF.set (fun h => absurd h (by omega)) _⟩) ?_
            clear hs hF hA
            rintro w ⟨hs, hA, hF⟩
            refine RL_nil ?_
            refine hK26 _ _ ?_
            refine CW_draw 7 mixed (by kernel_rfl) rfl ?_
            refine RD_v rfl rfl (yd_move rfl) ?_
            refine RD_v rfl rfl (yd_nil rfl rfl) ?_
            refine RD_v rfl rfl (yd_field rfl ft_92_0 rfl) ?_
            refine RD_v rfl rfl (yd_load rfl sc_21 rfl ((hs.ldx (by omega)).trans hN)) ?_
            refine RD_v rfl rfl (yd_move rfl) ?_
            refine RD_v rfl rfl (yd_ix1 rfl at_90 rfl rfl (i) (rfl) (by omega)) ?_
            refine RD_v rfl rfl (yd_load rfl sc_21 rfl (hA.ld0 (by omega) (cntF_self T i))) ?_
            refine RD_nil ?_
            refine RL_v rfl rfl (yd_add rfl rfl rfl ((T.idx (i + 1) : Nat) : Int) ((IntWalk.i32_in _ (by omega)).trans (by show _ = ((T.idx i + T.counts i : Nat) : Int); omega))) ?_
            refine RL_v rfl rfl (yd_nil rfl rfl) ?_
            refine RL_v rfl rfl (yd_field rfl ft_92_0 rfl) ?_
            refine RL_storeW (fun w' => ∃ X2, Strm w'.heap D R e1 e2 (T.syms ++ rest') Hs 0 av a m n X2 ∧ WX X0 X2 hh ∧ TmpX X2 hd ∧ HN X2 hh (T.idx (i + 1)) ∧ ArrP w'.heap B 90 16 (cntF T (i + 1)) ∧ Fr (DR D R) w0 w') rfl rfl rfl sz_21 rfl rfl rfl (hs.cellx (q := hh + 0) (by omega) (hW.ok.all _ (by omega) (by omega))) (hs.fz) (⟨_, hs.setx (q := hh + 0) (by omega) (hW.ok.all _ (by omega) (by omega)), hW.upd (.inl (by omega)), hT.upd (by omega), updX_same, hA.set_ne (by omega) _, hF.set (fun _ => .inl rfl) _⟩) ?_
            clear hs hF hW hT hN hA
            rintro w ⟨X, hs, hW, hT, hN, hA, hF⟩
            refine RL_nil ?_
            refine hK24 _ _ ?_
            refine CW_region rfl ?_
            refine RL_v rfl rfl (yd_add64 rfl rfl rfl (by omega)) ?_
            refine RL_v rfl rfl (yd_move rfl) ?_
            refine RL_nil ?_
            refine hK21 _ _ ?_
            exact ⟨16 - (i + 1), by omega, i + 1, X, ⟨rfl, rfl, rfl, rfl, rfl, trivial⟩, by omega, hs, hW, hT, hN, hA, hF, rfl⟩
          · refine RL_v rfl rfl (yd_lt false rfl rfl rfl (decide_eq_false (by omega))) ?_
            refine RL_nil ?_
            refine hK22 _ _ ?_
            refine CW_seq fun K27 hK27 => ?_
            refine CW_f rfl ?_
            refine CW_exit rfl ?_
            refine hK19 _ _ ?_
            refine CW_seq fun K28 hK28 => ?_
            refine CW_seq fun K29 hK29 => ?_
            refine CW_region rfl ?_
            obtain rfl : i = 16 := by omega
            have hA2 : ArrP w.heap B 90 16 (cnt T) := hA.congr fun j hj => cntF_all T hj
            replace hA := hA2
            clear hA2
            refine RL_v rfl rfl (yd_move rfl) ?_
            refine RL_v rfl rfl (yd_nil rfl rfl) ?_
            refine RL_v rfl rfl (yd_field rfl ft_92_0 rfl) ?_
            refine RL_v rfl rfl (yd_load rfl sc_21 rfl ((hs.ldx (by omega)).trans hN)) ?_
            refine RL_v rfl rfl (yd_eq false rfl rfl rfl (decide_eq_false (by omega))) ?_
            refine RL_nil ?_
            refine hK29 _ _ ?_
            refine CW_f rfl ?_
            refine CW_skip ?_
            refine hK28 _ _ ?_
            refine CW_seq fun K30 hK30 => ?_
            refine CW_seq fun K31 hK31 => ?_
            refine CW_region rfl ?_
            refine RL_v rfl rfl (yd_move rfl) ?_
            refine RL_v rfl rfl (yd_nil rfl rfl) ?_
            refine RL_v rfl rfl (yd_field rfl ft_92_0 rfl) ?_
            refine RL_v rfl rfl (yd_load rfl sc_21 rfl ((hs.ldx (by omega)).trans hN)) ?_
            refine RL_v rfl rfl (yd_gt false rfl rfl rfl (decide_eq_false (by omega))) ?_
            refine RL_nil ?_
            refine hK31 _ _ ?_
            refine CW_f rfl ?_
            refine CW_skip ?_
            refine hK30 _ _ ?_
            refine CW_seq fun K32 hK32 => ?_
            refine CW_region rfl ?_
            refine RL_v rfl rfl (yd_move rfl) ?_
            refine RL_v rfl rfl (yd_move rfl) ?_
            refine RL_v rfl rfl (yd_nil rfl rfl) ?_
            refine RL_v rfl rfl (yd_field rfl ft_92_0 rfl) ?_
            refine RL_v rfl rfl (yd_load rfl sc_21 rfl ((hs.ldx (by omega)).trans hN)) ?_
            refine RL_v rfl rfl (yd_conv rfl so_21 it_3 rfl ((T.idx 16 : Nat) : Int) (IntWalk.i64_in _ (by omega))) ?_
            refine RL_v rfl rfl (yd_add64 rfl rfl rfl (by omega)) ?_
            refine RL_v rfl rfl (yd_sub64 rfl rfl rfl (by omega)) ?_
            refine RL_v rfl rfl (yd_assign rfl) ?_
            refine RL_nil ?_
            refine hK32 _ _ ?_
            refine CW_seq fun K33 hK33 => ?_
            refine CW_seq fun K34 hK34 => ?_
            refine CW_region rfl ?_
            refine RL_v rfl rfl (yd_move rfl) ?_
            refine RL_v rfl rfl (yd_lt false rfl rfl rfl (decide_eq_false (by omega))) ?_
            refine RL_nil ?_
            refine hK34 _ _ ?_
            refine CW_f rfl ?_
            refine CW_skip ?_
            refine hK33 _ _ ?_
            refine CW_seq fun K35 hK35 => ?_
            refine CW_seq fun K36 hK36 => ?_
            refine CW_draw 9 mixed (by kernel_rfl) rfl ?_
            refine RD_v rfl rfl (yd_move rfl) ?_
            refine RD_v rfl rfl (yd_move rfl) ?_
            refine RD_v rfl rfl (yd_nil rfl rfl) ?_
            refine RD_v rfl rfl (yd_field rfl ft_92_2 rfl) ?_
            refine RD_v rfl rfl (yd_move rfl) ?_
            refine RD_v rfl rfl (yd_nil rfl rfl) ?_
            refine RD_v rfl rfl (yd_field rfl ft_92_0 rfl) ?_
            refine RD_v rfl rfl (yd_load rfl sc_21 rfl ((hs.ldx (by omega)).trans hN)) ?_
            refine RD_v rfl rfl (yd_slice_arr (l := 0) (h := T.idx 16) (v := .slice (some ⟨D, hh + 257, none⟩) (T.idx 16) 256) rfl at_89 rfl rfl ⟨_, rfl⟩ (by omega) (by omega) rfl) ?_
            refine RD_nil ?_
            refine RL_call rfl rfl rfl en_27 rfl (readFull_ok (q := hh + 257) (len := T.idx 16) (cap := 256) hs (hlen) (by omega) (by omega) (by omega) (fun k hk => hW.ok.all _ (by omega) (by omega))) ?_
            clear hs
            rintro _ w ⟨rfl, ⟨Hs, av, hs⟩, hF2⟩; refine ⟨_, rfl, ?_⟩
            replace hF := hF2.trans' hF
            replace hA := hA.of_eq (hF2.block B hA.lt (fun h => by rcases h with h | h <;> omega))
            obtain ⟨X2, hXe, hW2, hN2, hV⟩ : ∃ X2, X2 = putRow X (hh + 257) (T.syms.map u8v) ∧ WX X0 X2 hh ∧ HN X2 hh (T.idx 16) ∧ HV X2 hh T := ⟨_, rfl, hW.row (.inl (by rw [List.length_map]; omega)), hN.row (by omega), HV.mk'⟩
            rw [← hXe] at hs
            clear hXe hW hN hT
            revert hs hW2 hN2 hV
            generalize X2 = X
            intro hs hW hN hV
            refine RL_v rfl rfl (yd_assign rfl) ?_
            refine RL_nil ?_
            refine hK36 _ _ ?_
            refine CW_seq fun K37 hK37 => ?_
            refine CW_region rfl ?_
            refine RL_v rfl rfl (yd_move rfl) ?_
            refine RL_v rfl rfl (yd_ne_nil' rfl if_65 rfl) ?_
            refine RL_nil ?_
            refine hK37 _ _ ?_
            refine CW_f rfl ?_
            refine CW_skip ?_
            refine hK35 _ _ ?_
            refine CW_seq fun K38 hK38 => ?_
            refine CW_region rfl ?_
            refine RL_v rfl rfl (yd_move rfl) ?_
            refine RL_v rfl rfl (yd_nil rfl rfl) ?_
            refine RL_v rfl rfl (yd_field rfl ft_92_1 rfl) ?_
            refine RL_v rfl rfl (yd_slice_arr (l := 0) (h := 256) (v := .slice (some ⟨D, hh + 1, none⟩) 256 256) rfl at_88 rfl rfl rfl (by decide) (by decide) rfl) ?_
            obtain ⟨cs, hcs, hfit⟩ := hs.fit (q := hh + 1) (l := 256) (by omega) (by omega) (hW.ok.all _ (by omega) (by omega))
            refine RL_clear (fun w' => Strm w'.heap D R e1 e2 rest' Hs 0 av a m n (putRow X (hh + 1) (List.replicate 256 (.int .u16 0))) ∧ ArrP w'.heap B 90 16 (cnt T) ∧ Fr (DR D R) w0 w') rfl rfl rfl Tryd.underlying136 zr_82 rfl rfl (by decide) hcs hfit ⟨hs.rowx (by omega) (fun k hk => by rw [List.length_replicate] at hk; exact hW.ok.all _ (by omega) (by omega)), hA.of_eq (setCells_ne (by omega) _ _ _), Fr.setCells (fun _ => .inl rfl) _ _ _ hF⟩ ?_
            clear hs hA hF hcs hfit
            rintro w ⟨hs, hA, hF⟩
            obtain ⟨X2, hXe, hW2, hN2, hV2, hL⟩ : ∃ X2, X2 = putRow X (hh + 1) (List.replicate 256 (.int .u16 0)) ∧ WX X0 X2 hh ∧ HN X2 hh (T.idx 16) ∧ HV X2 hh T ∧ HL X2 hh T :=
              ⟨_, rfl, hW.row (.inl (by rw [List.length_replicate]; omega)), hN.row (by omega), hV.row (by rw [List.length_replicate]; omega), HL.mk'⟩
            rw [← hXe] at hs
            clear hXe hW hN hV
            revert hs hW2 hN2 hV2 hL
            generalize X2 = X
            intro hs hW hN hV hL
            refine RL_nil ?_
            refine hK38 _ _ ?_
            refine CW_seq fun K39 hK39 => ?_
            refine CW_region rfl ?_
            refine RL_v rfl rfl (yd_assign rfl) ?_
            refine RL_v rfl rfl (yd_assign rfl) ?_
            refine RL_nil ?_
            refine hK39 _ _ ?_
            refine CW_seq fun K40 hK40 => ?_
            refine CW_seq fun K41 hK41 => ?_
            refine CW_region rfl ?_
            refine RL_v rfl rfl (yd_assign rfl) ?_
            refine RL_nil ?_
            refine hK41 _ _ ?_
            refine CW_block ?_
            refine CW_loop (n := 8) (fun σ w N => ∃ (i c : Nat) (X : Nat → Option Value), AtS σ [(0, .pointer (some ⟨D, 0, none⟩)), (1, .int .i64 ((rest'.length : Nat) : Int)), (8, .pointer (some ⟨D, hh, none⟩)), (9, .pointer (some ⟨B, 0, none⟩)), (12, .int .u32 ((T.idx i : Nat) : Int)), (13, .int .u32 ((c : Nat) : Int)), (14, .int .u32 ((i : Nat) : Int))] ∧ i ≤ 8 ∧ 2 * c = T.first i ∧ (Strm w.heap D R e1 e2 rest' Hs 0 av a m n X ∧ WX X0 X hh ∧ HN X hh (T.idx 16) ∧ HV X hh T ∧ HL X hh T) ∧ ArrP w.heap B 90 16 (cnt T) ∧ Fr (DR D R) w0 w ∧ N = 8 - i) ?_ ?_
            · exact ⟨0, 0, X, ⟨rfl, congrArg (Value.int .i64) (by omega), rfl, rfl, rfl, rfl, rfl, trivial⟩, by omega, rfl, ⟨hs, hW, hN, hV, hL⟩, hA, hF, rfl⟩
            · intro σ w N hI K42 hK42
              clear hs hF hW hN hV hL hA
              obtain ⟨i, c, X, hσ, hi, hc, ⟨hs, hW, hN, hV, hL⟩, hA, hF, hNN⟩ := hI
              subst hNN
              refine CW_at hσ ?_
              refine CW_seq fun K43 hK43 => ?_
              refine CW_seq fun K44 hK44 => ?_
              refine CW_region rfl ?_
              refine RL_v rfl rfl (yd_move rfl) ?_
              by_cases hi8 : i < 8
              · refine RL_v rfl rfl (yd_lt true rfl rfl rfl (decide_eq_true (by omega))) ?_
                refine RL_nil ?_
                refine hK44 _ _ ?_
                refine CW_t rfl ?_
                refine CW_skip ?_
                refine hK43 _ _ ?_
                refine CW_seq fun K45 hK45 => ?_
                refine CW_block ?_
                refine CW_seq fun K46 hK46 => ?_
                refine CW_region rfl ?_
                have hkr : T.first i + T.counts i < 256 := Nat.lt_of_lt_of_le (hg.kraft i (by omega)) (show 2 ^ (i + 1) ≤ 2 ^ 8 from Nat.pow_le_pow_right (by decide) (by omega))
                have hmi := T.idx_mono (i := i + 1) (j := 16) (by omega)
                have hmi' : T.idx (i + 1) = T.idx i + T.counts i := rfl
                refine RL_v rfl rfl (yd_move rfl) ?_
                refine RL_v rfl rfl (yd_shl rfl rfl rfl (by omega) ((T.first i : Nat) : Int) ((shl_u32 c 1 (by decide)).trans (by omega))) ?_
                refine RL_v rfl rfl (yd_assign rfl) ?_
                refine RL_nil ?_
                refine hK46 _ _ ?_
                refine CW_seq fun K47 hK47 => ?_
                refine CW_region rfl ?_
                refine RL_v rfl rfl (yd_assign rfl) ?_
                refine RL_nil ?_
                refine hK47 _ _ ?_
                refine CW_block ?_
                refine CW_loop (n := T.counts i) (fun σ w N => ∃ (j : Nat) (X : Nat → Option Value), AtS σ [(0, .pointer (some ⟨D, 0, none⟩)), (1, .int .i64 ((rest'.length : Nat) : Int)), (8, .pointer (some ⟨D, hh, none⟩)), (9, .pointer (some ⟨B, 0, none⟩)), (12, .int .u32 ((T.idx i + j : Nat) : Int)), (13, .int .u32 ((T.first i + j : Nat) : Int)), (14, .int .u32 ((i : Nat) : Int)), (15, .int .i32 ((j : Nat) : Int))] ∧ j ≤ T.counts i ∧ (Strm w.heap D R e1 e2 rest' Hs 0 av a m n X ∧ WX X0 X hh ∧ HN X hh (T.idx 16) ∧ HV X hh T ∧ HL X hh T) ∧ ArrP w.heap B 90 16 (cnt T) ∧ Fr (DR D R) w0 w ∧ N = T.counts i - j) ?_ ?_
                · exact ⟨0, X, ⟨rfl, rfl, rfl, rfl, rfl, rfl, rfl, rfl, trivial⟩, by omega, ⟨hs, hW, hN, hV, hL⟩, hA, hF, rfl⟩
                · intro σ w N hI K48 hK48
                  clear hs hF hW hN hV hL hA
                  obtain ⟨j, X, hσ, hji, ⟨hs, hW, hN, hV, hL⟩, hA, hF, hNN⟩ := hI
                  subst hNN
                  refine CW_at hσ ?_
                  refine CW_seq fun K49 hK49 => ?_
                  refine CW_seq fun K50 hK50 => ?_
                  refine CW_region rfl ?_
                  refine RL_v rfl rfl (yd_move rfl) ?_
                  refine RL_v rfl rfl (yd_move rfl) ?_
                  refine RL_v rfl rfl (yd_ix1 rfl at_90 rfl rfl (i) (rfl) (by omega)) ?_
                  refine RL_v rfl rfl (yd_load rfl sc_21 rfl (hA.ld0 (i := i) (by omega) rfl)) ?_
                  by_cases hj : j < T.counts i
                  · refine RL_v rfl rfl (yd_lt true rfl rfl rfl (decide_eq_true (by omega))) ?_
                    refine RL_nil ?_
                    refine hK50 _ _ ?_
                    refine CW_t rfl ?_
                    refine CW_skip ?_
                    refine hK49 _ _ ?_
                    refine CW_seq fun K51 hK51 => ?_
                    refine CW_block ?_
                    refine CW_seq fun K52 hK52 => ?_
                    refine CW_region rfl ?_
                    have hBP : (T.first i + j) * 2 ^ (7 - i) + 2 ^ (7 - i) ≤ 256 := by
                      have h1 := hg.kraft i (by omega)
                      have h2 : (T.first i + j + 1) * 2 ^ (7 - i) ≤ 2 ^ (i + 1) * 2 ^ (7 - i) := Nat.mul_le_mul_right _ (by omega)
                      rw [← Nat.pow_add, show i + 1 + (7 - i) = 8 by omega, Nat.add_mul, Nat.one_mul] at h2
                      exact h2
                    have hp2 : 1 ≤ 2 ^ (7 - i) := Nat.pow_pos (by decide)
                    have hp3 : 2 ^ (7 - i) ≤ 2 ^ 7 := Nat.pow_le_pow_right (by decide) (by omega)
                    obtain ⟨s, hsv⟩ : ∃ s, T.syms[T.idx i + j]? = some s := ⟨_, List.getElem?_eq_getElem (by omega)⟩
                    have hs256 : s < 256 := hg.ok.by_ s (List.mem_of_getElem? hsv)
                    refine RL_v rfl rfl (yd_move rfl) ?_
                    refine RL_v rfl rfl (yd_move rfl) ?_
                    refine RL_v rfl rfl (yd_sub rfl rfl rfl ((7 - i : Nat) : Int) (by rw [show ((7 : Int) - (i : Int)) = ((7 - i : Nat) : Int) by omega, wrap_u32, Nat.mod_eq_of_lt (by omega)])) ?_
                    refine RL_v rfl rfl (yd_shl rfl rfl rfl (by omega) (((T.first i + j) * 2 ^ (7 - i) : Nat) : Int) ((shl_u32 (T.first i + j) (7 - i) (by omega)).trans (by rw [Nat.mod_eq_of_lt (by omega)]))) ?_
                    refine RL_v rfl rfl (yd_conv rfl so_40 it_5 rfl (((T.first i + j) * 2 ^ (7 - i) : Nat) : Int) ((wrap_u8 _).trans (by rw [Nat.mod_eq_of_lt (by omega)]))) ?_
                    refine RL_v rfl rfl (yd_assign rfl) ?_
                    refine RL_nil ?_
                    refine hK52 _ _ ?_
                    refine CW_seq fun K53 hK53 => ?_
                    refine CW_region rfl ?_
                    refine RL_v rfl rfl (yd_move rfl) ?_
                    refine RL_v rfl rfl (yd_move rfl) ?_
                    refine RL_v rfl rfl (yd_nil rfl rfl) ?_
                    refine RL_v rfl rfl (yd_field rfl ft_92_2 rfl) ?_
                    refine RL_v rfl rfl (yd_ix1 rfl at_89 rfl rfl (T.idx i + j) (rfl) (by omega)) ?_
                    refine RL_v rfl rfl (yd_load rfl sc_5 rfl ((hs.ldx (by omega)).trans (hV _ _ hsv))) ?_
                    refine RL_v rfl rfl (yd_conv rfl so_5 it_82 rfl ((s : Nat) : Int) ((wrap_u16 s).trans (by rw [Nat.mod_eq_of_lt (by omega)]))) ?_
                    refine RL_v rfl rfl (yd_shl rfl rfl rfl (by omega) ((s * 256 : Nat) : Int) (shl8_u16 s hs256)) ?_
                    refine RL_v rfl rfl (yd_move rfl) ?_
                    refine RL_v rfl rfl (yd_add rfl rfl rfl ((i + 2 : Nat) : Int) (by rw [show ((2 : Int) + (i : Int)) = ((i + 2 : Nat) : Int) by omega, wrap_u32, Nat.mod_eq_of_lt (by omega)])) ?_
                    refine RL_v rfl rfl (yd_conv rfl so_40 it_82 rfl ((i + 2 : Nat) : Int) ((wrap_u16 (i + 2)).trans (by rw [Nat.mod_eq_of_lt (by omega)]))) ?_
                    refine RL_v rfl rfl (yd_or rfl rfl rfl ((s * 256 + (i + 2) : Nat) : Int) (or_u16 s (i + 2) (by omega) hs256)) ?_
                    refine RL_v rfl rfl (yd_assign rfl) ?_
                    refine RL_nil ?_
                    refine hK53 _ _ ?_
                    refine CW_seq fun K54 hK54 => ?_
                    refine CW_seq fun K55 hK55 => ?_
                    refine CW_region rfl ?_
                    refine RL_v rfl rfl (yd_assign rfl) ?_
                    refine RL_nil ?_
                    refine hK55 _ _ ?_
                    refine CW_block ?_
                    refine CW_loop (n := 2 ^ (7 - i)) (fun σ w N => ∃ (k : Nat) (X : Nat → Option Value), AtS σ [(0, .pointer (some ⟨D, 0, none⟩)), (1, .int .i64 ((rest'.length : Nat) : Int)), (8, .pointer (some ⟨D, hh, none⟩)), (9, .pointer (some ⟨B, 0, none⟩)), (12, .int .u32 ((T.idx i + j : Nat) : Int)), (13, .int .u32 ((T.first i + j : Nat) : Int)), (14, .int .u32 ((i : Nat) : Int)), (15, .int .i32 ((j : Nat) : Int)), (16, .int .u8 (((T.first i + j) * 2 ^ (7 - i) : Nat) : Int)), (17, .int .u16 ((s * 256 + (i + 2) : Nat) : Int)), (18, .int .u8 ((k : Nat) : Int))] ∧ k ≤ 2 ^ (7 - i) ∧ (Strm w.heap D R e1 e2 rest' Hs 0 av a m n X ∧ WX X0 X hh ∧ HN X hh (T.idx 16) ∧ HV X hh T ∧ HL X hh T) ∧ ArrP w.heap B 90 16 (cnt T) ∧ Fr (DR D R) w0 w ∧ N = 2 ^ (7 - i) - k) ?_ ?_
                    · exact ⟨0, X, ⟨rfl, rfl, rfl, rfl, rfl, rfl, rfl, rfl, rfl, rfl, rfl, trivial⟩, by omega, ⟨hs, hW, hN, hV, hL⟩, hA, hF, rfl⟩
                    · intro σ w N hI K56 hK56
                      clear hs hF hW hN hV hL hA
                      obtain ⟨k, X, hσ, hkp, ⟨hs, hW, hN, hV, hL⟩, hA, hF, hNN⟩ := hI
                      subst hNN
                      refine CW_at hσ ?_
                      refine CW_seq fun K57 hK57 => ?_
                      refine CW_seq fun K58 hK58 => ?_
                      refine CW_region rfl ?_
                      refine RL_v rfl rfl (yd_move rfl) ?_
                      refine RL_v rfl rfl (yd_move rfl) ?_
                      refine RL_v rfl rfl (yd_sub rfl rfl rfl ((7 - i : Nat) : Int) (by rw [show ((7 : Int) - (i : Int)) = ((7 - i : Nat) : Int) by omega, wrap_u32, Nat.mod_eq_of_lt (by omega)])) ?_
                      refine RL_v rfl rfl (yd_shl rfl rfl rfl (by omega) ((2 ^ (7 - i) : Nat) : Int) (shl1_u8 (7 - i) (by omega))) ?_
                      by_cases hk : k < 2 ^ (7 - i)
                      · refine RL_v rfl rfl (yd_lt true rfl rfl rfl (decide_eq_true (by omega))) ?_
                        refine RL_nil ?_
                        refine hK58 _ _ ?_
                        refine CW_t rfl ?_
                        refine CW_skip ?_
                        refine hK57 _ _ ?_
                        refine CW_seq fun K59 hK59 => ?_
                        refine CW_block ?_
                        refine CW_region rfl ?_
                        refine RL_v rfl rfl (yd_move rfl) ?_
                        refine RL_v rfl rfl (yd_move rfl) ?_
                        refine RL_v rfl rfl (yd_move rfl) ?_
                        refine RL_v rfl rfl (yd_or rfl rfl rfl (((T.first i + j) * 2 ^ (7 - i) + k : Nat) : Int) (or_u8 (T.first i + j) k (7 - i) hk (by omega))) ?_
                        refine RL_v rfl rfl (yd_move rfl) ?_
                        refine RL_v rfl rfl (yd_nil rfl rfl) ?_
                        refine RL_v rfl rfl (yd_field rfl ft_92_1 rfl) ?_
                        refine RL_v rfl rfl (yd_ix1 rfl at_88 rfl rfl ((T.first i + j) * 2 ^ (7 - i) + k) (rfl) (by omega)) ?_
                        refine RL_storeW (fun w' => ∃ X2, Strm w'.heap D R e1 e2 rest' Hs 0 av a m n X2 ∧ WX X0 X2 hh ∧ HN X2 hh (T.idx 16) ∧ HV X2 hh T ∧ HL X2 hh T ∧ ArrP w'.heap B 90 16 (cnt T) ∧ Fr (DR D R) w0 w') rfl rfl rfl sz_82 rfl rfl rfl (hs.cellx (q := hh + 1 + ((T.first i + j) * 2 ^ (7 - i) + k)) (by omega) (hW.ok.all _ (by omega) (by omega))) (hs.fz) (⟨_, hs.setx (q := hh + 1 + ((T.first i + j) * 2 ^ (7 - i) + k)) (by omega) (hW.ok.all _ (by omega) (by omega)), hW.upd (.inl (by omega)), hN.upd (by omega), hV.upd hg.ok (by omega), hL.put (Tab.lut_ok hg.kraft hi8 hj hk hsv hs256), hA.set_ne (by omega) _, hF.set (fun _ => .inl rfl) _⟩) ?_
                        clear hs hF hW hN hV hL hA
                        rintro w ⟨X, hs, hW, hN, hV, hL, hA, hF⟩
                        refine RL_nil ?_
                        refine hK59 _ _ ?_
                        refine CW_region rfl ?_
                        refine RL_v rfl rfl (yd_move rfl) ?_
                        refine RL_v rfl rfl (yd_add rfl rfl rfl ((k + 1 : Nat) : Int) (by rw [show ((k : Int) + 1) = ((k + 1 : Nat) : Int) by omega, wrap_u8, Nat.mod_eq_of_lt (by omega)])) ?_
                        refine RL_v rfl rfl (yd_assign rfl) ?_
                        refine RL_nil ?_
                        refine hK56 _ _ ?_
                        exact ⟨2 ^ (7 - i) - (k + 1), by omega, k + 1, X, ⟨rfl, rfl, rfl, rfl, rfl, rfl, rfl, rfl, rfl, rfl, rfl, trivial⟩, by omega, ⟨hs, hW, hN, hV, hL⟩, hA, hF, rfl⟩
                      · refine RL_v rfl rfl (yd_lt false rfl rfl rfl (decide_eq_false (by omega))) ?_
                        refine RL_nil ?_
                        refine hK58 _ _ ?_
                        refine CW_f rfl ?_
                        refine CW_exit rfl ?_
                        refine hK54 _ _ ?_
                        refine CW_seq fun K60 hK60 => ?_
                        refine CW_region rfl ?_
                        refine RL_v rfl rfl (yd_move rfl) ?_
                        refine RL_v rfl rfl (yd_add rfl rfl rfl ((T.first i + (j + 1) : Nat) : Int) (by rw [show (((T.first i + j : Nat) : Int) + 1) = ((T.first i + (j + 1) : Nat) : Int) by omega, wrap_u32, Nat.mod_eq_of_lt (by omega)])) ?_
                        refine RL_v rfl rfl (yd_assign rfl) ?_
                        refine RL_nil ?_
                        refine hK60 _ _ ?_
                        refine CW_region rfl ?_
                        refine RL_v rfl rfl (yd_move rfl) ?_
                        refine RL_v rfl rfl (yd_add rfl rfl rfl ((T.idx i + (j + 1) : Nat) : Int) (by rw [show (((T.idx i + j : Nat) : Int) + 1) = ((T.idx i + (j + 1) : Nat) : Int) by omega, wrap_u32, Nat.mod_eq_of_lt (by omega)])) ?_
                        refine RL_v rfl rfl (yd_assign rfl) ?_
                        refine RL_nil ?_
                        refine hK51 _ _ ?_
                        refine CW_region rfl ?_
                        refine RL_v rfl rfl (yd_move rfl) ?_
                        refine RL_v rfl rfl (yd_add32 rfl rfl rfl (by omega)) ?_
                        refine RL_v rfl rfl (yd_assign rfl) ?_
                        refine RL_nil ?_
                        refine hK48 _ _ ?_
                        exact ⟨T.counts i - (j + 1), by omega, j + 1, X, ⟨rfl, rfl, rfl, rfl, rfl, rfl, rfl, rfl, trivial⟩, by omega, ⟨hs, hW, hN, hV, hL⟩, hA, hF, rfl⟩
                  · refine RL_v rfl rfl (yd_lt false rfl rfl rfl (decide_eq_false (by omega))) ?_
                    refine RL_nil ?_
                    refine hK50 _ _ ?_
                    refine CW_f rfl ?_
                    refine CW_exit rfl ?_
                    refine hK45 _ _ ?_
                    refine CW_region rfl ?_
                    refine RL_v rfl rfl (yd_move rfl) ?_
                    refine RL_v rfl rfl (yd_add rfl rfl rfl ((i + 1 : Nat) : Int) (by rw [show ((i : Int) + 1) = ((i + 1 : Nat) : Int) by omega, wrap_u32, Nat.mod_eq_of_lt (by omega)])) ?_
                    refine RL_v rfl rfl (yd_assign rfl) ?_
                    refine RL_nil ?_
                    refine hK42 _ _ ?_
                    obtain rfl : j = T.counts i := by omega
                    exact ⟨8 - (i + 1), by omega, i + 1, T.first i + T.counts i, X, ⟨rfl, rfl, rfl, rfl, rfl, rfl, rfl, trivial⟩, by omega, by show _ = (T.first i + T.counts i) * 2; omega, ⟨hs, hW, hN, hV, hL⟩, hA, hF, rfl⟩
              · refine RL_v rfl rfl (yd_lt false rfl rfl rfl (decide_eq_false (by omega))) ?_
                refine RL_nil ?_
                refine hK44 _ _ ?_
                refine CW_f rfl ?_
                refine CW_exit rfl ?_
                refine hK40 _ _ ?_
                refine CW_seq fun K61 hK61 => ?_
                refine CW_region rfl ?_
                obtain rfl : i = 8 := by omega
                refine RL_v rfl rfl (yd_assign rfl) ?_
                refine RL_v rfl rfl (yd_assign rfl) ?_
                refine RL_nil ?_
                refine hK61 _ _ ?_
                refine CW_seq fun K62 hK62 => ?_
                refine CW_region rfl ?_
                refine RL_v rfl rfl (yd_load_agg (n := 16) rfl ag_90 sz_90 rfl ((List.range 16).map (cnt T)) (by simp) (fun k v hv => by
                    rw [List.getElem?_map, Option.map_eq_some_iff] at hv
                    obtain ⟨x, hx, rfl⟩ := hv
                    have hx16 : k < 16 := by
                      rcases Nat.lt_or_ge k 16 with h | h
                      · exact h
                      · rw [List.getElem?_eq_none (by rw [List.length_range]; exact h)] at hx; cases hx
                    rw [List.getElem?_range hx16] at hx; cases hx
                    exact hA.ld0 hx16 rfl)) ?_
                refine RL_v rfl rfl (yd_move rfl) ?_
                refine RL_nil ?_
                refine hK62 _ _ ?_
                refine CW_block ?_
                refine CW_loop (n := 16) (fun σ w N => ∃ (i : Nat) (X : Nat → Option Value), AtS σ [(0, .pointer (some ⟨D, 0, none⟩)), (1, .int .i64 ((rest'.length : Nat) : Int)), (8, .pointer (some ⟨D, hh, none⟩)), (188, .agg ((List.range 16).map (cnt T)).toArray), (189, .int .i64 ((i : Nat) : Int)), (19, .int .i32 ((T.first i : Nat) : Int)), (20, .int .i32 ((T.idx i : Nat) : Int))] ∧ i ≤ 16 ∧ (Strm w.heap D R e1 e2 rest' Hs 0 av a m n X ∧ WX X0 X hh ∧ HN X hh (T.idx 16) ∧ HV X hh T ∧ HL X hh T) ∧ HC X hh T i ∧ Fr (DR D R) w0 w ∧ N = 16 - i) ?_ ?_
                · exact ⟨0, X, ⟨rfl, rfl, rfl, rfl, rfl, rfl, rfl, trivial⟩, by omega, ⟨hs, hW, hN, hV, hL⟩, HC.zero, hF, rfl⟩
                · intro σ w N hI K63 hK63
                  clear hs hF hW hN hV hL
                  obtain ⟨i, X, hσ, hi, ⟨hs, hW, hN, hV, hL⟩, hC, hF, hNN⟩ := hI
                  subst hNN
                  refine CW_at hσ ?_
                  refine CW_seq fun K64 hK64 => ?_
                  refine CW_region rfl ?_
                  by_cases hi16 : i < 16
                  · refine RL_v rfl rfl (yd_lt true rfl rfl rfl (decide_eq_true (by omega))) ?_
                    refine RL_nil ?_
                    refine hK64 _ _ ?_
                    refine CW_seq fun K65 hK65 => ?_
                    refine CW_t rfl ?_
                    refine CW_skip ?_
                    refine hK65 _ _ ?_
                    refine CW_seq fun K66 hK66 => ?_
                    refine CW_block ?_
                    refine CW_seq fun K67 hK67 => ?_
                    refine CW_region rfl ?_
                    have hkr : T.first i + T.counts i < 65536 := Nat.lt_of_lt_of_le (hg.kraft i (by omega)) (show 2 ^ (i + 1) ≤ 2 ^ 16 from Nat.pow_le_pow_right (by decide) (by omega))
                    have hmi := T.idx_mono (i := i + 1) (j := 16) (by omega)
                    have hmi' : T.idx (i + 1) = T.idx i + T.counts i := rfl
                    refine RL_v rfl rfl (yd_move rfl) ?_
                    refine RL_v rfl rfl (yd_index rfl Tryd.underlying90 sz_21 sc_21 rfl rfl i rfl (by omega) (show _ = some (cnt T i) by simp [hi16])) ?_
                    refine RL_v rfl rfl (yd_assign rfl) ?_
                    refine RL_v rfl rfl (yd_assign rfl) ?_
                    refine RL_nil ?_
                    refine hK67 _ _ ?_
                    refine CW_seq fun K68 hK68 => ?_
                    refine CW_seq fun K69 hK69 => ?_
                    refine CW_region rfl ?_
                    refine RL_v rfl rfl (yd_move rfl) ?_
                    by_cases hz : T.counts i = 0
                    · refine RL_v rfl rfl (yd_eq true rfl rfl rfl (decide_eq_true (by omega))) ?_
                      refine RL_nil ?_
                      refine hK69 _ _ ?_
                      refine CW_t rfl ?_
                      refine CW_seq fun K70 hK70 => ?_
                      refine CW_region rfl ?_
                      refine RL_v rfl rfl (yd_move rfl) ?_
                      refine RL_v rfl rfl (yd_move rfl) ?_
                      refine RL_v rfl rfl (yd_nil rfl rfl) ?_
                      refine RL_v rfl rfl (yd_field rfl ft_92_3 rfl) ?_
                      refine RL_v rfl rfl (yd_ix1 rfl at_90 rfl rfl (i) (rfl) (by omega)) ?_
                      refine RL_storeW (fun w' => ∃ Y, Strm w'.heap D R e1 e2 rest' Hs 0 av a m n Y ∧ WX X0 Y hh ∧ HN Y hh (T.idx 16) ∧ HV Y hh T ∧ HL Y hh T ∧ Y = updX X (hh + 513 + i) (.int .i32 (-1)) ∧ Fr (DR D R) w0 w') rfl rfl rfl sz_21 rfl rfl rfl (hs.cellx (q := hh + 513 + i) (by omega) (hW.ok.all _ (by omega) (by omega))) (hs.fz) (⟨_, hs.setx (q := hh + 513 + i) (by omega) (hW.ok.all _ (by omega) (by omega)), hW.upd (.inl (by omega)), hN.upd (by omega), hV.upd hg.ok (by omega), hL.upd (by omega), rfl, hF.set (fun _ => .inl rfl) _⟩) ?_
                      clear hs hF hW hN hV hL
                      rintro w ⟨X1, hs, hW, hN, hV, hL, he513, hF⟩
                      refine RL_nil ?_
                      refine hK70 _ _ ?_
                      refine CW_seq fun K71 hK71 => ?_
                      refine CW_region rfl ?_
                      refine RL_v rfl rfl (yd_move rfl) ?_
                      refine RL_v rfl rfl (yd_move rfl) ?_
                      refine RL_v rfl rfl (yd_nil rfl rfl) ?_
                      refine RL_v rfl rfl (yd_field rfl ft_92_4 rfl) ?_
                      refine RL_v rfl rfl (yd_ix1 rfl at_90 rfl rfl (i) (rfl) (by omega)) ?_
                      refine RL_storeW (fun w' => ∃ Y, Strm w'.heap D R e1 e2 rest' Hs 0 av a m n Y ∧ WX X0 Y hh ∧ HN Y hh (T.idx 16) ∧ HV Y hh T ∧ HL Y hh T ∧ Y = updX X1 (hh + 529 + i) (.int .i32 (-1)) ∧ Fr (DR D R) w0 w') rfl rfl rfl sz_21 rfl rfl rfl (hs.cellx (q := hh + 529 + i) (by omega) (hW.ok.all _ (by omega) (by omega))) (hs.fz) (⟨_, hs.setx (q := hh + 529 + i) (by omega) (hW.ok.all _ (by omega) (by omega)), hW.upd (.inl (by omega)), hN.upd (by omega), hV.upd hg.ok (by omega), hL.upd (by omega), rfl, hF.set (fun _ => .inl rfl) _⟩) ?_
                      clear hs hF hW hN hV hL
                      rintro w ⟨X2, hs, hW, hN, hV, hL, he529, hF⟩
                      refine RL_nil ?_
                      refine hK71 _ _ ?_
                      refine CW_region rfl ?_
                      refine RL_v rfl rfl (yd_move rfl) ?_
                      refine RL_v rfl rfl (yd_move rfl) ?_
                      refine RL_v rfl rfl (yd_nil rfl rfl) ?_
                      refine RL_v rfl rfl (yd_field rfl ft_92_5 rfl) ?_
                      refine RL_v rfl rfl (yd_ix1 rfl at_90 rfl rfl (i) (rfl) (by omega)) ?_
                      refine RL_storeW (fun w' => ∃ Y, Strm w'.heap D R e1 e2 rest' Hs 0 av a m n Y ∧ WX X0 Y hh ∧ HN Y hh (T.idx 16) ∧ HV Y hh T ∧ HL Y hh T ∧ Y = updX X2 (hh + 545 + i) (.int .i32 (-1)) ∧ Fr (DR D R) w0 w') rfl rfl rfl sz_21 rfl rfl rfl (hs.cellx (q := hh + 545 + i) (by omega) (hW.ok.all _ (by omega) (by omega))) (hs.fz) (⟨_, hs.setx (q := hh + 545 + i) (by omega) (hW.ok.all _ (by omega) (by omega)), hW.upd (.inl (by omega)), hN.upd (by omega), hV.upd hg.ok (by omega), hL.upd (by omega), rfl, hF.set (fun _ => .inl rfl) _⟩) ?_
                      clear hs hF hW hN hV hL
                      rintro w ⟨X3, hs, hW, hN, hV, hL, he545, hF⟩
                      refine RL_nil ?_
                      refine hK68 _ _ ?_
                      refine CW_region rfl ?_
                      refine RL_v rfl rfl (yd_move rfl) ?_
                      refine RL_v rfl rfl (yd_shl rfl rfl rfl (by omega) ((T.first (i + 1) : Nat) : Int) ((shl1_i32 (T.first i) (by omega)).trans (by show _ = (((T.first i + T.counts i) * 2 : Nat) : Int); omega))) ?_
                      refine RL_v rfl rfl (yd_assign rfl) ?_
                      refine RL_nil ?_
                      refine hK66 _ _ ?_
                      refine CW_region rfl ?_
                      refine RL_v rfl rfl (yd_add64 rfl rfl rfl (by omega)) ?_
                      refine RL_v rfl rfl (yd_move rfl) ?_
                      refine RL_nil ?_
                      refine hK63 _ _ ?_
                      have hC2 : HC X3 hh T (i + 1) := by
                        rw [he545, he529, he513]
                        exact hC.succ hi16 (fun _ => rfl) (fun h => by omega)
                      exact ⟨16 - (i + 1), by omega, i + 1, X3, ⟨rfl, rfl, rfl, rfl, rfl, rfl, by show Value.int .i32 ((T.idx i : Nat) : Int) = .int .i32 ((T.idx i + T.counts i : Nat) : Int); rw [hz]; rfl, trivial⟩, by omega, ⟨hs, hW, hN, hV, hL⟩, hC2, hF, rfl⟩
                    · refine RL_v rfl rfl (yd_eq false rfl rfl rfl (decide_eq_false (by omega))) ?_
                      refine RL_nil ?_
                      refine hK69 _ _ ?_
                      refine CW_f rfl ?_
                      refine CW_seq fun K72 hK72 => ?_
                      refine CW_region rfl ?_
                      refine RL_v rfl rfl (yd_move rfl) ?_
                      refine RL_v rfl rfl (yd_move rfl) ?_
                      refine RL_v rfl rfl (yd_move rfl) ?_
                      refine RL_v rfl rfl (yd_nil rfl rfl) ?_
                      refine RL_v rfl rfl (yd_field rfl ft_92_3 rfl) ?_
                      refine RL_v rfl rfl (yd_ix1 rfl at_90 rfl rfl (i) (rfl) (by omega)) ?_
                      refine RL_storeW (fun w' => ∃ Y, Strm w'.heap D R e1 e2 rest' Hs 0 av a m n Y ∧ WX X0 Y hh ∧ HN Y hh (T.idx 16) ∧ HV Y hh T ∧ HL Y hh T ∧ Y = updX X (hh + 513 + i) (.int .i32 (T.first i : Nat)) ∧ Fr (DR D R) w0 w') rfl rfl rfl sz_21 rfl rfl rfl (hs.cellx (q := hh + 513 + i) (by omega) (hW.ok.all _ (by omega) (by omega))) (hs.fz) (⟨_, hs.setx (q := hh + 513 + i) (by omega) (hW.ok.all _ (by omega) (by omega)), hW.upd (.inl (by omega)), hN.upd (by omega), hV.upd hg.ok (by omega), hL.upd (by omega), rfl, hF.set (fun _ => .inl rfl) _⟩) ?_
                      clear hs hF hW hN hV hL
                      rintro w ⟨X1, hs, hW, hN, hV, hL, he513, hF⟩
                      refine RL_nil ?_
                      refine hK72 _ _ ?_
                      refine CW_seq fun K73 hK73 => ?_
                      refine CW_region rfl ?_
                      refine RL_v rfl rfl (yd_move rfl) ?_
                      refine RL_v rfl rfl (yd_move rfl) ?_
                      refine RL_v rfl rfl (yd_move rfl) ?_
                      refine RL_v rfl rfl (yd_move rfl) ?_
                      refine RL_v rfl rfl (yd_add rfl rfl rfl ((T.first i + T.counts i : Nat) : Int) ((IntWalk.i32_in _ (by omega)).trans (by omega))) ?_
                      refine RL_v rfl rfl (yd_sub32 rfl rfl rfl (by omega)) ?_
                      refine RL_v rfl rfl (yd_nil rfl rfl) ?_
                      refine RL_v rfl rfl (yd_field rfl ft_92_4 rfl) ?_
                      refine RL_v rfl rfl (yd_ix1 rfl at_90 rfl rfl (i) (rfl) (by omega)) ?_
                      refine RL_storeW (fun w' => ∃ Y, Strm w'.heap D R e1 e2 rest' Hs 0 av a m n Y ∧ WX X0 Y hh ∧ HN Y hh (T.idx 16) ∧ HV Y hh T ∧ HL Y hh T ∧ Y = updX X1 (hh + 529 + i) (.int .i32 (((T.first i + T.counts i : Nat) : Int) - 1)) ∧ Fr (DR D R) w0 w') rfl rfl rfl sz_21 rfl rfl rfl (hs.cellx (q := hh + 529 + i) (by omega) (hW.ok.all _ (by omega) (by omega))) (hs.fz) (⟨_, hs.setx (q := hh + 529 + i) (by omega) (hW.ok.all _ (by omega) (by omega)), hW.upd (.inl (by omega)), hN.upd (by omega), hV.upd hg.ok (by omega), hL.upd (by omega), rfl, hF.set (fun _ => .inl rfl) _⟩) ?_
                      clear hs hF hW hN hV hL
                      rintro w ⟨X2, hs, hW, hN, hV, hL, he529, hF⟩
                      refine RL_nil ?_
                      refine hK73 _ _ ?_
                      refine CW_seq fun K74 hK74 => ?_
                      refine CW_region rfl ?_
                      refine RL_v rfl rfl (yd_move rfl) ?_
                      refine RL_v rfl rfl (yd_move rfl) ?_
                      refine RL_v rfl rfl (yd_move rfl) ?_
                      refine RL_v rfl rfl (yd_nil rfl rfl) ?_
                      refine RL_v rfl rfl (yd_field rfl ft_92_5 rfl) ?_
                      refine RL_v rfl rfl (yd_ix1 rfl at_90 rfl rfl (i) (rfl) (by omega)) ?_
                      refine RL_storeW (fun w' => ∃ Y, Strm w'.heap D R e1 e2 rest' Hs 0 av a m n Y ∧ WX X0 Y hh ∧ HN Y hh (T.idx 16) ∧ HV Y hh T ∧ HL Y hh T ∧ Y = updX X2 (hh + 545 + i) (.int .i32 (T.idx i : Nat)) ∧ Fr (DR D R) w0 w') rfl rfl rfl sz_21 rfl rfl rfl (hs.cellx (q := hh + 545 + i) (by omega) (hW.ok.all _ (by omega) (by omega))) (hs.fz) (⟨_, hs.setx (q := hh + 545 + i) (by omega) (hW.ok.all _ (by omega) (by omega)), hW.upd (.inl (by omega)), hN.upd (by omega), hV.upd hg.ok (by omega), hL.upd (by omega), rfl, hF.set (fun _ => .inl rfl) _⟩) ?_
                      clear hs hF hW hN hV hL
                      rintro w ⟨X3, hs, hW, hN, hV, hL, he545, hF⟩
                      refine RL_nil ?_
                      refine hK74 _ _ ?_
                      refine CW_seq fun K75 hK75 => ?_
                      refine CW_region rfl ?_
                      refine RL_v rfl rfl (yd_move rfl) ?_
                      refine RL_v rfl rfl (yd_move rfl) ?_
                      refine RL_v rfl rfl (yd_add rfl rfl rfl ((T.first i + T.counts i : Nat) : Int) ((IntWalk.i32_in _ (by omega)).trans (by omega))) ?_
                      refine RL_v rfl rfl (yd_assign rfl) ?_
                      refine RL_nil ?_
                      refine hK75 _ _ ?_
                      refine CW_region rfl ?_
                      refine RL_v rfl rfl (yd_move rfl) ?_
                      refine RL_v rfl rfl (yd_move rfl) ?_
                      refine RL_v rfl rfl (yd_add rfl rfl rfl ((T.idx (i + 1) : Nat) : Int) ((IntWalk.i32_in _ (by omega)).trans (by show _ = ((T.idx i + T.counts i : Nat) : Int); omega))) ?_
                      refine RL_v rfl rfl (yd_assign rfl) ?_
                      refine RL_nil ?_
                      refine hK68 _ _ ?_
                      refine CW_region rfl ?_
                      refine RL_v rfl rfl (yd_move rfl) ?_
                      refine RL_v rfl rfl (yd_shl rfl rfl rfl (by omega) ((T.first (i + 1) : Nat) : Int) ((shl1_i32 (T.first i + T.counts i) (by omega)).trans (by show _ = (((T.first i + T.counts i) * 2 : Nat) : Int); omega))) ?_
                      refine RL_v rfl rfl (yd_assign rfl) ?_
                      refine RL_nil ?_
                      refine hK66 _ _ ?_
                      refine CW_region rfl ?_
                      refine RL_v rfl rfl (yd_add64 rfl rfl rfl (by omega)) ?_
                      refine RL_v rfl rfl (yd_move rfl) ?_
                      refine RL_nil ?_
                      refine hK63 _ _ ?_
                      have hC2 : HC X3 hh T (i + 1) := by
                        rw [he545, he529, he513]
                        exact hC.succ hi16 (fun h => (hz h).elim) (fun _ => ⟨rfl, by omega, rfl⟩)
                      exact ⟨16 - (i + 1), by omega, i + 1, X3, ⟨rfl, rfl, rfl, rfl, rfl, rfl, rfl, trivial⟩, by omega, ⟨hs, hW, hN, hV, hL⟩, hC2, hF, rfl⟩
                  · refine RL_v rfl rfl (yd_lt false rfl rfl rfl (decide_eq_false (by omega))) ?_
                    refine RL_nil ?_
                    refine hK64 _ _ ?_
                    refine CW_seq fun K76 hK76 => ?_
                    refine CW_f rfl ?_
                    refine CW_exit rfl ?_
                    refine hK3 _ _ ?_
                    obtain rfl : i = 16 := by omega
                    exact ⟨_, by omega, rest', updM M1 tc th T, X, _, _, ⟨rfl, rfl, trivial⟩, hdr, by omega, hs, hW.ok, hM.upd htc hth (hhe ▸ hW) (hhe ▸ HufX.mk'' hg.ok hN hL hV hC), hF, rfl⟩
    · refine RL_v rfl rfl (yd_gt false rfl rfl rfl (decide_eq_false (by omega))) ?_
      refine RL_nil ?_
      refine hK5 _ _ ?_
      refine CW_f rfl ?_
      refine CW_exit rfl ?_
      refine hK2 _ _ ?_
      refine CW_seq fun K77 hK77 => ?_
      refine CW_region rfl ?_
      refine RL_v rfl rfl (yd_assign rfl) ?_
      refine RL_nil ?_
      refine hK77 _ _ ?_
      refine CW_ret ?_
      refine hK _ _ ?_
      obtain ⟨hre, hMe⟩ := hdht.inv0 hp
      subst hre hMe
      exact ⟨rfl, ⟨_, _, X0, hs, hX, hM⟩, hF⟩

end Go.Proofs.YtdjilplpbaackaaDoor.Eng
