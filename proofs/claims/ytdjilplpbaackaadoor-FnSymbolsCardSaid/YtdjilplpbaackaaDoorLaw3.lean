/- laws.FnSymbols. -/
import Derived.Test.YtdjilplpbaackaaDoorSSymbols
set_option linter.unusedVariables false
set_option linter.unusedSimpArgs false
set_option maxRecDepth 100000
namespace Go.Proofs.YtdjilplpbaackaaDoor.Eng
open Go

theorem Dht.ok {xs : List Nat} {M M' : TabM} (h : Dht xs M M') {tc th : Nat} {T : Tab} (hM : M' tc th = some T) (h0 : ∀ a b T', M a b = some T' → ∀ s ∈ T'.syms, s < 256) : True ∧ ∀ s ∈ T.syms, s < 256 := by
  induction h with
  | nil M => exact ⟨trivial, h0 _ _ _ hM⟩
  | cons hg hr ih =>
    refine ih hM fun a b T' hT => ?_
    unfold updM at hT
    split at hT
    · cases hT; exact hg.ok.by_
    · exact h0 a b T' hT
theorem specSymbols_ok' {sa sb : Option Addr} {ca cb n : Nat} {a b : Int} {xs ys : List Nat} {w0 : World} (hSa : SrcH w0.heap sa xs) (hSb : SrcH w0.heap sb ys) (hla : xs.length ≤ 2147483647) (hlb : ys.length ≤ 4611686018427387904) (hca : xs.length ≤ ca)
    (hx256 : ∀ x ∈ xs, x < 256) (hy : ∀ y ∈ ys, y < 256) (hn : n ≤ 2147483648) :
    Calls Tryd.prog 5 #[.slice sa xs.length ca, .int .i64 a, .int .i64 b, .slice sb ys.length cb, .int .i64 (n : Nat)] w0 fun e w' => Fr NO w0 w' ∧ ∃ (v : Value) (c ok : Bool), e = .returned (.tuple #[v, .bool c, .bool ok]) ∧ (ok = true →
      ∃ (tc th : Nat) (T : Tab) (M' : TabM), a = (tc : Int) ∧ b = (th : Int) ∧ tc ≤ 1 ∧ th ≤ 3 ∧ Dht xs N0 M' ∧ M' tc th = some T ∧ c = (decN T n (bitsOf ys)).2 ∧ Own w' w0.heap.size 5 v ((decN T n (bitsOf ys)).1.map u8v)) :=
  (specSymbols_ok (cb := cb) hSa hSb hla hlb hca hx256 hy hn).mono fun e w' ⟨hF, h⟩ => ⟨hF, by
    rcases h with ⟨v, he⟩ | ⟨v, tc, th, T, M', h1, h2, h3, h4, h5, h6, h7, h8⟩
    · exact ⟨v, false, false, he, fun h => by cases h⟩
    · exact ⟨v, _, true, h7, fun _ => ⟨tc, th, T, M', h1, h2, h3, h4, h5, h6, rfl, h8⟩⟩⟩
set_option maxHeartbeats 4000000 in
theorem law3 {sa sb : Option Addr} {ca cb : Nat} {a b nn : Int} {xs ys : List Nat} {e1 e2 : Addr} {w0 : World} (hSa : SrcH w0.heap sa xs) (hSb : SrcH w0.heap sb ys) (hca : xs.length ≤ ca) (hcb : ys.length ≤ cb) (hx256 : ∀ x ∈ xs, x < 256) (hy : ∀ y ∈ ys, y < 256)
    (hG : GlobP w0.heap e1 e2) (h2 : 2 < w0.heap.size) (hg : w0.cell? ⟨0, 0, none⟩ = some (rty 65)) :
    Calls Tryd.prog 3 #[.slice sa xs.length ca, .int .i64 a, .int .i64 b, .slice sb ys.length cb, .int .i64 nn] w0 fun e w' => e = .returned (.bool true) ∧ Fr NO w0 w' := by
  have hF := Fr.refl NO w0
  refine calls1 Tryd.func3 rfl rfl rfl rfl (Nat.le_of_ble_eq_true rfl) fun K hK => ?_
  refine CW_seq fun K1 hK1 => ?_
  refine CW_region rfl ?_
  refine RL_v rfl rfl (yd_assign rfl) ?_
  refine RL_nil ?_
  refine hK1 _ _ ?_
  refine CW_seq fun K2 hK2 => ?_
  refine CW_seq fun K3 hK3 => ?_
  refine CW_region rfl ?_
  refine RL_v rfl rfl (yd_move rfl) ?_
  refine RL_v rfl rfl (yd_len rfl sl_22 rfl) ?_
  by_cases h1 : (2147483647 : Int) < (xs.length : Int)
  · refine RL_v rfl rfl (yd_gt true rfl rfl rfl (decide_eq_true (by omega))) ?_
    refine RL_v rfl rfl (yd_move rfl) ?_
    refine RL_skip rfl rfl ?_
    refine RL_skip rfl rfl ?_
    refine RL_skip rfl rfl ?_
    refine RL_v rfl rfl (yd_pick rfl rfl) ?_
    refine RL_nil ?_
    refine hK3 _ _ ?_
    refine CW_t rfl ?_
    refine CW_seq fun K4 hK4 => ?_
    refine CW_region rfl ?_
    refine RL_v rfl rfl (yd_assign rfl) ?_
    refine RL_nil ?_
    refine hK4 _ _ ?_
    refine CW_ret ?_
    refine hK _ _ ?_
    exact ⟨rfl, hF⟩
  · refine RL_v rfl rfl (yd_gt false rfl rfl rfl (decide_eq_false (by omega))) ?_
    refine RL_v rfl rfl (yd_move rfl) ?_
    refine RL_gv rfl rfl (yd_move rfl) ?_
    refine RL_gv rfl rfl (yd_len rfl sl_22 rfl) ?_
    by_cases h2' : (2147483647 : Int) < (ys.length : Int)
    · refine RL_gv rfl rfl (yd_gt true rfl rfl rfl (decide_eq_true (by omega))) ?_
      refine RL_v rfl rfl (yd_pick rfl rfl) ?_
      refine RL_nil ?_
      refine hK3 _ _ ?_
      refine CW_t rfl ?_
      refine CW_seq fun K5 hK5 => ?_
      refine CW_region rfl ?_
      refine RL_v rfl rfl (yd_assign rfl) ?_
      refine RL_nil ?_
      refine hK5 _ _ ?_
      refine CW_ret ?_
      refine hK _ _ ?_
      exact ⟨rfl, hF⟩
    · refine RL_gv rfl rfl (yd_gt false rfl rfl rfl (decide_eq_false (by omega))) ?_
      refine RL_v rfl rfl (yd_pick rfl rfl) ?_
      refine RL_nil ?_
      refine hK3 _ _ ?_
      refine CW_f rfl ?_
      refine CW_skip ?_
      refine hK2 _ _ ?_
      refine CW_seq fun K6 hK6 => ?_
      refine CW_seq fun K7 hK7 => ?_
      refine CW_region rfl ?_
      refine RL_v rfl rfl (yd_move rfl) ?_
      by_cases h3 : nn < 1
      · refine RL_v rfl rfl (yd_lt true rfl rfl rfl (decide_eq_true (by omega))) ?_
        refine RL_v rfl rfl (yd_move rfl) ?_
        refine RL_skip rfl rfl ?_
        refine RL_skip rfl rfl ?_
        refine RL_v rfl rfl (yd_pick rfl rfl) ?_
        refine RL_nil ?_
        refine hK7 _ _ ?_
        refine CW_t rfl ?_
        refine CW_seq fun K8 hK8 => ?_
        refine CW_region rfl ?_
        refine RL_v rfl rfl (yd_assign rfl) ?_
        refine RL_nil ?_
        refine hK8 _ _ ?_
        refine CW_ret ?_
        refine hK _ _ ?_
        exact ⟨rfl, hF⟩
      · refine RL_v rfl rfl (yd_lt false rfl rfl rfl (decide_eq_false (by omega))) ?_
        refine RL_v rfl rfl (yd_move rfl) ?_
        refine RL_gv rfl rfl (yd_move rfl) ?_
        by_cases h4 : 65536 < nn
        · refine RL_gv rfl rfl (yd_gt true rfl rfl rfl (decide_eq_true (by omega))) ?_
          refine RL_v rfl rfl (yd_pick rfl rfl) ?_
          refine RL_nil ?_
          refine hK7 _ _ ?_
          refine CW_t rfl ?_
          refine CW_seq fun K9 hK9 => ?_
          refine CW_region rfl ?_
          refine RL_v rfl rfl (yd_assign rfl) ?_
          refine RL_nil ?_
          refine hK9 _ _ ?_
          refine CW_ret ?_
          refine hK _ _ ?_
          exact ⟨rfl, hF⟩
        · refine RL_gv rfl rfl (yd_gt false rfl rfl rfl (decide_eq_false (by omega))) ?_
          refine RL_v rfl rfl (yd_pick rfl rfl) ?_
          refine RL_nil ?_
          refine hK7 _ _ ?_
          refine CW_f rfl ?_
          refine CW_skip ?_
          refine hK6 _ _ ?_
          refine CW_seq fun K10 hK10 => ?_
          refine CW_region rfl ?_
          obtain ⟨n, rfl⟩ : ∃ n : Nat, nn = (n : Int) := ⟨nn.toNat, by omega⟩
          refine RL_v rfl rfl (yd_move rfl) ?_
          refine RL_v rfl rfl (yd_move rfl) ?_
          refine RL_v rfl rfl (yd_move rfl) ?_
          refine RL_v rfl rfl (yd_move rfl) ?_
          refine RL_v rfl rfl (yd_move rfl) ?_
          refine RL_call rfl rfl rfl en_5 rfl (specSymbols_ok' hSa hSb (by omega) (by omega) hca hx256 hy (by omega)) ?_
          rintro _ w1 ⟨hF1, v, cc, ok, rfl, hok⟩
          refine ⟨_, rfl, ?_⟩
          have hF := hF1
          cases ok
          · refine RL_v rfl rfl (yd_move rfl) ?_
            refine RL_v rfl rfl (yd_extract rfl rfl rfl) ?_
            refine RL_v rfl rfl (yd_extract rfl rfl rfl) ?_
            refine RL_v rfl rfl (yd_extract rfl rfl rfl) ?_
            refine RL_v rfl rfl (yd_assign rfl) ?_
            refine RL_v rfl rfl (yd_assign rfl) ?_
            refine RL_v rfl rfl (yd_assign rfl) ?_
            refine RL_nil ?_
            refine hK10 _ _ ?_
            refine CW_seq fun K11 hK11 => ?_
            refine CW_seq fun K12 hK12 => ?_
            refine CW_region rfl ?_
            refine RL_v rfl rfl (yd_move rfl) ?_
            refine RL_v rfl rfl (yd_not rfl rfl) ?_
            refine RL_nil ?_
            refine hK12 _ _ ?_
            refine CW_t rfl ?_
            refine CW_seq fun K13 hK13 => ?_
            refine CW_region rfl ?_
            refine RL_v rfl rfl (yd_assign rfl) ?_
            refine RL_nil ?_
            refine hK13 _ _ ?_
            refine CW_ret ?_
            refine hK _ _ ?_
            exact ⟨rfl, hF⟩
          · obtain ⟨tc, th, T, M', rfl, rfl, htc, hth, hd, hM, rfl, hownS⟩ := hok rfl
            have hbT : ∀ s ∈ (decN T n (bitsOf ys)).1, s < 256 := by
              obtain ⟨hd0, hT⟩ := hd.ok hM (fun _ _ _ h => by cases h)
              exact decN_byte hT n _
            refine RL_v rfl rfl (yd_move rfl) ?_
            refine RL_v rfl rfl (yd_extract rfl rfl rfl) ?_
            refine RL_v rfl rfl (yd_extract rfl rfl rfl) ?_
            refine RL_v rfl rfl (yd_extract rfl rfl rfl) ?_
            refine RL_v rfl rfl (yd_assign rfl) ?_
            refine RL_v rfl rfl (yd_assign rfl) ?_
            refine RL_v rfl rfl (yd_assign rfl) ?_
            refine RL_nil ?_
            refine hK10 _ _ ?_
            refine CW_seq fun K14 hK14 => ?_
            refine CW_seq fun K15 hK15 => ?_
            refine CW_region rfl ?_
            refine RL_v rfl rfl (yd_move rfl) ?_
            refine RL_v rfl rfl (yd_not rfl rfl) ?_
            refine RL_nil ?_
            refine hK15 _ _ ?_
            refine CW_f rfl ?_
            refine CW_skip ?_
            refine hK14 _ _ ?_
            refine CW_seq fun K16 hK16 => ?_
            refine CW_region rfl ?_
            refine RL_v rfl rfl (yd_move rfl) ?_
            refine RL_v rfl rfl (yd_move rfl) ?_
            refine RL_v rfl rfl (yd_move rfl) ?_
            refine RL_v rfl rfl (yd_move rfl) ?_
            refine RL_v rfl rfl (yd_move rfl) ?_
            refine RL_call rfl rfl rfl en_6 rfl (symbols_ok hd hM htc hth (hSa.fr hF1) (hSb.fr hF1) (by omega) (by omega) hca hcb hy (by omega) (hG.no hF1) (Nat.lt_of_lt_of_le h2 hF1.size) ((cell_keep (hF1.block 0 (cell_lt hg) id)).trans hg)) ?_
            rintro _ w2 ⟨v2, c, rfl, hownI, hcc, hF2⟩
            refine ⟨_, rfl, ?_⟩
            replace hownS := hownS.fr hF2 (fun _ _ h => h)
            replace hF := hF1.trans hF2
            refine RL_v rfl rfl (yd_move rfl) ?_
            refine RL_v rfl rfl (yd_extract rfl rfl rfl) ?_
            refine RL_v rfl rfl (yd_extract rfl rfl rfl) ?_
            refine RL_v rfl rfl (yd_assign rfl) ?_
            refine RL_v rfl rfl (yd_assign rfl) ?_
            refine RL_nil ?_
            refine hK16 _ _ ?_
            refine CW_seq fun K17 hK17 => ?_
            refine CW_region rfl ?_
            refine RL_v rfl rfl (yd_move rfl) ?_
            refine RL_v rfl rfl (yd_strO rfl hownI rfl hbT) ?_
            refine RL_v rfl rfl (yd_move rfl) ?_
            refine RL_v rfl rfl (yd_strO rfl hownS rfl hbT) ?_
            refine RL_v rfl rfl (yd_eqs (r := true) rfl rfl rfl hbT hbT (decide_eq_true rfl)) ?_
            refine RL_v rfl rfl (yd_move rfl) ?_
            refine RL_gv rfl rfl (yd_move rfl) ?_
            by_cases hc0 : c = 0
            · refine RL_gv rfl rfl (yd_eq true rfl rfl rfl (decide_eq_true (by omega))) ?_
              refine RL_gv rfl rfl (yd_move rfl) ?_
              refine RL_gv rfl rfl (yd_eqb (r := true) rfl Tryd.underlying4 rfl rfl (by rw [hcc.1 hc0]; rfl)) ?_
              refine RL_v rfl rfl (yd_pick rfl rfl) ?_
              refine RL_v rfl rfl (yd_move rfl) ?_
              refine RL_gcall rfl rfl rfl en_7 rfl (reads_ok (hG.no hF) (Nat.lt_of_lt_of_le h2 hF.size) ((cell_keep (hF.block 0 (cell_lt hg) id)).trans hg)) ?_
              rintro _ w3 ⟨rfl, hF3⟩
              refine ⟨_, rfl, ?_⟩
              replace hF := hF.trans hF3
              refine RL_v rfl rfl (yd_pick rfl rfl) ?_
              refine RL_v rfl rfl (yd_assign rfl) ?_
              refine RL_nil ?_
              refine hK17 _ _ ?_
              refine CW_ret ?_
              refine hK _ _ ?_
              exact ⟨rfl, hF⟩
            · refine RL_gv rfl rfl (yd_eq false rfl rfl rfl (decide_eq_false (by omega))) ?_
              refine RL_gv rfl rfl (yd_move rfl) ?_
              refine RL_gv rfl rfl (yd_eqb (r := true) rfl Tryd.underlying4 rfl rfl (by cases h : (decN T n (bitsOf ys)).2 with
                | false => rfl
                | true => exact absurd (hcc.2 h) hc0)) ?_
              refine RL_v rfl rfl (yd_pick rfl rfl) ?_
              refine RL_v rfl rfl (yd_move rfl) ?_
              refine RL_gcall rfl rfl rfl en_7 rfl (reads_ok (hG.no hF) (Nat.lt_of_lt_of_le h2 hF.size) ((cell_keep (hF.block 0 (cell_lt hg) id)).trans hg)) ?_
              rintro _ w3 ⟨rfl, hF3⟩
              refine ⟨_, rfl, ?_⟩
              replace hF := hF.trans hF3
              refine RL_v rfl rfl (yd_pick rfl rfl) ?_
              refine RL_v rfl rfl (yd_assign rfl) ?_
              refine RL_nil ?_
              refine hK17 _ _ ?_
              refine CW_ret ?_
              refine hK _ _ ?_
              exact ⟨rfl, hF⟩

end Go.Proofs.YtdjilplpbaackaaDoor.Eng
