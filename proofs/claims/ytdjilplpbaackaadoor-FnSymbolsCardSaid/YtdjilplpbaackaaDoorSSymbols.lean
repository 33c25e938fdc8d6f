/- The oracle's Symbols. -/
import Derived.Test.YtdjilplpbaackaaDoorCodes
import Derived.OwnWalk
set_option linter.unusedVariables false
set_option linter.unusedSimpArgs false
set_option maxRecDepth 100000
namespace Go.Proofs.YtdjilplpbaackaaDoor.Eng
open Go

theorem b57 : (Tryd.prog.built 57 []).map (fun c => (Nat.ble 408 c.size, c[6]?, [c[281]?, c[299]?, c[317]?, c[335]?, c[353]?, c[371]?, c[389]?, c[407]?])) = some (true, some (.int .i64 0), [some (.slice none 0 0), some (.slice none 0 0), some (.slice none 0 0), some (.slice none 0 0), some (.slice none 0 0), some (.slice none 0 0), some (.slice none 0 0), some (.slice none 0 0)]) := by kernel_rfl
theorem spec_init : ∃ cells, Tryd.prog.built 57 [] = some cells ∧ 408 ≤ cells.size ∧ cells[6]? = some (.int .i64 0) ∧ ∀ tc th, tc ≤ 1 → th ≤ 3 → cells[264 + tc * 72 + th * 18 + 17]? = some (.slice none 0 0) := by
  have h := b57
  cases hb : Tryd.prog.built 57 [] with
  | none => rw [hb] at h; cases h
  | some cells =>
    rw [hb] at h
    simp only [Option.map_some, Option.some.injEq, Prod.mk.injEq, List.cons.injEq, and_true] at h
    obtain ⟨h1, h2, k0, k1, k2, k3, k4, k5, k6, k7⟩ := h
    refine ⟨cells, rfl, Nat.le_of_ble_eq_true h1, h2, fun tc th a b => ?_⟩
    have hc : tc = 0 ∨ tc = 1 := by omega
    have hd : th = 0 ∨ th = 1 ∨ th = 2 ∨ th = 3 := by omega
    rcases hc with rfl | rfl <;> rcases hd with rfl | rfl | rfl | rfl <;> assumption
theorem b61 {sb : Option Addr} {n cap : Nat} : Tryd.prog.built 61 [(0, .slice sb n cap)] = some #[.slice sb n cap, .int .i64 0, .int .i64 0, .bool false] := by kernel_rfl
theorem calls3 {P : Program} {f : FuncId} {fn : Func} {c : Code} {w : World} {R : Ending → World → Prop} {t u x N : Nat} {args : List Value} {vs : Array Value} (hf : P.funcs[f]? = some fn) (hb : fn.body = some c) (hN : fn.ntmps = N) (hres : fn.results = #[.tmp t, .tmp u, .tmp x]) (hvs : vs = args.toArray) (hle : args.length ≤ N)
    (h : ∀ K : Kont, (∀ σ w, R (.returned (.tuple #[σ t, σ u, σ x])) w → K σ w) → CW P N c K K [] [] (fun t => args.getD t undef) w) : Calls P f vs w R := by
  subst hvs
  exact calls_of_CW args.toArray hf hb hN (has_args args N hle) (fun a w σ ha hK => ⟨_, by rw [results_tmp3 hres, ha.get, ha.get, ha.get], hK⟩)
    (h (fun σ w => R (.returned (.tuple #[σ t, σ u, σ x])) w) (fun _ _ h => h))
theorem BitP.step {w w' : World} {B B0 : Nat} {ys : List Nat} {bs : List Bool} (h : BitP w.heap B ys bs) (hB : B < B0) (hF : Fr (fun k => B0 ≤ k) w w') : BitP w'.heap B ys bs := by
  obtain ⟨sb, cap, at', u, h1, h2, h3, h4, h5⟩ := h
  exact ⟨sb, cap, at', u, (hF.block B (blk_lt h1) (by omega)).trans h1, h2.keep (fun hx b p o e hb => hF.block b (blk_lt hb) (by have := h3 hx b p e; omega)), h3, h4, h5⟩
theorem sym_byte' {T : Tab} {bs rest : List Bool} {s : Nat} (h : ∀ s ∈ T.syms, s < 256) (e : T.sym bs = some (s, rest)) : s < 256 := sym_byte h _ _ _ _ _ _ e

set_option maxHeartbeats 6000000 in
theorem specSymbols_ok {sa sb : Option Addr} {ca cb n : Nat} {a b : Int} {xs ys : List Nat} {w0 : World} (hSa : SrcH w0.heap sa xs) (hSb : SrcH w0.heap sb ys) (hla : xs.length ≤ 2147483647) (hlb : ys.length ≤ 4611686018427387904) (hca : xs.length ≤ ca)
    (hx256 : ∀ x ∈ xs, x < 256) (hy : ∀ y ∈ ys, y < 256) (hn : n ≤ 2147483648) :
    Calls Tryd.prog 5 #[.slice sa xs.length ca, .int .i64 a, .int .i64 b, .slice sb ys.length cb, .int .i64 (n : Nat)] w0 fun e w' => Fr NO w0 w' ∧ ((∃ v, e = .returned (.tuple #[v, .bool false, .bool false])) ∨
      ∃ (v : Value) (tc th : Nat) (T : Tab) (M' : TabM), a = (tc : Int) ∧ b = (th : Int) ∧ tc ≤ 1 ∧ th ≤ 3 ∧ Dht xs N0 M' ∧ M' tc th = some T ∧ e = .returned (.tuple #[v, .bool (decN T n (bitsOf ys)).2, .bool true]) ∧ Own w' w0.heap.size 5 v ((decN T n (bitsOf ys)).1.map u8v)) := by
  refine calls3 Tryd.func5 rfl rfl rfl rfl (Nat.le_of_ble_eq_true rfl) fun K hK => ?_
  refine CW_seq fun K1 hK1 => ?_
  refine CW_region rfl ?_
  refine RL_v rfl rfl (yd_assign rfl) ?_
  refine RL_v rfl rfl (yd_assign rfl) ?_
  refine RL_v rfl rfl (yd_assign rfl) ?_
  refine RL_nil ?_
  refine hK1 _ _ ?_
  refine CW_seq fun K2 hK2 => ?_
  refine CW_region rfl ?_
  obtain ⟨cells, hbuilt, hc1, hc2, hc3⟩ := spec_init
  refine RL_v rfl rfl (yd_build rfl rfl hbuilt) ?_
  obtain ⟨E, hEe⟩ : ∃ E, E = w0.heap.size := ⟨_, rfl⟩
  refine RL_box (fun w' => EP w'.heap E w'.heap.size N0 ∧ E < w'.heap.size ∧ Fr NO w0 w') rfl rfl rfl rfl ⟨⟨cells, by rw [hEe]; exact alloc_get, hc1, hc2, by rw [alloc_size]; omega, fun tc th a b => hc3 tc th a b⟩, by rw [alloc_size]; omega, (Fr.refl _ _).alloc _⟩ ?_
  rintro w ⟨hEP, hEl, hF⟩
  rw [← hEe]
  refine RL_v rfl rfl (yd_assign rfl) ?_
  refine RL_nil ?_
  refine hK2 _ _ ?_
  refine CW_cut (fun σ w => ∃ (tc th : Nat) (M' : TabM) (L' : Nat), a = (tc : Int) ∧ b = (th : Int) ∧ tc ≤ 1 ∧ th ≤ 3 ∧ Dht xs N0 M' ∧ EP w.heap E L' M' ∧ L' ≤ w.heap.size ∧ M' tc th ≠ none ∧ Fr NO w0 w ∧ AtS σ [(1, .int .i64 a), (2, .int .i64 b), (3, .slice sb ys.length cb), (4, .int .i64 (n : Nat)), (10, .slice none 0 0), (11, .bool false), (12, .bool false), (13, .pointer (some ⟨E, 0, none⟩))]) ?_ ?_
  · refine CW_seq fun K3 hK3 => ?_
    refine CW_region rfl ?_
    refine RL_v rfl rfl (yd_move rfl) ?_
    by_cases ha0 : a < 0
    · refine RL_v rfl rfl (yd_lt true rfl rfl rfl (decide_eq_true (by omega))) ?_
      refine RL_v rfl rfl (yd_move rfl) ?_
      refine RL_skip rfl rfl ?_
      refine RL_skip rfl rfl ?_
      refine RL_v rfl rfl (yd_pick rfl rfl) ?_
      refine RL_v rfl rfl (yd_move rfl) ?_
      refine RL_skip rfl rfl ?_
      refine RL_skip rfl rfl ?_
      refine RL_v rfl rfl (yd_pick rfl rfl) ?_
      refine RL_v rfl rfl (yd_move rfl) ?_
      refine RL_skip rfl rfl ?_
      refine RL_skip rfl rfl ?_
      refine RL_v rfl rfl (yd_pick rfl rfl) ?_
      refine RL_v rfl rfl (yd_move rfl) ?_
      refine RL_skip rfl rfl ?_
      refine RL_skip rfl rfl ?_
      refine RL_skip rfl rfl ?_
      refine RL_skip rfl rfl ?_
      refine RL_v rfl rfl (yd_pick rfl rfl) ?_
      refine RL_v rfl rfl (yd_move rfl) ?_
      refine RL_skip rfl rfl ?_
      refine RL_skip rfl rfl ?_
      refine RL_skip rfl rfl ?_
      refine RL_skip rfl rfl ?_
      refine RL_skip rfl rfl ?_
      refine RL_skip rfl rfl ?_
      refine RL_skip rfl rfl ?_
      refine RL_skip rfl rfl ?_
      refine RL_skip rfl rfl ?_
      refine RL_skip rfl rfl ?_
      refine RL_skip rfl rfl ?_
      refine RL_v rfl rfl (yd_pick rfl rfl) ?_
      refine RL_nil ?_
      refine hK3 _ _ ?_
      refine CW_t rfl ?_
      refine CW_seq fun K4 hK4 => ?_
      refine CW_region rfl ?_
      refine RL_v rfl rfl (yd_assign rfl) ?_
      refine RL_v rfl rfl (yd_assign rfl) ?_
      refine RL_v rfl rfl (yd_assign rfl) ?_
      refine RL_nil ?_
      refine hK4 _ _ ?_
      refine CW_ret ?_
      refine hK _ _ ?_
      exact ⟨hF, .inl ⟨_, rfl⟩⟩
    · refine RL_v rfl rfl (yd_lt false rfl rfl rfl (decide_eq_false (by omega))) ?_
      refine RL_v rfl rfl (yd_move rfl) ?_
      refine RL_gv rfl rfl (yd_move rfl) ?_
      by_cases ha1 : 1 < a
      · refine RL_gv rfl rfl (yd_gt true rfl rfl rfl (decide_eq_true (by omega))) ?_
        refine RL_v rfl rfl (yd_pick rfl rfl) ?_
        refine RL_v rfl rfl (yd_move rfl) ?_
        refine RL_skip rfl rfl ?_
        refine RL_skip rfl rfl ?_
        refine RL_v rfl rfl (yd_pick rfl rfl) ?_
        refine RL_v rfl rfl (yd_move rfl) ?_
        refine RL_skip rfl rfl ?_
        refine RL_skip rfl rfl ?_
        refine RL_v rfl rfl (yd_pick rfl rfl) ?_
        refine RL_v rfl rfl (yd_move rfl) ?_
        refine RL_skip rfl rfl ?_
        refine RL_skip rfl rfl ?_
        refine RL_skip rfl rfl ?_
        refine RL_skip rfl rfl ?_
        refine RL_v rfl rfl (yd_pick rfl rfl) ?_
        refine RL_v rfl rfl (yd_move rfl) ?_
        refine RL_skip rfl rfl ?_
        refine RL_skip rfl rfl ?_
        refine RL_skip rfl rfl ?_
        refine RL_skip rfl rfl ?_
        refine RL_skip rfl rfl ?_
        refine RL_skip rfl rfl ?_
        refine RL_skip rfl rfl ?_
        refine RL_skip rfl rfl ?_
        refine RL_skip rfl rfl ?_
        refine RL_skip rfl rfl ?_
        refine RL_skip rfl rfl ?_
        refine RL_v rfl rfl (yd_pick rfl rfl) ?_
        refine RL_nil ?_
        refine hK3 _ _ ?_
        refine CW_t rfl ?_
        refine CW_seq fun K5 hK5 => ?_
        refine CW_region rfl ?_
        refine RL_v rfl rfl (yd_assign rfl) ?_
        refine RL_v rfl rfl (yd_assign rfl) ?_
        refine RL_v rfl rfl (yd_assign rfl) ?_
        refine RL_nil ?_
        refine hK5 _ _ ?_
        refine CW_ret ?_
        refine hK _ _ ?_
        exact ⟨hF, .inl ⟨_, rfl⟩⟩
      · refine RL_gv rfl rfl (yd_gt false rfl rfl rfl (decide_eq_false (by omega))) ?_
        refine RL_v rfl rfl (yd_pick rfl rfl) ?_
        refine RL_v rfl rfl (yd_move rfl) ?_
        refine RL_gv rfl rfl (yd_move rfl) ?_
        by_cases hb0 : b < 0
        · refine RL_gv rfl rfl (yd_lt true rfl rfl rfl (decide_eq_true (by omega))) ?_
          refine RL_v rfl rfl (yd_pick rfl rfl) ?_
          refine RL_v rfl rfl (yd_move rfl) ?_
          refine RL_skip rfl rfl ?_
          refine RL_skip rfl rfl ?_
          refine RL_v rfl rfl (yd_pick rfl rfl) ?_
          refine RL_v rfl rfl (yd_move rfl) ?_
          refine RL_skip rfl rfl ?_
          refine RL_skip rfl rfl ?_
          refine RL_skip rfl rfl ?_
          refine RL_skip rfl rfl ?_
          refine RL_v rfl rfl (yd_pick rfl rfl) ?_
          refine RL_v rfl rfl (yd_move rfl) ?_
          refine RL_skip rfl rfl ?_
          refine RL_skip rfl rfl ?_
          refine RL_skip rfl rfl ?_
          refine RL_skip rfl rfl ?_
          refine RL_skip rfl rfl ?_
          refine RL_skip rfl rfl ?_
          refine RL_skip rfl rfl ?_
          refine RL_skip rfl rfl ?_
          refine RL_skip rfl rfl ?_
          refine RL_skip rfl rfl ?_
          refine RL_skip rfl rfl ?_
          refine RL_v rfl rfl (yd_pick rfl rfl) ?_
          refine RL_nil ?_
          refine hK3 _ _ ?_
          refine CW_t rfl ?_
          refine CW_seq fun K6 hK6 => ?_
          refine CW_region rfl ?_
          refine RL_v rfl rfl (yd_assign rfl) ?_
          refine RL_v rfl rfl (yd_assign rfl) ?_
          refine RL_v rfl rfl (yd_assign rfl) ?_
          refine RL_nil ?_
          refine hK6 _ _ ?_
          refine CW_ret ?_
          refine hK _ _ ?_
          exact ⟨hF, .inl ⟨_, rfl⟩⟩
        · refine RL_gv rfl rfl (yd_lt false rfl rfl rfl (decide_eq_false (by omega))) ?_
          refine RL_v rfl rfl (yd_pick rfl rfl) ?_
          refine RL_v rfl rfl (yd_move rfl) ?_
          refine RL_gv rfl rfl (yd_move rfl) ?_
          by_cases hb3 : 3 < b
          · refine RL_gv rfl rfl (yd_gt true rfl rfl rfl (decide_eq_true (by omega))) ?_
            refine RL_v rfl rfl (yd_pick rfl rfl) ?_
            refine RL_v rfl rfl (yd_move rfl) ?_
            refine RL_skip rfl rfl ?_
            refine RL_skip rfl rfl ?_
            refine RL_skip rfl rfl ?_
            refine RL_skip rfl rfl ?_
            refine RL_v rfl rfl (yd_pick rfl rfl) ?_
            refine RL_v rfl rfl (yd_move rfl) ?_
            refine RL_skip rfl rfl ?_
            refine RL_skip rfl rfl ?_
            refine RL_skip rfl rfl ?_
            refine RL_skip rfl rfl ?_
            refine RL_skip rfl rfl ?_
            refine RL_skip rfl rfl ?_
            refine RL_skip rfl rfl ?_
            refine RL_skip rfl rfl ?_
            refine RL_skip rfl rfl ?_
            refine RL_skip rfl rfl ?_
            refine RL_skip rfl rfl ?_
            refine RL_v rfl rfl (yd_pick rfl rfl) ?_
            refine RL_nil ?_
            refine hK3 _ _ ?_
            refine CW_t rfl ?_
            refine CW_seq fun K7 hK7 => ?_
            refine CW_region rfl ?_
            refine RL_v rfl rfl (yd_assign rfl) ?_
            refine RL_v rfl rfl (yd_assign rfl) ?_
            refine RL_v rfl rfl (yd_assign rfl) ?_
            refine RL_nil ?_
            refine hK7 _ _ ?_
            refine CW_ret ?_
            refine hK _ _ ?_
            exact ⟨hF, .inl ⟨_, rfl⟩⟩
          · refine RL_gv rfl rfl (yd_gt false rfl rfl rfl (decide_eq_false (by omega))) ?_
            refine RL_v rfl rfl (yd_pick rfl rfl) ?_
            refine RL_v rfl rfl (yd_move rfl) ?_
            obtain ⟨tc, rfl⟩ : ∃ tc : Nat, a = (tc : Int) := ⟨a.toNat, by omega⟩
            obtain ⟨th, rfl⟩ : ∃ th : Nat, b = (th : Int) := ⟨b.toNat, by omega⟩
            refine RL_gv rfl rfl (yd_move rfl) ?_
            refine RL_gv rfl rfl (yd_move rfl) ?_
            refine RL_gcall rfl rfl rfl en_12 rfl (codes_ok hca (hSa.fr hF) (fun hx b p e => by have := hSa.lt hx e; omega) hx256 hla hEP (Nat.le_refl _)) ?_
            rintro _ w1 ⟨ok, rfl, hok, hF2⟩
            refine ⟨_, rfl, ?_⟩
            replace hF := hF.up hF2 (fun k h => by subst h; omega)
            cases ok
            · refine RL_gv rfl rfl (yd_not rfl rfl) ?_
              refine RL_v rfl rfl (yd_pick rfl rfl) ?_
              refine RL_v rfl rfl (yd_move rfl) ?_
              refine RL_skip rfl rfl ?_
              refine RL_skip rfl rfl ?_
              refine RL_skip rfl rfl ?_
              refine RL_skip rfl rfl ?_
              refine RL_skip rfl rfl ?_
              refine RL_skip rfl rfl ?_
              refine RL_skip rfl rfl ?_
              refine RL_skip rfl rfl ?_
              refine RL_skip rfl rfl ?_
              refine RL_skip rfl rfl ?_
              refine RL_skip rfl rfl ?_
              refine RL_v rfl rfl (yd_pick rfl rfl) ?_
              refine RL_nil ?_
              refine hK3 _ _ ?_
              refine CW_t rfl ?_
              refine CW_seq fun K8 hK8 => ?_
              refine CW_region rfl ?_
              refine RL_v rfl rfl (yd_assign rfl) ?_
              refine RL_v rfl rfl (yd_assign rfl) ?_
              refine RL_v rfl rfl (yd_assign rfl) ?_
              refine RL_nil ?_
              refine hK8 _ _ ?_
              refine CW_ret ?_
              refine hK _ _ ?_
              exact ⟨hF, .inl ⟨_, rfl⟩⟩
            · obtain ⟨M', L', hd, hEP1, hL1⟩ := hok rfl
              obtain ⟨la, ln, lc, hl47, hln⟩ := hEP1.len (tc := tc) (th := th) (by omega) (by omega)
              refine RL_gv rfl rfl (yd_not rfl rfl) ?_
              refine RL_v rfl rfl (yd_pick rfl rfl) ?_
              refine RL_v rfl rfl (yd_move rfl) ?_
              refine RL_gv rfl rfl (yd_move rfl) ?_
              refine RL_gv rfl rfl (yd_move rfl) ?_
              refine RL_gv rfl rfl (yd_move rfl) ?_
              refine RL_gv rfl rfl (yd_nil rfl rfl) ?_
              refine RL_gv rfl rfl (yd_field rfl ft_57_4 rfl) ?_
              refine RL_gv rfl rfl (yd_ix rfl at_54 rfl rfl (tc) (rfl) (by omega)) ?_
              refine RL_gv rfl rfl (yd_ix rfl at_53 rfl rfl (th) (rfl) (by omega)) ?_
              refine RL_gv rfl rfl (yd_field rfl ft_52_1 rfl) ?_
              refine RL_gv rfl rfl (yd_load rfl sc_29 rfl (cellOf_cell hl47)) ?_
              refine RL_gv rfl rfl (yd_len rfl sl_29 rfl) ?_
              by_cases hn0 : ln = 0
              · refine RL_gv rfl rfl (yd_eq true rfl rfl rfl (decide_eq_true (by omega))) ?_
                refine RL_v rfl rfl (yd_pick rfl rfl) ?_
                refine RL_nil ?_
                refine hK3 _ _ ?_
                refine CW_t rfl ?_
                refine CW_seq fun K9 hK9 => ?_
                refine CW_region rfl ?_
                refine RL_v rfl rfl (yd_assign rfl) ?_
                refine RL_v rfl rfl (yd_assign rfl) ?_
                refine RL_v rfl rfl (yd_assign rfl) ?_
                refine RL_nil ?_
                refine hK9 _ _ ?_
                refine CW_ret ?_
                refine hK _ _ ?_
                exact ⟨hF, .inl ⟨_, rfl⟩⟩
              · refine RL_gv rfl rfl (yd_eq false rfl rfl rfl (decide_eq_false (by omega))) ?_
                refine RL_v rfl rfl (yd_pick rfl rfl) ?_
                refine RL_nil ?_
                refine hK3 _ _ ?_
                refine CW_f rfl ?_
                refine CW_skip ?_
                exact ⟨tc, th, M', L', rfl, rfl, by omega, by omega, hd, hEP1, hL1, fun h => hn0 (hln.2 h), hF, ⟨rfl, rfl, rfl, rfl, rfl, rfl, rfl, rfl, trivial⟩⟩
  · rintro σ w1 ⟨tc, th, M', L', rfl, rfl, htc1, hth1, hd, hEP1, hL1, hM0, hF, hσ⟩
    refine CW_at hσ ?_
    obtain ⟨B, hBe⟩ : ∃ B, B = w1.heap.size := ⟨_, rfl⟩
    refine CW_seq fun K10 hK10 => ?_
    refine CW_region rfl ?_
    refine RL_v rfl rfl (yd_move rfl) ?_
    refine RL_v rfl rfl (yd_build (vs := [(0, .slice sb ys.length cb)]) rfl rfl (b61 (sb := sb) (n := ys.length) (cap := cb))) ?_
    obtain ⟨T, hM⟩ : ∃ T, M' tc th = some T := Option.ne_none_iff_exists'.1 hM0
    have hT1 := (hEP1.keep hL1 (fun _ _ => rfl)).get (by omega) (by omega) hM
    rw [← hBe] at hT1
    have hEB := hT1.lo
    refine RL_box (fun w' => BitP w'.heap B ys (bitsOf ys) ∧ TabP w'.heap E (264 + tc * 72 + th * 18) B T ∧ B < w'.heap.size ∧ Fr NO w0 w') rfl rfl rfl rfl
      ⟨⟨sb, cb, 0, 0, by rw [hBe]; exact alloc_get, (hSb.fr hF).keep (fun _ b p o _ hb => alloc_old (blk_lt hb)), fun hx b p e => by have := (hSb.fr hF).lt hx e; omega, by decide, by rw [List.drop_zero, List.drop_zero]⟩, hT1.fr (S := NO) ((Fr.refl _ _).alloc _) (fun _ _ h => h), by rw [alloc_size]; omega, hF.alloc _⟩ ?_
    clear hF
    intro w hw0
    have hbp := hw0.1
    have hT := hw0.2.1
    have hBl := hw0.2.2.1
    have hF := hw0.2.2.2
    clear hw0
    rw [← hBe]
    have hB0w : w0.heap.size ≤ B := by omega
    have hTok := hT.ok
    refine RL_v rfl rfl (yd_assign rfl) ?_
    refine RL_nil ?_
    refine hK10 _ _ ?_
    refine CW_seq fun K11 hK11 => ?_
    refine CW_seq fun K12 hK12 => ?_
    refine CW_region rfl ?_
    refine RL_v rfl rfl (yd_move rfl) ?_
    refine RL_v rfl rfl (yd_move rfl) ?_
    refine RL_nil ?_
    refine hK12 _ _ ?_
    refine CW_block ?_
    refine CW_loop (n := n) (fun σ w N => ∃ (k : Nat) (v : Value) (out : List Nat) (bs' : List Bool), AtS σ [(1, .int .i64 ((tc : Nat) : Int)), (2, .int .i64 ((th : Nat) : Int)), (10, v), (11, .bool false), (12, .bool false), (13, .pointer (some ⟨E, 0, none⟩)), (14, .pointer (some ⟨B, 0, none⟩)), (54, .int .i64 ((n : Nat) : Int)), (55, .int .i64 ((k : Nat) : Int))] ∧ k ≤ n ∧ out.length = k ∧ Own w (B + 1) 5 v (out.map u8v) ∧ BitP w.heap B ys bs' ∧ TabP w.heap E (264 + tc * 72 + th * 18) B T ∧ decN T n (bitsOf ys) = (out ++ (decN T (n - k) bs').1, (decN T (n - k) bs').2) ∧ B + 1 ≤ w.heap.size ∧ Fr NO w0 w ∧ N = n - k) ?_ ?_
    · exact ⟨0, .slice none 0 0, [], bitsOf ys, ⟨rfl, rfl, rfl, rfl, rfl, rfl, rfl, rfl, rfl, trivial⟩, Nat.zero_le _, rfl, Own.nil _ _ _, hbp, hT, rfl, hBl, hF, rfl⟩
    · intro σ w N hI K13 hK13
      clear hF hbp hT hBl
      obtain ⟨k, v, out, bs', hσ, hkn0, hlen, hown, hbp, hT, hdec, hB4, hF, hNN⟩ := hI
      subst hNN
      refine CW_at hσ ?_
      refine CW_seq fun K14 hK14 => ?_
      refine CW_region rfl ?_
      by_cases hkn : k < n
      · refine RL_v rfl rfl (yd_lt true rfl rfl rfl (decide_eq_true (by omega))) ?_
        refine RL_nil ?_
        refine hK14 _ _ ?_
        refine CW_seq fun K15 hK15 => ?_
        refine CW_t rfl ?_
        refine CW_skip ?_
        refine hK15 _ _ ?_
        refine CW_seq fun K16 hK16 => ?_
        refine CW_block ?_
        refine CW_seq fun K17 hK17 => ?_
        refine CW_region rfl ?_
        refine RL_v rfl rfl (yd_move rfl) ?_
        refine RL_v rfl rfl (yd_move rfl) ?_
        refine RL_v rfl rfl (yd_move rfl) ?_
        refine RL_v rfl rfl (yd_move rfl) ?_
        refine RL_v rfl rfl (yd_nil rfl rfl) ?_
        refine RL_v rfl rfl (yd_field rfl ft_57_4 rfl) ?_
        refine RL_v rfl rfl (yd_ix rfl at_54 rfl rfl (tc) (rfl) (by omega)) ?_
        refine RL_v rfl rfl (yd_ix rfl at_53 rfl rfl (th) (rfl) (by omega)) ?_
        rcases hsy : T.sym bs' with _ | ⟨s, bs2⟩
        · refine RL_call rfl rfl rfl en_13 rfl (symbol_ok hlb hy hT hbp) ?_
          rintro e w2 ⟨hp, hF1⟩
          unfold SymPost at hp
          simp only [hsy] at hp
          obtain ⟨⟨z, rfl⟩, hbf⟩ := hp
          refine ⟨_, rfl, ?_⟩
          replace hown := hown.fr hF1 (fun k hk h => by omega)
          replace hF := hF.up hF1 (fun k h => by omega)
          replace hB4 : B + 1 ≤ w2.heap.size := Nat.le_trans hB4 hF1.size
          replace hT := hT.fr hF1 (fun k hk h => by omega)
          clear hF1
          refine RL_v rfl rfl (yd_assign rfl) ?_
          refine RL_nil ?_
          refine hK17 _ _ ?_
          refine CW_seq fun K18 hK18 => ?_
          refine CW_seq fun K19 hK19 => ?_
          refine CW_region rfl ?_
          refine RL_v rfl rfl (yd_move rfl) ?_
          refine RL_v rfl rfl (yd_nil rfl rfl) ?_
          refine RL_v rfl rfl (yd_field rfl ft_61_3 rfl) ?_
          obtain ⟨sb', cap', at', u', hBB⟩ := hbf
          refine RL_v rfl rfl (yd_load rfl sc_4 rfl hBB.ld3) ?_
          refine RL_nil ?_
          refine hK19 _ _ ?_
          refine CW_t rfl ?_
          refine CW_seq fun K20 hK20 => ?_
          refine CW_region rfl ?_
          refine RL_v rfl rfl (yd_move rfl) ?_
          refine RL_v rfl rfl (yd_assign rfl) ?_
          refine RL_v rfl rfl (yd_assign rfl) ?_
          refine RL_v rfl rfl (yd_assign rfl) ?_
          refine RL_nil ?_
          refine hK20 _ _ ?_
          refine CW_ret ?_
          refine hK _ _ ?_
          rw [show n - k = (n - k - 1) + 1 by omega, decN_none hsy] at hdec
          exact ⟨hF, .inr ⟨v, tc, th, T, M', rfl, rfl, by omega, by omega, hd, hM, by rw [hdec]; rfl, by rw [hdec]; simp only [List.append_nil]; exact hown.mono (by omega)⟩⟩
        · refine RL_call rfl rfl rfl en_13 rfl (symbol_ok hlb hy hT hbp) ?_
          rintro e w2 ⟨hp, hF1⟩
          unfold SymPost at hp
          simp only [hsy] at hp
          obtain ⟨rfl, hbp⟩ := hp
          refine ⟨_, rfl, ?_⟩
          replace hown := hown.fr hF1 (fun k hk h => by omega)
          replace hF := hF.up hF1 (fun k h => by omega)
          replace hB4 : B + 1 ≤ w2.heap.size := Nat.le_trans hB4 hF1.size
          replace hT := hT.fr hF1 (fun k hk h => by omega)
          clear hF1
          refine RL_v rfl rfl (yd_assign rfl) ?_
          refine RL_nil ?_
          refine hK17 _ _ ?_
          refine CW_seq fun K21 hK21 => ?_
          refine CW_seq fun K22 hK22 => ?_
          refine CW_region rfl ?_
          refine RL_v rfl rfl (yd_move rfl) ?_
          refine RL_v rfl rfl (yd_nil rfl rfl) ?_
          refine RL_v rfl rfl (yd_field rfl ft_61_3 rfl) ?_
          refine RL_v rfl rfl (yd_load rfl sc_4 rfl (by obtain ⟨sb', cap', at', u', hBB, _⟩ := hbp; exact hBB.ld3)) ?_
          refine RL_nil ?_
          refine hK22 _ _ ?_
          refine CW_f rfl ?_
          refine CW_skip ?_
          refine hK21 _ _ ?_
          refine CW_region rfl ?_
          refine RL_v rfl rfl (yd_move rfl) ?_
          refine RL_v rfl rfl (yd_move rfl) ?_
          refine RL_v rfl rfl (yd_conv rfl so_3 it_5 rfl ((s : Nat) : Int) ((wrap_u8 s).trans (by rw [Nat.mod_eq_of_lt (sym_byte' hTok.by_ hsy)]))) ?_
          obtain ⟨q, hq⟩ : ∃ q, q = w2.heap.size := ⟨_, rfl⟩
          refine RL_slice1 (fun w' => Own w' (B + 1) 5 v (out.map u8v) ∧ BitP w'.heap B ys bs2 ∧ TabP w'.heap E (264 + tc * 72 + th * 18) B T ∧ w'.cell? ⟨q, 0 + 0, none⟩ = some (u8v s) ∧ B + 1 ≤ w'.heap.size ∧ Fr NO w0 w') rfl rfl rfl Tryd.underlying22 si_5 zr_5 rfl rfl rfl
            ⟨hown.of_eq (fun k _ hk _ => alloc_old hk), hbp.step (Nat.lt_succ_self B) ((Fr.refl _ _).alloc _), hT.fr (S := NO) ((Fr.refl _ _).alloc _) (fun _ _ h => h), by rw [hq, cell_of_blk alloc_get]; rfl, by rw [alloc_size]; omega, hF.alloc _⟩ ?_
          clear hown hF hB4 hbp hT
          rintro w3 ⟨hown, hbp, hT, hcl, hB4, hF⟩
          rw [← hq]
          clear hq
          refine RL_append (base := B + 1) (news := [u8v s]) rfl rfl rfl Tryd.underlying22 si_5 zr_5 rfl rfl rfl hown rfl (fun j u hj => ?_) (fun u hu => by rw [List.mem_singleton] at hu; subst hu; rfl) (by rw [List.length_map]; omega) (by rw [List.length_map]; omega) hB4 ?_
          · cases j with
            | zero => simp at hj; subst hj; exact hcl
            | succ j => simp at hj
          rintro v2 w4 hown2 hgr
          have hlt := fun k hk => hown.lt k hk
          replace hbp := hbp.step (Nat.lt_succ_self B) (Fr.grown2 hgr (fun k hk => (hlt k hk).1))
          replace hT := hT.fr (Fr.grown2 (S := fun k => B + 1 ≤ k) hgr (fun k hk => (hlt k hk).1)) (fun k hk h => by omega)
          replace hF : Fr NO w0 w4 := hF.grown hgr (fun k hk => by have := hlt k hk; omega)
          replace hB4 : B + 1 ≤ w4.heap.size := Nat.le_trans hB4 hgr.size
          rw [← List.map_singleton (f := u8v), ← List.map_append] at hown2
          refine RL_v rfl rfl (yd_assign rfl) ?_
          refine RL_nil ?_
          refine hK16 _ _ ?_
          refine CW_region rfl ?_
          refine RL_v rfl rfl (yd_add64 rfl rfl rfl (by omega)) ?_
          refine RL_v rfl rfl (yd_move rfl) ?_
          refine RL_nil ?_
          refine hK13 _ _ ?_
          exact ⟨n - (k + 1), by omega, k + 1, v2, out ++ [s], bs2, ⟨rfl, rfl, rfl, rfl, rfl, rfl, rfl, rfl, rfl, trivial⟩, by omega, by rw [List.length_append, hlen]; rfl, hown2, hbp, hT, by rw [hdec, show n - k = (n - (k + 1)) + 1 by omega, decN_some hsy]; simp, hB4, hF, rfl⟩
      · refine RL_v rfl rfl (yd_lt false rfl rfl rfl (decide_eq_false (by omega))) ?_
        refine RL_nil ?_
        refine hK14 _ _ ?_
        refine CW_seq fun K23 hK23 => ?_
        refine CW_f rfl ?_
        refine CW_exit rfl ?_
        refine hK11 _ _ ?_
        refine CW_seq fun K24 hK24 => ?_
        refine CW_region rfl ?_
        refine RL_v rfl rfl (yd_move rfl) ?_
        refine RL_v rfl rfl (yd_assign rfl) ?_
        refine RL_v rfl rfl (yd_assign rfl) ?_
        refine RL_v rfl rfl (yd_assign rfl) ?_
        refine RL_nil ?_
        refine hK24 _ _ ?_
        refine CW_ret ?_
        refine hK _ _ ?_
        obtain rfl : k = n := by omega
        rw [Nat.sub_self] at hdec
        exact ⟨hF, .inr ⟨v, tc, th, T, M', rfl, rfl, by omega, by omega, hd, hM, by rw [hdec]; rfl, by rw [hdec]; simp only [decN, List.append_nil]; exact hown.mono (by omega)⟩⟩

end Go.Proofs.YtdjilplpbaackaaDoor.Eng
