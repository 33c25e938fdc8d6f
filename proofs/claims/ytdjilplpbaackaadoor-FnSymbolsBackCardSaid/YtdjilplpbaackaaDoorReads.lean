/- laws.reads. -/
import Derived.Test.YtdjilplpbaackaaDoorCode
import Derived.Laws.MakeOwn
set_option linter.unusedVariables false
set_option linter.unusedSimpArgs false
set_option maxRecDepth 100000
namespace Go.Proofs.YtdjilplpbaackaaDoor.Eng
open Go

section
variable {P : Program} {ops : List Oper} {K : Kont} {σ : Env} {w : World} {o : Oper} {rest : List Oper} {v : Value} {d : Nat} {T U : TypeId} {x y : Operand}
theorem RL_make {e : TypeId} {z : Value} {bytes : Nat} {kx ky : IntKind} {l c : Int} (S : World → Prop) (hg : o.guard = none) (hd : o.dst = some d) (ho : o.op = .makeSlice T x y) (hu : P.underlying T = some (.slice e)) (hi : sizedT P e = some (1, bytes)) (hz : zeroT P e = some z)
    (hz1 : z.oneCell' = true) (hx : ev σ x = .int kx l) (hy : ev σ y = .int ky c) (ln cn : Nat) (hl : l = (ln : Int)) (hc : c = (cn : Int)) (hlc : ln ≤ cn) (hb : bytes * cn ≤ 281474976710656) (h63 : cn ≤ 9223372036854775807)
    (hS : ∀ cells : Array Value, cells.size = cn → (∀ k, k < cn → cells[k]? = some z) → S (w.alloc (.cells cells e (0, 0))))
    (h : ∀ w', S w' → RL P ops rest (upd σ d (.slice (some ⟨w.heap.size, 0, none⟩) ln cn)) w' K) : RL P ops (o :: rest) σ w K := by
  unfold sizedT at hi
  unfold zeroT at hz
  cases hie : P.info? e with
  | none => simp [hie] at hi
  | some ie =>
    simp only [hie, Option.map_some, Option.some.injEq, Prod.mk.injEq] at hi
    simp only [hie, Option.bind_some] at hz
    have hzc : z.cells = #[z] := by cases z <;> first | rfl | simp [Value.oneCell'] at hz1
    subst hl hc
    have hm := run_make (P := P) w T e ie z hu hie hz kx ky ln cn (by omega) (by omega) (by rw [hi.2, ← Int.natCast_mul]; exact Int.ofNat_le.2 hb) (by omega)
    rw [hi.1, Int.toNat_natCast, Int.toNat_natCast, Nat.mul_one, hzc] at hm
    refine RL_w hg hd (w' := w.alloc (.cells (madeCells #[z] cn) e (0, 0))) ?_ (h _ (hS _ (size_madeCells _ _) fun k hk => ?_))
    · simp only [Yw, execOp, ho, hx, hy, Sem.run_bind, hm, Result.andThen_ok, Sem.run_pure]
    · unfold madeCells
      rw [Array.getElem?_map, Array.getElem?_range, if_pos hk]
      simp [Nat.mod_one]
theorem yd_strO {e : TypeId} {base : Nat} {xs : List Nat} (ho : o.op = .convert 22 9 x) (hown : Own w base e v (xs.map u8v)) (hx : ev σ x = v) (h256 : ∀ x ∈ xs, x < 256) : Yd Tryd.prog o σ w (.string (strOf xs)) := by
  rcases hown.cells' with ⟨rfl, hn⟩ | ⟨g, cap, rfl, hb, hc⟩
  · exact yd_str ho Tryd.underlying22 Tryd.underlying5 Tryd.underlying9 hx (by rw [List.map_eq_nil_iff.1 hn]; rfl) h256 (.inl ⟨rfl, List.map_eq_nil_iff.1 hn⟩)
  · exact yd_str ho Tryd.underlying22 Tryd.underlying5 Tryd.underlying9 hx (by rw [List.length_map]) h256 (.inr ⟨g, 0, rfl, fun k x hk => hc k _ (by rw [List.getElem?_map, hk]; rfl)⟩)
end
theorem sym_byte {T : Tab} (h : ∀ s ∈ T.syms, s < 256) : ∀ (f i cp : Nat) (bs rest : List Bool) (s : Nat), T.symGo f i cp bs = some (s, rest) → s < 256
  | 0, i, cp, bs, rest, s, e => by simp [Tab.symGo] at e
  | f + 1, i, cp, [], rest, s, e => by simp [Tab.symGo] at e
  | f + 1, i, cp, b :: bs, rest, s, e => by
    rw [Tab.symGo] at e
    split at e
    · simp only [Option.some.injEq, Prod.mk.injEq] at e
      rw [← e.1, List.getD_eq_getElem?_getD]
      cases hk : T.syms[T.idx i + (2 * cp + b.toNat - T.first i)]? with
      | none => decide
      | some s => exact h s (List.mem_of_getElem? hk)
    · exact sym_byte h f _ _ _ _ _ e
theorem decN_byte {T : Tab} (h : ∀ s ∈ T.syms, s < 256) : ∀ (n : Nat) (bs : List Bool), ∀ s ∈ (decN T n bs).1, s < 256
  | 0, bs, s, hs => by simp [decN] at hs
  | n + 1, bs, s, hs => by
    cases he : T.sym bs with
    | none => rw [decN_none he] at hs; cases hs
    | some r =>
      obtain ⟨s', rest⟩ := r
      rw [decN_some he] at hs
      rcases List.mem_cons.1 hs with rfl | hs
      · exact sym_byte h _ _ _ _ _ _ he
      · exact decN_byte h n rest s hs
def T7 : Tab := ⟨fun i => if i = 0 then 1 else 0, [7]⟩
theorem good7 : GoodHd [0, 1, 0, 0, 0, 0, 0, 0, 0, 0, 0, 0, 0, 0, 0, 0, 0] 0 0 T7 where
  len := rfl
  h0 := rfl
  tc := by decide
  th := by decide
  cnt := by decide
  by_ := by decide
  kraft := by unfold Tab.Kraft; decide
  ok := ⟨by decide, by decide, by decide, by decide⟩
theorem dht7 : Dht [0, 1, 0, 0, 0, 0, 0, 0, 0, 0, 0, 0, 0, 0, 0, 0, 0, 7] (fun _ _ => none) (updM (fun _ _ => none) 0 0 T7) := Dht.cons (rest := []) good7 (Dht.nil _)
theorem dec7 : decN T7 2 (bitsOf [63]) = ([7, 7], true) := by
  rw [bitsOf_some (show destuff [63] = some (63, []) from rfl), bitsOf_none rfl, List.append_nil]; decide
theorem symbols7 {q p : Nat} {e1 e2 : Addr} {w0 : World} (hSa : SrcH w0.heap (some ⟨q, 0, none⟩) [0, 1, 0, 0, 0, 0, 0, 0, 0, 0, 0, 0, 0, 0, 0, 0, 0, 7]) (hSb : SrcH w0.heap (some ⟨p, 0, none⟩) [63]) (hG : GlobP w0.heap e1 e2) (h2 : 2 < w0.heap.size) (hg : w0.cell? ⟨0, 0, none⟩ = some (rty 65)) :
    Calls Tryd.prog 6 #[.slice (some ⟨q, 0, none⟩) 18 18, .int .i64 0, .int .i64 0, .slice (some ⟨p, 0, none⟩) 1 1, .int .i64 2] w0 fun e w' => ∃ v : Value, e = .returned (.tuple #[v, .int .i64 0]) ∧ Own w' w0.heap.size 5 v (([7, 7] : List Nat).map u8v) ∧ Fr NO w0 w' := by
  have h := symbols_ok (sa := some ⟨q, 0, none⟩) (sb := some ⟨p, 0, none⟩) (ca := 18) (cb := 1) (n := 2) (tc := 0) (th := 0) (T := T7) dht7 (by unfold updM; rw [if_pos ⟨rfl, rfl⟩]) (by decide) (by decide) hSa hSb (by decide) (by decide) (by decide) (by decide) (by decide) (by decide) hG h2 hg
  rw [dec7] at h
  refine Calls.mono h fun e w' ⟨v, c, he, ho, hc, hF⟩ => ?_
  obtain rfl : c = 0 := hc.2 rfl
  exact ⟨v, he, ho, hF⟩
set_option maxHeartbeats 400000 in
theorem reads_ok {e1 e2 : Addr} {w0 : World} (hG : GlobP w0.heap e1 e2) (h2 : 2 < w0.heap.size) (hg : w0.cell? ⟨0, 0, none⟩ = some (rty 65)) :
    Calls Tryd.prog 7 #[] w0 fun e w' => e = .returned (.bool true) ∧ Fr NO w0 w' := by
  refine calls1 Tryd.func7 rfl rfl rfl rfl (Nat.le_of_ble_eq_true rfl) fun K hK => ?_
  refine CW_seq fun K1 hK1 => ?_
  refine CW_region rfl ?_
  refine RL_v rfl rfl (yd_assign rfl) ?_
  refine RL_nil ?_
  refine hK1 _ _ ?_
  refine CW_seq fun K2 hK2 => ?_
  refine CW_region rfl ?_
  obtain ⟨q, hq⟩ : ∃ q, q = w0.heap.size := ⟨_, rfl⟩
  refine RL_make (fun w' => ArrP w'.heap q 5 18 (fun k => u8v (([0, 0, 0, 0, 0, 0, 0, 0, 0, 0, 0, 0, 0, 0, 0, 0, 0, 0] : List Nat).getD k 0)) ∧ Fr NO w0 w') rfl rfl rfl Tryd.underlying22 si_5 zr_5 rfl rfl rfl 18 18 rfl rfl (by decide) (by decide) (by decide) (fun cells hs hc => ⟨⟨cells, by rw [hq]; exact alloc_get, hs, fun i hi => (hc i hi).trans (congrArg (fun x => some (u8v x)) ((show ∀ i, i < 18 → (0 : Nat) = ([0, 0, 0, 0, 0, 0, 0, 0, 0, 0, 0, 0, 0, 0, 0, 0, 0, 0] : List Nat).getD i 0 by decide) i hi))⟩, (Fr.refl _ _).alloc _⟩) ?_
  rintro w ⟨hA, hF⟩
  rw [← hq]
  refine RL_v rfl rfl (yd_assign rfl) ?_
  refine RL_nil ?_
  refine hK2 _ _ ?_
  refine CW_seq fun K3 hK3 => ?_
  refine CW_region rfl ?_
  refine RL_v rfl rfl (yd_move rfl) ?_
  refine RL_v rfl rfl (yd_move rfl) ?_
  refine RL_v rfl rfl (yd_ixs rfl sl_22 rfl rfl (1) (rfl) (by omega)) ?_
  refine RL_storeW (fun w' => ArrP w'.heap q 5 18 (fun k => u8v (([0, 1, 0, 0, 0, 0, 0, 0, 0, 0, 0, 0, 0, 0, 0, 0, 0, 0] : List Nat).getD k 0)) ∧ Fr NO w0 w') rfl rfl rfl sz_5 rfl rfl rfl (hA.ld0 (i := 1) (by decide) rfl) (hA.fz) (⟨hA.set0 (i := 1) (by decide) rfl (fun j hj hne => congrArg u8v ((show ∀ j, j < 18 → j ≠ 1 → ([0, 1, 0, 0, 0, 0, 0, 0, 0, 0, 0, 0, 0, 0, 0, 0, 0, 0] : List Nat).getD j 0 = ([0, 0, 0, 0, 0, 0, 0, 0, 0, 0, 0, 0, 0, 0, 0, 0, 0, 0] : List Nat).getD j 0 by decide) j hj hne)), hF.set (fun h => absurd h (by omega)) _⟩) ?_
  clear hA hF
  rintro w ⟨hA, hF⟩
  refine RL_v rfl rfl (yd_ixs rfl sl_22 rfl rfl (17) (rfl) (by omega)) ?_
  refine RL_storeW (fun w' => ArrP w'.heap q 5 18 (fun k => u8v (([0, 1, 0, 0, 0, 0, 0, 0, 0, 0, 0, 0, 0, 0, 0, 0, 0, 7] : List Nat).getD k 0)) ∧ Fr NO w0 w') rfl rfl rfl sz_5 rfl rfl rfl (hA.ld0 (i := 17) (by decide) rfl) (hA.fz) (⟨hA.set0 (i := 17) (by decide) rfl (fun j hj hne => congrArg u8v ((show ∀ j, j < 18 → j ≠ 17 → ([0, 1, 0, 0, 0, 0, 0, 0, 0, 0, 0, 0, 0, 0, 0, 0, 0, 7] : List Nat).getD j 0 = ([0, 1, 0, 0, 0, 0, 0, 0, 0, 0, 0, 0, 0, 0, 0, 0, 0, 0] : List Nat).getD j 0 by decide) j hj hne)), hF.set (fun h => absurd h (by omega)) _⟩) ?_
  clear hA hF
  rintro w ⟨hA, hF⟩
  refine RL_nil ?_
  refine hK3 _ _ ?_
  refine CW_seq fun K4 hK4 => ?_
  refine CW_region rfl ?_
  refine RL_v rfl rfl (yd_move rfl) ?_
  obtain ⟨p, hp⟩ : ∃ p, p = w.heap.size := ⟨_, rfl⟩
  refine RL_slice1 (fun w' => ArrP w'.heap q 5 18 (fun k => u8v (([0, 1, 0, 0, 0, 0, 0, 0, 0, 0, 0, 0, 0, 0, 0, 0, 0, 7] : List Nat).getD k 0)) ∧ Fr NO w0 w' ∧ w'.heap[p]? = some (.cells #[u8v 63] 5 (0, 0))) rfl rfl rfl Tryd.underlying22 si_5 zr_5 rfl rfl rfl ⟨hA.of_eq (alloc_old hA.lt), hF.alloc _, by rw [hp]; exact alloc_get⟩ ?_
  clear hA hF
  rintro w ⟨hA, hF, hb⟩
  rw [← hp]
  have hSa : SrcH w.heap (some ⟨q, 0, none⟩) [0, 1, 0, 0, 0, 0, 0, 0, 0, 0, 0, 0, 0, 0, 0, 0, 0, 7] := by
    obtain ⟨c, hc, hs, hf⟩ := hA
    refine .inr ⟨q, 0, c, 5, (0, 0), rfl, hc, fun k x hk => ?_⟩
    have hk18 : k < 18 := by
      rcases Nat.lt_or_ge k 18 with h | h
      · exact h
      · rw [List.getElem?_eq_none (by exact h)] at hk; cases hk
    rw [Nat.zero_add, hf k hk18]
    show some (u8v (List.getD _ k 0)) = _
    rw [List.getD_eq_getElem?_getD, hk]; rfl
  have hSb : SrcH w.heap (some ⟨p, 0, none⟩) [63] := .inr ⟨p, 0, _, 5, (0, 0), rfl, hb, fun k x hk => by
    cases k with
    | zero => simp at hk; subst hk; rfl
    | succ k => simp at hk⟩
  refine RL_call rfl rfl rfl en_6 rfl (symbols7 hSa hSb (hG.no hF) (Nat.lt_of_lt_of_le h2 hF.size) ((cell_keep (hF.block 0 (cell_lt hg) id)).trans hg)) ?_
  rintro _ w3 ⟨v, rfl, hown, hF2⟩
  refine ⟨_, rfl, ?_⟩
  replace hF := hF2.trans' hF
  refine RL_v rfl rfl (yd_move rfl) ?_
  refine RL_v rfl rfl (yd_extract rfl rfl rfl) ?_
  refine RL_v rfl rfl (yd_extract rfl rfl rfl) ?_
  refine RL_v rfl rfl (yd_assign rfl) ?_
  refine RL_v rfl rfl (yd_assign rfl) ?_
  refine RL_nil ?_
  refine hK4 _ _ ?_
  refine CW_seq fun K5 hK5 => ?_
  refine CW_region rfl ?_
  refine RL_v rfl rfl (yd_move rfl) ?_
  refine RL_v rfl rfl (yd_eq true rfl rfl rfl (decide_eq_true (by simp))) ?_
  refine RL_v rfl rfl (yd_move rfl) ?_
  refine RL_gv rfl rfl (yd_move rfl) ?_
  refine RL_gv rfl rfl (yd_strO rfl hown rfl (by decide)) ?_
  refine RL_gv rfl rfl (yd_eqs (r := true) (ys := [7, 7]) rfl rfl rfl (by decide) (by decide) (by decide)) ?_
  refine RL_v rfl rfl (yd_pick rfl rfl) ?_
  refine RL_v rfl rfl (yd_assign rfl) ?_
  refine RL_nil ?_
  refine hK5 _ _ ?_
  refine CW_ret ?_
  refine hK _ _ ?_
  exact ⟨rfl, hF⟩

end Go.Proofs.YtdjilplpbaackaaDoor.Eng
