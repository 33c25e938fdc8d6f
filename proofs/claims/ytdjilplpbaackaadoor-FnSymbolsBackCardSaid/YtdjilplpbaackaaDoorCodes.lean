/- The oracle's reader of a segment. -/
import Derived.Test.YtdjilplpbaackaaDoorCodesLem
set_option linter.unusedVariables false
set_option linter.unusedSimpArgs false
set_option maxRecDepth 100000
namespace Go.Proofs.YtdjilplpbaackaaDoor.Eng
open Go

theorem ag_52 : aggT Tryd.prog 52 = true := by kernel_rfl
theorem sz_52 : sizeT Tryd.prog 52 = some 18 := by kernel_rfl
theorem zr_52 : zeroT Tryd.prog 52 = some (.agg ((Array.replicate 17 (.int .i64 0)).push (.slice none 0 0))) := by kernel_rfl
theorem zr_69 : zeroT Tryd.prog 69 = some (.agg (Array.replicate 256 (.bool false))) := by kernel_rfl
theorem zr_3 : zeroT Tryd.prog 3 = some (.int .i64 0) := by kernel_rfl
theorem si_3 : sizedT Tryd.prog 3 = some (1, 8) := by kernel_rfl
def tabF (T : Tab) (j : Nat) (v : Value) : Nat → Value := fun i => if i = 17 then v else if 1 ≤ i ∧ i ≤ j then .int .i64 ((T.counts (i - 1) : Nat) : Int) else .int .i64 0
theorem tabF_self (T : Tab) {j : Nat} (v : Value) (h : j < 16) : tabF T (j + 1) v (j + 1) = .int .i64 ((T.counts j : Nat) : Int) := by unfold tabF; rw [if_neg (by omega), if_pos (by omega)]; rfl
theorem tabF_ne (T : Tab) {j i : Nat} (v : Value) (h : i ≠ j + 1) : tabF T (j + 1) v i = tabF T j v i := by
  unfold tabF
  by_cases h1 : i = 17
  · rw [if_pos h1, if_pos h1]
  · rw [if_neg h1, if_neg h1]
    by_cases h2 : 1 ≤ i ∧ i ≤ j
    · rw [if_pos h2, if_pos (by omega)]
    · rw [if_neg h2, if_neg (by omega)]
theorem tabF_v (T : Tab) {j i : Nat} (v v' : Value) (h : i ≠ 17) : tabF T j v' i = tabF T j v i := by unfold tabF; rw [if_neg h, if_neg h]
theorem tabF_cnt (T : Tab) {i : Nat} (v : Value) (h : i < 16) : tabF T 16 v (i + 1) = .int .i64 ((T.counts i : Nat) : Int) := by unfold tabF; rw [if_neg (by omega), if_pos (by omega)]; rfl
theorem tabF_one (T : Tab) {j i : Nat} {v : Value} (hv : v.oneCell' = true) : (tabF T j v i).oneCell' = true := by
  unfold tabF; split
  · exact hv
  · split <;> rfl
def seenF (l : List Nat) : Nat → Value := fun x => .bool (decide (x ∈ l))
theorem Fr.grown2 {S : Nat → Prop} {w w' : World} {row : Option Nat} (hg : w.grownBy w' row) (hrow : ∀ k, row = some k → S k) : Fr S w w' :=
  ⟨hg.os, hg.tape, hg.output, hg.size, fun k hk hs => hg.block k hk (fun e => hs (hrow k e.symm))⟩
/-- What a round of 'codes' keeps: the segment's block, the tables that are there, all old blocks but E. -/
structure KP (w0 w : World) (E L b : Nat) (o : Obj) (M1 : TabM) : Prop where
  src : w.heap[b]? = some o
  bE : b < E
  ep : EP w.heap E L M1
  l0 : w0.heap.size ≤ L
  l1 : L ≤ w.heap.size
  fr : Fr (fun k => k = E) w0 w
theorem KP.el {w0 w : World} {E L b : Nat} {o : Obj} {M1 : TabM} (h : KP w0 w E L b o M1) : E < L := by obtain ⟨c, _, _, _, h4, _⟩ := h.ep; exact h4
theorem KP.step {w0 w w' : World} {E L b : Nat} {o : Obj} {M1 : TabM} (h : KP w0 w E L b o M1) (hF : Fr (fun k => L ≤ k) w w') : KP w0 w' E L b o M1 := by
  have hk : ∀ k, k < L → w'.heap[k]? = w.heap[k]? := fun k hk => hF.block k (Nat.lt_of_lt_of_le hk h.l1) (by omega)
  have := h.bE
  have := h.el
  exact ⟨(hk b (by omega)).trans h.src, h.bE, h.ep.keep (Nat.le_refl _) hk, h.l0, Nat.le_trans h.l1 hF.size,
    ⟨hF.os.trans h.fr.os, hF.tape.trans h.fr.tape, hF.output.trans h.fr.output, Nat.le_trans h.fr.size hF.size, fun k hk' hs => (hk k (Nat.lt_of_lt_of_le hk' h.l0)).trans (h.fr.block k hk' hs)⟩⟩
theorem Own.one {w : World} {base : Nat} {e : TypeId} {v : Value} {xs : List Value} (h : Own w base e v xs) : v.oneCell' = true := by
  rcases h.2 with ⟨rfl, _⟩ | ⟨g, cap, cur, rfl, _⟩ <;> rfl
theorem goodHd_of' {rest : List Nat} {T : Tab} {x0 tc th : Nat} (e1 : tc = x0 / 16) (e2 : th = x0 % 16) (hx : rest[0]? = some x0) (hl : 17 ≤ rest.length) (hc : ∀ i, T.counts i = rest.getD (i + 1) 0) (hy : ∀ y ∈ rest, y < 256) (htc : tc ≤ 1) (hth : th ≤ 3) (hk : T.Kraft) (ok : T.OK) :
    GoodHd (rest.take 17) tc th T := by subst e1 e2; exact goodHd_of hx hl hc hy htc hth hk ok
theorem cellOf_of_cell {w : World} {b p : Nat} {v : Value} (h : w.cell? ⟨b, p, none⟩ = some v) : cellOf w.heap b p = some v := by
  unfold cellOf
  rcases hg : w.heap[b]? with _ | ob
  · simp [World.cell?, hg] at h
  · cases ob <;> simp [World.cell?, hg] at h ⊢
    exact h
theorem tabs_one {T : Tab} {a : Addr} {n cap : Nat} : ∀ u ∈ (List.range 18).map (tabF T 16 (.slice (some a) n cap)), u.oneCell' = true := by
  intro u hu
  rw [List.mem_map] at hu
  obtain ⟨i, _, rfl⟩ := hu
  exact tabF_one T rfl
theorem KP.put {w0 w w' : World} {E L b g cap n tc th : Nat} {o : Obj} {M1 : TabM} {T : Tab} (hP : KP w0 w E L b o M1) (hw : w' = { w with drawn := w.drawn + 1 }) (htc : tc ≤ 1) (hth : th ≤ 3) (hok : T.OK) (hn : n = T.syms.length)
    (hgl : g < w.heap.size) (hgE : E < g) (hc : ∀ k x, (T.syms.map i64v)[k]? = some x → w.cell? ⟨g, 0 + k, none⟩ = some x) :
    (setCells w' E (264 + tc * 72 + th * 18) ((List.range 18).map (tabF T 16 (.slice (some ⟨g, 0, none⟩) n cap)))).heap[b]? = some o ∧
    EP (setCells w' E (264 + tc * 72 + th * 18) ((List.range 18).map (tabF T 16 (.slice (some ⟨g, 0, none⟩) n cap)))).heap E w.heap.size (updM M1 tc th T) ∧
    w.heap.size ≤ (setCells w' E (264 + tc * 72 + th * 18) ((List.range 18).map (tabF T 16 (.slice (some ⟨g, 0, none⟩) n cap)))).heap.size ∧
    Fr (fun k => k = E) w0 (setCells w' E (264 + tc * 72 + th * 18) ((List.range 18).map (tabF T 16 (.slice (some ⟨g, 0, none⟩) n cap)))) := by
  have hh : w'.heap = w.heap := by rw [hw]
  have hF : Fr (fun k => k = E) w0 w' := by rw [hw]; exact hP.fr
  have hbE := hP.bE
  have hEP : EP w'.heap E w.heap.size M1 := by rw [hh]; exact hP.ep.keep hP.l1 (fun _ _ => rfl)
  refine ⟨?_, ?_, ?_, ?_⟩
  · rw [setCells_ne (by omega), hh]; exact hP.src
  · refine hEP.put htc hth hok (by rw [List.length_map, List.length_range]) (fun i hi => ?_) hgl hgE (cap := cap) ?_ (fun k s hk => ?_)
    · rw [List.getElem?_map, List.getElem?_range (by omega), Option.map_some, tabF_cnt T _ hi]
    · rw [List.getElem?_map, List.getElem?_range (by omega), Option.map_some, hn]; rfl
    · rw [hh]; exact cellOf_of_cell (hc k (i64v s) (by rw [List.getElem?_map, hk]; rfl))
  · rw [setCells_size, hh]; exact Nat.le_refl _
  · exact Fr.setCells (S := fun k => k = E) (fun _ => rfl) _ _ _ hF
abbrev N0 : TabM := fun _ _ => none

set_option maxHeartbeats 6000000 in
theorem codes_ok {E ca L : Nat} {sa : Option Addr} {xs : List Nat} {w0 : World} (hca : xs.length ≤ ca) (hSa : SrcH w0.heap sa xs) (hne : xs ≠ [] → ∀ b p, sa = some ⟨b, p, none⟩ → b < E) (hy : ∀ y ∈ xs, y < 256) (hl : xs.length ≤ 2147483647)
    (hEP : EP w0.heap E L N0) (hL : L ≤ w0.heap.size) :
    Calls Tryd.prog 12 #[.pointer (some ⟨E, 0, none⟩), .slice sa xs.length ca] w0 fun e w' => ∃ ok : Bool, e = .returned (.bool ok) ∧ (ok = true → ∃ M' L', Dht xs N0 M' ∧ EP w'.heap E L' M' ∧ L' ≤ w'.heap.size) ∧ Fr (fun k => k = E) w0 w' := by
  refine calls1 Tryd.func12 rfl rfl rfl rfl (Nat.le_of_ble_eq_true rfl) fun K hK => ?_
  refine CW_seq fun K1 hK1 => ?_
  refine CW_region rfl ?_
  refine RL_v rfl rfl (yd_assign rfl) ?_
  refine RL_nil ?_
  refine hK1 _ _ ?_
  refine CW_seq fun K2 hK2 => ?_
  refine CW_block ?_
  refine CW_loop (n := xs.length) (fun σ w N => ∃ (rest : List Nat) (M1 : TabM) (sa : Option Addr) (ca L : Nat), AtS σ [(0, .pointer (some ⟨E, 0, none⟩)), (1, .slice sa rest.length ca)] ∧ rest.length ≤ ca ∧ (∀ M', Dht rest M1 M' → Dht xs N0 M') ∧ SrcH w.heap sa rest ∧ (rest ≠ [] → ∀ b p, sa = some ⟨b, p, none⟩ → b < E) ∧ (∀ y ∈ rest, y < 256) ∧ rest.length ≤ 2147483647 ∧ EP w.heap E L M1 ∧ L ≤ w.heap.size ∧ Fr (fun k => k = E) w0 w ∧ N = rest.length) ?_ ?_
  · exact ⟨xs, N0, sa, ca, L, ⟨rfl, rfl, trivial⟩, hca, fun _ h => h, hSa, hne, hy, hl, hEP, hL, Fr.refl _ _, rfl⟩
  · intro σ w N hI K3 hK3
    clear hca hSa hne hy hl hEP hL
    clear sa ca L
    obtain ⟨rest, M1, sa, ca, L, hσ, hca, hdone, hS, hne, hy, hl, hEP, hL, hF, hNN⟩ := hI
    subst hNN
    refine CW_at hσ ?_
    refine CW_seq fun K4 hK4 => ?_
    refine CW_seq fun K5 hK5 => ?_
    refine CW_region rfl ?_
    refine RL_v rfl rfl (yd_move rfl) ?_
    refine RL_v rfl rfl (yd_len rfl sl_22 rfl) ?_
    by_cases h17 : 17 ≤ rest.length
    · refine RL_v rfl rfl (yd_ge true rfl rfl rfl (decide_eq_true (by omega))) ?_
      refine RL_nil ?_
      refine hK5 _ _ ?_
      refine CW_t rfl ?_
      refine CW_skip ?_
      refine hK4 _ _ ?_
      refine CW_block ?_
      refine CW_seq fun K6 hK6 => ?_
      refine CW_draw 11 mixed (by kernel_rfl) rfl ?_
      have hrn : rest ≠ [] := by intro h; subst h; simp at h17
      obtain ⟨b, p, c0, TS, fr, rfl, hsrc0, hcs⟩ : ∃ b p c T fr, sa = some ⟨b, p, none⟩ ∧ w.heap[b]? = some (.cells c T fr) ∧ ∀ k x, rest[k]? = some x → c[p + k]? = some (u8v x) := by
        rcases hS with h | h
        · exact (hrn h).elim
        · exact h
      obtain ⟨x0, hx0⟩ : ∃ x, rest[0]? = some x := ⟨_, List.getElem?_eq_getElem (by omega)⟩
      have hx256 : x0 < 256 := hy x0 (List.mem_of_getElem? hx0)
      obtain ⟨tc, htc⟩ : ∃ tc, tc = x0 / 16 := ⟨_, rfl⟩
      obtain ⟨th, hth⟩ : ∃ th, th = x0 % 16 := ⟨_, rfl⟩
      obtain ⟨T, hcf, hsyms⟩ := tab_of rest
      have hP : KP w0 w E w.heap.size b (.cells c0 TS fr) M1 := ⟨hsrc0, hne hrn b p rfl, hEP.keep hL (fun _ _ => rfl), hF.size, Nat.le_refl _, hF⟩
      revert hP
      generalize w.heap.size = L
      intro hP
      clear hS hne hEP hL hF hsrc0
      refine RD_v rfl rfl (yd_move rfl) ?_
      refine RD_v rfl rfl (yd_ixs rfl sl_22 rfl rfl (0) (rfl) (by omega)) ?_
      refine RD_v rfl rfl (yd_load rfl sc_5 rfl ((cell_of_blk hP.src).trans (hcs 0 _ hx0))) ?_
      refine RD_v rfl rfl (yd_shr rfl rfl rfl (by omega) ((tc : Nat) : Int) ((shr_k .u8 x0 4 (by decide)).trans (by rw [htc]))) ?_
      refine RD_v rfl rfl (yd_conv rfl so_5 it_3 rfl ((tc : Nat) : Int) (IntWalk.i64_in _ (by omega))) ?_
      refine RD_v rfl rfl (yd_move rfl) ?_
      refine RD_v rfl rfl (yd_ixs rfl sl_22 rfl rfl (0) (rfl) (by omega)) ?_
      refine RD_v rfl rfl (yd_load rfl sc_5 rfl ((cell_of_blk hP.src).trans (hcs 0 _ hx0))) ?_
      refine RD_v rfl rfl (yd_and rfl rfl rfl ((th : Nat) : Int) (by rw [hth]; exact and15_u8 x0 hx256)) ?_
      refine RD_v rfl rfl (yd_conv rfl so_5 it_3 rfl ((th : Nat) : Int) (IntWalk.i64_in _ (by omega))) ?_
      refine RD_v rfl rfl (yd_assign rfl) ?_
      refine RD_nil ?_
      refine RL_v rfl rfl (yd_assign rfl) ?_
      refine RL_nil ?_
      refine hK6 _ _ ?_
      refine CW_seq fun K7 hK7 => ?_
      refine CW_seq fun K8 hK8 => ?_
      refine CW_region rfl ?_
      refine RL_v rfl rfl (yd_move rfl) ?_
      by_cases h1 : 1 < tc
      · refine RL_v rfl rfl (yd_gt true rfl rfl rfl (decide_eq_true (by omega))) ?_
        refine RL_v rfl rfl (yd_move rfl) ?_
        refine RL_skip rfl rfl ?_
        refine RL_skip rfl rfl ?_
        refine RL_v rfl rfl (yd_pick rfl rfl) ?_
        refine RL_v rfl rfl (yd_move rfl) ?_
        refine RL_skip rfl rfl ?_
        refine RL_skip rfl rfl ?_
        refine RL_skip rfl rfl ?_
        refine RL_skip rfl rfl ?_
        refine RL_skip rfl rfl ?_
        refine RL_skip rfl rfl ?_
        refine RL_skip rfl rfl ?_
        refine RL_skip rfl rfl ?_
        refine RL_skip rfl rfl ?_
        refine RL_v rfl rfl (yd_pick rfl rfl) ?_
        refine RL_nil ?_
        refine hK8 _ _ ?_
        refine CW_t rfl ?_
        refine CW_seq fun K9 hK9 => ?_
        refine CW_region rfl ?_
        refine RL_v rfl rfl (yd_assign rfl) ?_
        refine RL_nil ?_
        refine hK9 _ _ ?_
        refine CW_ret ?_
        refine hK _ _ ?_
        exact ⟨false, rfl, fun h => (by cases h), hP.fr⟩
      · refine RL_v rfl rfl (yd_gt false rfl rfl rfl (decide_eq_false (by omega))) ?_
        refine RL_v rfl rfl (yd_move rfl) ?_
        refine RL_gv rfl rfl (yd_move rfl) ?_
        by_cases h2 : 3 < th
        · refine RL_gv rfl rfl (yd_gt true rfl rfl rfl (decide_eq_true (by omega))) ?_
          refine RL_v rfl rfl (yd_pick rfl rfl) ?_
          refine RL_v rfl rfl (yd_move rfl) ?_
          refine RL_skip rfl rfl ?_
          refine RL_skip rfl rfl ?_
          refine RL_skip rfl rfl ?_
          refine RL_skip rfl rfl ?_
          refine RL_skip rfl rfl ?_
          refine RL_skip rfl rfl ?_
          refine RL_skip rfl rfl ?_
          refine RL_skip rfl rfl ?_
          refine RL_skip rfl rfl ?_
          refine RL_v rfl rfl (yd_pick rfl rfl) ?_
          refine RL_nil ?_
          refine hK8 _ _ ?_
          refine CW_t rfl ?_
          refine CW_seq fun K10 hK10 => ?_
          refine CW_region rfl ?_
          refine RL_v rfl rfl (yd_assign rfl) ?_
          refine RL_nil ?_
          refine hK10 _ _ ?_
          refine CW_ret ?_
          refine hK _ _ ?_
          exact ⟨false, rfl, fun h => (by cases h), hP.fr⟩
        · refine RL_gv rfl rfl (yd_gt false rfl rfl rfl (decide_eq_false (by omega))) ?_
          refine RL_v rfl rfl (yd_pick rfl rfl) ?_
          refine RL_v rfl rfl (yd_move rfl) ?_
          refine RL_gv rfl rfl (yd_move rfl) ?_
          refine RL_gv rfl rfl (yd_nil rfl rfl) ?_
          refine RL_gv rfl rfl (yd_field rfl ft_57_1 rfl) ?_
          refine RL_gv rfl rfl (yd_load rfl sc_3 rfl (hP.ep.ld6)) ?_
          refine RL_gv rfl rfl (yd_eq false rfl rfl rfl (decide_eq_false (by omega))) ?_
          refine RL_gv rfl rfl (yd_move rfl) ?_
          refine RL_skip rfl rfl ?_
          refine RL_skip rfl rfl ?_
          refine RL_gv rfl rfl (yd_pick rfl rfl) ?_
          refine RL_v rfl rfl (yd_pick rfl rfl) ?_
          refine RL_nil ?_
          refine hK8 _ _ ?_
          refine CW_f rfl ?_
          refine CW_skip ?_
          refine hK7 _ _ ?_
          refine CW_seq fun K11 hK11 => ?_
          refine CW_region rfl ?_
          obtain ⟨Tb, hTbe⟩ : ∃ q, q = w.heap.size := ⟨_, rfl⟩
          have hTb : L ≤ Tb := by rw [hTbe]; exact hP.l1
          refine RL_alloc (fun w' => KP w0 w' E L b (.cells c0 TS fr) M1 ∧ ArrP w'.heap Tb 52 18 (tabF T 0 (.slice none 0 0))) rfl rfl rfl zr_52 ⟨hP.step ((Fr.refl _ _).alloc _), ⟨_, by rw [hTbe]; exact alloc_get, rfl, fun i hi => ?_⟩⟩ ?_
          · have h1 : (Value.agg ((Array.replicate 17 (.int .i64 0)).push (.slice none 0 0))).cells = (Array.replicate 17 (.int .i64 0)).push (.slice none 0 0) := rfl
            rw [h1, Array.getElem?_push, Array.size_replicate]
            unfold tabF
            by_cases h : i = 17
            · rw [if_pos h, if_pos h]
            · rw [if_neg h, if_neg h, Array.getElem?_replicate, if_pos (by omega), if_neg (by omega)]
          clear hP
          rintro w ⟨hP, hA⟩
          rw [← hTbe]
          clear hTbe
          refine RL_nil ?_
          refine hK11 _ _ ?_
          refine CW_seq fun K12 hK12 => ?_
          refine CW_region rfl ?_
          refine RL_v rfl rfl (yd_assign rfl) ?_
          refine RL_v rfl rfl (yd_assign rfl) ?_
          refine RL_nil ?_
          refine hK12 _ _ ?_
          refine CW_seq fun K13 hK13 => ?_
          refine CW_seq fun K14 hK14 => ?_
          refine CW_region rfl ?_
          refine RL_v rfl rfl (yd_assign rfl) ?_
          refine RL_nil ?_
          refine hK14 _ _ ?_
          refine CW_block ?_
          refine CW_loop (n := 16) (fun σ w N => ∃ (j s : Nat), AtS σ [(0, .pointer (some ⟨E, 0, none⟩)), (1, .slice (some ⟨b, p, none⟩) rest.length ca), (5, .int .i64 ((tc : Nat) : Int)), (6, .int .i64 ((th : Nat) : Int)), (7, .pointer (some ⟨Tb, 0, none⟩)), (8, .int .i64 ((s : Nat) : Int)), (9, .int .i64 ((T.idx j : Nat) : Int)), (10, .int .i64 ((j + 1 : Nat) : Int))] ∧ j ≤ 16 ∧ 2 * s + T.first j = 2 ^ (j + 1) ∧ 1 ≤ s ∧ T.idx j ≤ j * 255 ∧ (∀ i, i < j → T.first i + T.counts i < 2 ^ (i + 1)) ∧ KP w0 w E L b (.cells c0 TS fr) M1 ∧ ArrP w.heap Tb 52 18 (tabF T j (.slice none 0 0)) ∧ N = 16 - j) ?_ ?_
          · exact ⟨0, 1, ⟨rfl, rfl, rfl, rfl, rfl, rfl, rfl, rfl, trivial⟩, by omega, rfl, by omega, by simp [Tab.idx], fun i hi => by omega, hP, hA, rfl⟩
          · intro σ w N hI K15 hK15
            clear hP hA
            obtain ⟨j, s, hσ, hj, hs, hs1, hib, hkr, hP, hA, hNN⟩ := hI
            subst hNN
            refine CW_at hσ ?_
            refine CW_seq fun K16 hK16 => ?_
            refine CW_seq fun K17 hK17 => ?_
            refine CW_region rfl ?_
            refine RL_v rfl rfl (yd_move rfl) ?_
            by_cases hj16 : j + 1 ≤ 16
            · refine RL_v rfl rfl (yd_le true rfl rfl rfl (decide_eq_true (by omega))) ?_
              refine RL_nil ?_
              refine hK17 _ _ ?_
              refine CW_t rfl ?_
              refine CW_skip ?_
              refine hK16 _ _ ?_
              refine CW_seq fun K18 hK18 => ?_
              refine CW_block ?_
              refine CW_seq fun K19 hK19 => ?_
              refine CW_region rfl ?_
              obtain ⟨hcj, hcl⟩ : rest[j + 1]? = some (T.counts j) ∧ T.counts j < 256 := by
                rw [hcf, List.getD_eq_getElem?_getD, List.getElem?_eq_getElem (by omega)]
                exact ⟨rfl, hy _ (List.getElem_mem _)⟩
              have h2p : 2 ^ (j + 1) ≤ 2 ^ 16 := Nat.pow_le_pow_right (by decide) (by omega)
              refine RL_v rfl rfl (yd_move rfl) ?_
              refine RL_v rfl rfl (yd_move rfl) ?_
              refine RL_v rfl rfl (yd_move rfl) ?_
              refine RL_v rfl rfl (yd_ixs rfl sl_22 rfl rfl (j + 1) (rfl) (by omega)) ?_
              refine RL_v rfl rfl (yd_load rfl sc_5 rfl ((cell_of_blk hP.src).trans (hcs (j + 1) _ hcj))) ?_
              refine RL_v rfl rfl (yd_conv rfl so_5 it_3 rfl ((T.counts j : Nat) : Int) (IntWalk.i64_in _ (by omega))) ?_
              refine RL_v rfl rfl (yd_field rfl ft_52_0 rfl) ?_
              refine RL_v rfl rfl (yd_ix1 rfl at_50 rfl rfl (j + 1) (rfl) (by omega)) ?_
              refine RL_storeW (fun w' => KP w0 w' E L b (.cells c0 TS fr) M1 ∧ ArrP w'.heap Tb 52 18 (tabF T (j + 1) (.slice none 0 0))) rfl rfl rfl sz_3 rfl rfl rfl (hA.ld0 (i := j + 1) (by omega) rfl) (hA.fz) (⟨hP.step ((Fr.refl _ _).set (fun _ => by omega) _), hA.set0 (i := j + 1) (by omega) (tabF_self T _ (by omega)) (fun i _ hi => tabF_ne T _ hi)⟩) ?_
              clear hP hA
              rintro w ⟨hP, hA⟩
              refine RL_nil ?_
              refine hK19 _ _ ?_
              refine CW_seq fun K20 hK20 => ?_
              refine CW_region rfl ?_
              refine RL_v rfl rfl (yd_move rfl) ?_
              refine RL_v rfl rfl (yd_move rfl) ?_
              refine RL_v rfl rfl (yd_move rfl) ?_
              refine RL_v rfl rfl (yd_ixs rfl sl_22 rfl rfl (j + 1) (rfl) (by omega)) ?_
              refine RL_v rfl rfl (yd_load rfl sc_5 rfl ((cell_of_blk hP.src).trans (hcs (j + 1) _ hcj))) ?_
              refine RL_v rfl rfl (yd_conv rfl so_5 it_3 rfl ((T.counts j : Nat) : Int) (IntWalk.i64_in _ (by omega))) ?_
              refine RL_v rfl rfl (yd_add rfl rfl rfl ((T.idx (j + 1) : Nat) : Int) ((IntWalk.i64_in _ (by omega)).trans (by show _ = ((T.idx j + T.counts j : Nat) : Int); omega))) ?_
              refine RL_v rfl rfl (yd_assign rfl) ?_
              refine RL_nil ?_
              refine hK20 _ _ ?_
              refine CW_seq fun K21 hK21 => ?_
              refine CW_region rfl ?_
              refine RL_v rfl rfl (yd_move rfl) ?_
              refine RL_v rfl rfl (yd_mul rfl rfl rfl ((2 * s : Nat) : Int) ((IntWalk.i64_in _ (by omega)).trans (by omega))) ?_
              refine RL_v rfl rfl (yd_move rfl) ?_
              refine RL_v rfl rfl (yd_move rfl) ?_
              refine RL_v rfl rfl (yd_ixs rfl sl_22 rfl rfl (j + 1) (rfl) (by omega)) ?_
              refine RL_v rfl rfl (yd_load rfl sc_5 rfl ((cell_of_blk hP.src).trans (hcs (j + 1) _ hcj))) ?_
              refine RL_v rfl rfl (yd_conv rfl so_5 it_3 rfl ((T.counts j : Nat) : Int) (IntWalk.i64_in _ (by omega))) ?_
              refine RL_v rfl rfl (yd_sub64 rfl rfl rfl (by omega)) ?_
              refine RL_v rfl rfl (yd_assign rfl) ?_
              refine RL_nil ?_
              refine hK21 _ _ ?_
              refine CW_seq fun K22 hK22 => ?_
              refine CW_region rfl ?_
              refine RL_v rfl rfl (yd_move rfl) ?_
              by_cases h5 : ((2 * s : Nat) : Int) - ((T.counts j : Nat) : Int) < 1
              · refine RL_v rfl rfl (yd_lt true rfl rfl rfl (decide_eq_true (by omega))) ?_
                refine RL_nil ?_
                refine hK22 _ _ ?_
                refine CW_t rfl ?_
                refine CW_seq fun K23 hK23 => ?_
                refine CW_region rfl ?_
                refine RL_v rfl rfl (yd_assign rfl) ?_
                refine RL_nil ?_
                refine hK23 _ _ ?_
                refine CW_ret ?_
                refine hK _ _ ?_
                exact ⟨false, rfl, fun h => (by cases h), hP.fr⟩
              · refine RL_v rfl rfl (yd_lt false rfl rfl rfl (decide_eq_false (by omega))) ?_
                refine RL_nil ?_
                refine hK22 _ _ ?_
                refine CW_f rfl ?_
                refine CW_skip ?_
                refine hK18 _ _ ?_
                refine CW_region rfl ?_
                refine RL_v rfl rfl (yd_move rfl) ?_
                refine RL_v rfl rfl (yd_add64 rfl rfl rfl (by omega)) ?_
                refine RL_v rfl rfl (yd_assign rfl) ?_
                refine RL_nil ?_
                refine hK15 _ _ ?_
                refine ⟨16 - (j + 1), by omega, j + 1, 2 * s - T.counts j, ⟨rfl, rfl, rfl, rfl, rfl, congrArg (Value.int .i64) (by omega), rfl, rfl, trivial⟩, by omega, ?_, by omega, ?_, fun i hi => ?_, hP, hA, rfl⟩
                · show 2 * (2 * s - T.counts j) + (T.first j + T.counts j) * 2 = 2 ^ (j + 1 + 1)
                  rw [Nat.pow_succ]; omega
                · show T.idx j + T.counts j ≤ _; omega
                · rcases Nat.lt_or_ge i j with h | h
                  · exact hkr i h
                  · obtain rfl : i = j := by omega
                    omega
            · refine RL_v rfl rfl (yd_le false rfl rfl rfl (decide_eq_false (by omega))) ?_
              refine RL_nil ?_
              refine hK17 _ _ ?_
              refine CW_f rfl ?_
              refine CW_exit rfl ?_
              refine hK13 _ _ ?_
              refine CW_seq fun K24 hK24 => ?_
              refine CW_seq fun K25 hK25 => ?_
              refine CW_region rfl ?_
              obtain rfl : j = 16 := by omega
              have hkr : T.Kraft := hkr
              refine RL_v rfl rfl (yd_move rfl) ?_
              by_cases h6 : T.idx 16 = 0
              · refine RL_v rfl rfl (yd_eq true rfl rfl rfl (decide_eq_true (by omega))) ?_
                refine RL_v rfl rfl (yd_move rfl) ?_
                refine RL_skip rfl rfl ?_
                refine RL_skip rfl rfl ?_
                refine RL_skip rfl rfl ?_
                refine RL_skip rfl rfl ?_
                refine RL_skip rfl rfl ?_
                refine RL_v rfl rfl (yd_pick rfl rfl) ?_
                refine RL_nil ?_
                refine hK25 _ _ ?_
                refine CW_t rfl ?_
                refine CW_seq fun K26 hK26 => ?_
                refine CW_region rfl ?_
                refine RL_v rfl rfl (yd_assign rfl) ?_
                refine RL_nil ?_
                refine hK26 _ _ ?_
                refine CW_ret ?_
                refine hK _ _ ?_
                exact ⟨false, rfl, fun h => (by cases h), hP.fr⟩
              · refine RL_v rfl rfl (yd_eq false rfl rfl rfl (decide_eq_false (by omega))) ?_
                refine RL_v rfl rfl (yd_move rfl) ?_
                refine RL_gv rfl rfl (yd_move rfl) ?_
                refine RL_gv rfl rfl (yd_len rfl sl_22 rfl) ?_
                refine RL_gv rfl rfl (yd_move rfl) ?_
                refine RL_gv rfl rfl (yd_add64 rfl rfl rfl (by omega)) ?_
                by_cases h7 : rest.length < 17 + T.idx 16
                · refine RL_gv rfl rfl (yd_lt true rfl rfl rfl (decide_eq_true (by omega))) ?_
                  refine RL_v rfl rfl (yd_pick rfl rfl) ?_
                  refine RL_nil ?_
                  refine hK25 _ _ ?_
                  refine CW_t rfl ?_
                  refine CW_seq fun K27 hK27 => ?_
                  refine CW_region rfl ?_
                  refine RL_v rfl rfl (yd_assign rfl) ?_
                  refine RL_nil ?_
                  refine hK27 _ _ ?_
                  refine CW_ret ?_
                  refine hK _ _ ?_
                  exact ⟨false, rfl, fun h => (by cases h), hP.fr⟩
                · refine RL_gv rfl rfl (yd_lt false rfl rfl rfl (decide_eq_false (by omega))) ?_
                  refine RL_v rfl rfl (yd_pick rfl rfl) ?_
                  refine RL_nil ?_
                  refine hK25 _ _ ?_
                  refine CW_f rfl ?_
                  refine CW_skip ?_
                  refine hK24 _ _ ?_
                  refine CW_seq fun K28 hK28 => ?_
                  refine CW_region rfl ?_
                  have hsl : T.syms.length = T.idx 16 := by rw [hsyms, List.length_take, List.length_drop]; omega
                  obtain ⟨Sn, hSne⟩ : ∃ q, q = w.heap.size := ⟨_, rfl⟩
                  have hSn1 : L ≤ Sn := by rw [hSne]; exact hP.l1
                  have hSn2 : Tb < Sn := by rw [hSne]; exact hA.lt
                  refine RL_alloc (fun w' => KP w0 w' E L b (.cells c0 TS fr) M1 ∧ ArrP w'.heap Tb 52 18 (tabF T 16 (.slice none 0 0)) ∧ ArrP w'.heap Sn 69 256 (seenF (T.syms.take 0)) ∧ Sn < w'.heap.size) rfl rfl rfl zr_69 ⟨hP.step ((Fr.refl _ _).alloc _), hA.of_eq (alloc_old hA.lt), ⟨_, by rw [hSne]; exact alloc_get, rfl, fun i hi => ?_⟩, by rw [alloc_size]; omega⟩ ?_
                  · have h1 : (Value.agg (Array.replicate 256 (.bool false))).cells = Array.replicate 256 (.bool false) := rfl
                    rw [h1, Array.getElem?_replicate, if_pos hi]; unfold seenF; rw [List.take_zero]; rfl
                  clear hP hA
                  rintro w ⟨hP, hA, hSn, hSl⟩
                  rw [← hSne]
                  clear hSne
                  obtain ⟨B0, hB0⟩ : ∃ q, q = w.heap.size := ⟨_, rfl⟩
                  have hB1 : Sn < B0 := by rw [hB0]; exact hSl
                  have hB2 : B0 ≤ w.heap.size := by omega
                  clear hB0 hSl
                  refine RL_nil ?_
                  refine hK28 _ _ ?_
                  refine CW_seq fun K29 hK29 => ?_
                  refine CW_seq fun K30 hK30 => ?_
                  refine CW_region rfl ?_
                  refine RL_v rfl rfl (yd_move rfl) ?_
                  refine RL_v rfl rfl (yd_move rfl) ?_
                  refine RL_v rfl rfl (yd_add64 rfl rfl rfl (by omega)) ?_
                  refine RL_v rfl rfl (yd_slice_lohi rfl sl_22 rfl rfl rfl 17 (17 + T.idx 16) rfl (by omega) (by omega) (by omega)) ?_
                  refine RL_v rfl rfl (yd_len rfl sl_22 rfl) ?_
                  refine RL_v rfl rfl (yd_move rfl) ?_
                  refine RL_nil ?_
                  refine hK30 _ _ ?_
                  refine CW_block ?_
                  refine CW_loop (n := T.idx 16) (fun σ w N => ∃ (k : Nat) (v : Value), AtS σ [(0, .pointer (some ⟨E, 0, none⟩)), (1, .slice (some ⟨b, p, none⟩) rest.length ca), (5, .int .i64 ((tc : Nat) : Int)), (6, .int .i64 ((th : Nat) : Int)), (7, .pointer (some ⟨Tb, 0, none⟩)), (9, .int .i64 ((T.idx 16 : Nat) : Int)), (11, .pointer (some ⟨Sn, 0, none⟩)), (85, .slice (some ⟨b, p + 17, none⟩) (T.idx 16) (ca - 17)), (86, .int .i64 ((T.idx 16 : Nat) : Int)), (87, .int .i64 ((k : Nat) : Int))] ∧ k ≤ T.idx 16 ∧ (T.syms.take k).Nodup ∧ (KP w0 w E L b (.cells c0 TS fr) M1 ∧ ArrP w.heap Tb 52 18 (tabF T 16 v) ∧ ArrP w.heap Sn 69 256 (seenF (T.syms.take k)) ∧ Own w B0 3 v ((T.syms.take k).map i64v)) ∧ B0 ≤ w.heap.size ∧ N = T.idx 16 - k) ?_ ?_
                  · exact ⟨0, .slice none 0 0, ⟨rfl, rfl, rfl, rfl, rfl, rfl, rfl, by show Value.slice (some ⟨b, if ca = 17 then p else p + 17, none⟩) (17 + T.idx 16 - 17) (ca - 17) = _; rw [if_neg (by omega), Nat.add_sub_cancel_left], congrArg (Value.int .i64) (by omega), rfl, trivial⟩, by omega, by simp, ⟨hP, hA, hSn, by rw [List.take_zero]; exact Own.nil _ _ _⟩, hB2, rfl⟩
                  · intro σ w N hI K31 hK31
                    clear hP hA hSn hB2
                    obtain ⟨k, v, hσ, hkle, hnd, ⟨hP, hA, hSn, hown⟩, hB2, hNN⟩ := hI
                    subst hNN
                    refine CW_at hσ ?_
                    refine CW_seq fun K32 hK32 => ?_
                    refine CW_region rfl ?_
                    by_cases hk : k < T.idx 16
                    · refine RL_v rfl rfl (yd_lt true rfl rfl rfl (decide_eq_true (by omega))) ?_
                      refine RL_nil ?_
                      refine hK32 _ _ ?_
                      refine CW_seq fun K33 hK33 => ?_
                      refine CW_t rfl ?_
                      refine CW_skip ?_
                      refine hK33 _ _ ?_
                      refine CW_seq fun K34 hK34 => ?_
                      refine CW_block ?_
                      refine CW_seq fun K35 hK35 => ?_
                      refine CW_region rfl ?_
                      obtain ⟨y, hyk0⟩ : ∃ y, T.syms[k]? = some y := ⟨_, List.getElem?_eq_getElem (by omega)⟩
                      have hyk : rest[17 + k]? = some y := by
                        rw [hsyms, List.getElem?_take, if_pos hk, List.getElem?_drop] at hyk0; exact hyk0
                      have hy256 : y < 256 := hy y (List.mem_of_getElem? hyk)
                      have htk : T.syms.take (k + 1) = T.syms.take k ++ [y] := by rw [List.take_add_one, hyk0]; rfl
                      refine RL_v rfl rfl (yd_ixs rfl sl_22 rfl rfl (k) (rfl) (by omega)) ?_
                      refine RL_v rfl rfl (yd_load rfl sc_5 rfl ((cell_of_blk hP.src).trans (by rw [Nat.add_assoc]; exact hcs _ _ hyk))) ?_
                      refine RL_v rfl rfl (yd_assign rfl) ?_
                      refine RL_nil ?_
                      refine hK35 _ _ ?_
                      refine CW_seq fun K36 hK36 => ?_
                      refine CW_seq fun K37 hK37 => ?_
                      refine CW_region rfl ?_
                      refine RL_v rfl rfl (yd_move rfl) ?_
                      refine RL_v rfl rfl (yd_ix1 rfl at_69 rfl rfl (y) (rfl) (by omega)) ?_
                      by_cases hmem : y ∈ T.syms.take k
                      · refine RL_v rfl rfl (yd_load rfl sc_4 rfl (hSn.ld0 (i := y) (by omega) (congrArg Value.bool (decide_eq_true hmem)))) ?_
                        refine RL_v rfl rfl (yd_move rfl) ?_
                        refine RL_skip rfl rfl ?_
                        refine RL_skip rfl rfl ?_
                        refine RL_skip rfl rfl ?_
                        refine RL_skip rfl rfl ?_
                        refine RL_skip rfl rfl ?_
                        refine RL_skip rfl rfl ?_
                        refine RL_v rfl rfl (yd_pick rfl rfl) ?_
                        refine RL_v rfl rfl (yd_move rfl) ?_
                        refine RL_skip rfl rfl ?_
                        refine RL_skip rfl rfl ?_
                        refine RL_skip rfl rfl ?_
                        refine RL_skip rfl rfl ?_
                        refine RL_skip rfl rfl ?_
                        refine RL_skip rfl rfl ?_
                        refine RL_skip rfl rfl ?_
                        refine RL_v rfl rfl (yd_pick rfl rfl) ?_
                        refine RL_nil ?_
                        refine hK37 _ _ ?_
                        refine CW_t rfl ?_
                        refine CW_seq fun K38 hK38 => ?_
                        refine CW_region rfl ?_
                        refine RL_v rfl rfl (yd_assign rfl) ?_
                        refine RL_nil ?_
                        refine hK38 _ _ ?_
                        refine CW_ret ?_
                        refine hK _ _ ?_
                        exact ⟨false, rfl, fun h => (by cases h), hP.fr⟩
                      · refine RL_v rfl rfl (yd_load rfl sc_4 rfl (hSn.ld0 (i := y) (by omega) (congrArg Value.bool (decide_eq_false hmem)))) ?_
                        refine RL_v rfl rfl (yd_move rfl) ?_
                        refine RL_gv rfl rfl (yd_move rfl) ?_
                        by_cases ht0 : tc = 0
                        · refine RL_gv rfl rfl (yd_eq true rfl rfl rfl (decide_eq_true (by omega))) ?_
                          refine RL_gv rfl rfl (yd_move rfl) ?_
                          refine RL_gv rfl rfl (yd_move rfl) ?_
                          by_cases hy11 : 11 < y
                          · refine RL_gv rfl rfl (yd_gt true rfl rfl rfl (decide_eq_true (by omega))) ?_
                            refine RL_gv rfl rfl (yd_pick rfl rfl) ?_
                            refine RL_v rfl rfl (yd_pick rfl rfl) ?_
                            refine RL_v rfl rfl (yd_move rfl) ?_
                            refine RL_skip rfl rfl ?_
                            refine RL_skip rfl rfl ?_
                            refine RL_skip rfl rfl ?_
                            refine RL_skip rfl rfl ?_
                            refine RL_skip rfl rfl ?_
                            refine RL_skip rfl rfl ?_
                            refine RL_skip rfl rfl ?_
                            refine RL_v rfl rfl (yd_pick rfl rfl) ?_
                            refine RL_nil ?_
                            refine hK37 _ _ ?_
                            refine CW_t rfl ?_
                            refine CW_seq fun K39 hK39 => ?_
                            refine CW_region rfl ?_
                            refine RL_v rfl rfl (yd_assign rfl) ?_
                            refine RL_nil ?_
                            refine hK39 _ _ ?_
                            refine CW_ret ?_
                            refine hK _ _ ?_
                            exact ⟨false, rfl, fun h => (by cases h), hP.fr⟩
                          · refine RL_gv rfl rfl (yd_gt false rfl rfl rfl (decide_eq_false (by omega))) ?_
                            refine RL_gv rfl rfl (yd_pick rfl rfl) ?_
                            refine RL_v rfl rfl (yd_pick rfl rfl) ?_
                            refine RL_v rfl rfl (yd_move rfl) ?_
                            refine RL_gv rfl rfl (yd_move rfl) ?_
                            refine RL_gv rfl rfl (yd_eq false rfl rfl rfl (decide_eq_false (by omega))) ?_
                            refine RL_gv rfl rfl (yd_move rfl) ?_
                            refine RL_skip rfl rfl ?_
                            refine RL_skip rfl rfl ?_
                            refine RL_skip rfl rfl ?_
                            refine RL_gv rfl rfl (yd_pick rfl rfl) ?_
                            refine RL_v rfl rfl (yd_pick rfl rfl) ?_
                            refine RL_nil ?_
                            refine hK37 _ _ ?_
                            refine CW_f rfl ?_
                            refine CW_skip ?_
                            refine hK36 _ _ ?_
                            refine CW_seq fun K40 hK40 => ?_
                            refine CW_region rfl ?_
                            refine RL_v rfl rfl (yd_move rfl) ?_
                            refine RL_v rfl rfl (yd_ix1 rfl at_69 rfl rfl (y) (rfl) (by omega)) ?_
                            refine RL_storeW (fun w' => KP w0 w' E L b (.cells c0 TS fr) M1 ∧ ArrP w'.heap Tb 52 18 (tabF T 16 v) ∧ ArrP w'.heap Sn 69 256 (seenF (T.syms.take (k + 1))) ∧ Own w' B0 3 v ((T.syms.take k).map i64v) ∧ B0 ≤ w'.heap.size) rfl rfl rfl sz_4 rfl rfl rfl (hSn.ld0 (i := y) (by omega) rfl) (hSn.fz) (⟨hP.step ((Fr.refl _ _).set (fun _ => by omega) _), hA.set_ne (by omega) _, hSn.set0 (i := y) (by omega) (by unfold seenF; rw [htk]; simp; rfl) (fun x _ hx => by unfold seenF; rw [htk]; simp [hx]), hown.of_eq (fun q hq _ _ => set_blk_ne (by omega) _), by simpa [World.setCell] using hB2⟩) ?_
                            clear hP hA hSn hown hB2
                            rintro w ⟨hP, hA, hSn, hown, hB2⟩
                            refine RL_nil ?_
                            refine hK40 _ _ ?_
                            refine CW_region rfl ?_
                            refine RL_v rfl rfl (yd_field rfl ft_52_1 rfl) ?_
                            refine RL_v rfl rfl (yd_load rfl sc_29 rfl (hA.ld0 (i := 17) (by decide) rfl)) ?_
                            refine RL_v rfl rfl (yd_move rfl) ?_
                            refine RL_v rfl rfl (yd_conv rfl so_5 it_3 rfl ((y : Nat) : Int) (IntWalk.i64_in _ (by omega))) ?_
                            obtain ⟨q, hq⟩ : ∃ q, q = w.heap.size := ⟨_, rfl⟩
                            refine RL_slice1 (fun w' => KP w0 w' E L b (.cells c0 TS fr) M1 ∧ ArrP w'.heap Tb 52 18 (tabF T 16 v) ∧ ArrP w'.heap Sn 69 256 (seenF (T.syms.take (k + 1))) ∧ Own w' B0 3 v ((T.syms.take k).map i64v) ∧ B0 ≤ w'.heap.size ∧ w'.cell? ⟨q, 0 + 0, none⟩ = some (i64v y)) rfl rfl rfl Tryd.underlying29 si_3 zr_3 rfl rfl rfl
                              ⟨hP.step ((Fr.refl _ _).alloc _), hA.of_eq (alloc_old hA.lt), hSn.of_eq (alloc_old hSn.lt), hown.of_eq (fun k _ hk _ => alloc_old hk), by rw [alloc_size]; omega, by rw [hq, cell_of_blk alloc_get]; rfl⟩ ?_
                            clear hP hA hSn hown hB2
                            rintro w ⟨hP, hA, hSn, hown, hB2, hcl⟩
                            rw [← hq]
                            clear hq
                            refine RL_append (base := B0) (news := [i64v y]) rfl rfl rfl Tryd.underlying29 si_3 zr_3 rfl rfl rfl hown rfl (fun j u hj => ?_) (fun u hu => by rw [List.mem_singleton] at hu; subst hu; rfl) (by rw [List.length_map, List.length_take]; omega) (by rw [List.length_map, List.length_take]; omega) hB2 ?_
                            · cases j with
                              | zero => simp at hj; subst hj; exact hcl
                              | succ j => simp at hj
                            rintro v2 w2 hown2 hgr
                            have hlt := fun k hk => hown.lt k hk
                            replace hP := hP.step (Fr.grown2 hgr (fun k hk => by have := hlt k hk; omega))
                            replace hA := hA.of_eq (hgr.block _ hA.lt (fun e => by have := hlt _ e.symm; omega))
                            replace hSn := hSn.of_eq (hgr.block _ hSn.lt (fun e => by have := hlt _ e.symm; omega))
                            replace hB2 : B0 ≤ w2.heap.size := Nat.le_trans hB2 hgr.size
                            rw [← List.map_singleton (f := i64v), ← List.map_append, ← htk] at hown2
                            clear hown hgr hlt hcl
                            refine RL_v rfl rfl (yd_field rfl ft_52_1 rfl) ?_
                            refine RL_storeW (fun w' => KP w0 w' E L b (.cells c0 TS fr) M1 ∧ ArrP w'.heap Tb 52 18 (tabF T 16 v2) ∧ ArrP w'.heap Sn 69 256 (seenF (T.syms.take (k + 1))) ∧ Own w' B0 3 v2 ((T.syms.take (k + 1)).map i64v) ∧ B0 ≤ w'.heap.size) rfl rfl rfl sz_29 rfl rfl hown2.one (hA.ld0 (i := 17) (by decide) rfl) (hA.fz) (⟨hP.step ((Fr.refl _ _).set (fun _ => by omega) _), hA.set0 (i := 17) (by decide) rfl (fun i _ hi => tabF_v T _ _ hi), hSn.set_ne (by omega) _, hown2.of_eq (fun q hq _ _ => set_blk_ne (by omega) _), by simpa [World.setCell] using hB2⟩) ?_
                            clear hP hA hSn hown2 hB2
                            rintro w ⟨hP, hA, hSn, hown, hB2⟩
                            refine RL_nil ?_
                            refine hK34 _ _ ?_
                            refine CW_region rfl ?_
                            refine RL_v rfl rfl (yd_add64 rfl rfl rfl (by omega)) ?_
                            refine RL_v rfl rfl (yd_move rfl) ?_
                            refine RL_nil ?_
                            refine hK31 _ _ ?_
                            exact ⟨T.idx 16 - (k + 1), by omega, k + 1, v2, ⟨rfl, rfl, rfl, rfl, rfl, rfl, rfl, rfl, rfl, rfl, trivial⟩, by omega, by rw [htk]; exact List.nodup_append.2 ⟨hnd, by simp, fun a ha c hc => by simp at hc; subst hc; intro e; subst e; exact hmem ha⟩, ⟨hP, hA, hSn, hown⟩, hB2, rfl⟩
                        · refine RL_gv rfl rfl (yd_eq false rfl rfl rfl (decide_eq_false (by omega))) ?_
                          refine RL_gv rfl rfl (yd_move rfl) ?_
                          refine RL_skip rfl rfl ?_
                          refine RL_skip rfl rfl ?_
                          refine RL_gv rfl rfl (yd_pick rfl rfl) ?_
                          refine RL_v rfl rfl (yd_pick rfl rfl) ?_
                          refine RL_v rfl rfl (yd_move rfl) ?_
                          refine RL_gv rfl rfl (yd_move rfl) ?_
                          refine RL_gv rfl rfl (yd_eq true rfl rfl rfl (decide_eq_true (by omega))) ?_
                          refine RL_gv rfl rfl (yd_move rfl) ?_
                          refine RL_gv rfl rfl (yd_move rfl) ?_
                          refine RL_gv rfl rfl (yd_and rfl rfl rfl ((y % 16 : Nat) : Int) (and15_u8 y hy256)) ?_
                          by_cases hy10 : 10 < y % 16
                          · refine RL_gv rfl rfl (yd_gt true rfl rfl rfl (decide_eq_true (by omega))) ?_
                            refine RL_gv rfl rfl (yd_pick rfl rfl) ?_
                            refine RL_v rfl rfl (yd_pick rfl rfl) ?_
                            refine RL_nil ?_
                            refine hK37 _ _ ?_
                            refine CW_t rfl ?_
                            refine CW_seq fun K41 hK41 => ?_
                            refine CW_region rfl ?_
                            refine RL_v rfl rfl (yd_assign rfl) ?_
                            refine RL_nil ?_
                            refine hK41 _ _ ?_
                            refine CW_ret ?_
                            refine hK _ _ ?_
                            exact ⟨false, rfl, fun h => (by cases h), hP.fr⟩
                          · refine RL_gv rfl rfl (yd_gt false rfl rfl rfl (decide_eq_false (by omega))) ?_
                            refine RL_gv rfl rfl (yd_pick rfl rfl) ?_
                            refine RL_v rfl rfl (yd_pick rfl rfl) ?_
                            refine RL_nil ?_
                            refine hK37 _ _ ?_
                            refine CW_f rfl ?_
                            refine CW_skip ?_
                            refine hK36 _ _ ?_
                            refine CW_seq fun K42 hK42 => ?_
                            refine CW_region rfl ?_
                            refine RL_v rfl rfl (yd_move rfl) ?_
                            refine RL_v rfl rfl (yd_ix1 rfl at_69 rfl rfl (y) (rfl) (by omega)) ?_
                            refine RL_storeW (fun w' => KP w0 w' E L b (.cells c0 TS fr) M1 ∧ ArrP w'.heap Tb 52 18 (tabF T 16 v) ∧ ArrP w'.heap Sn 69 256 (seenF (T.syms.take (k + 1))) ∧ Own w' B0 3 v ((T.syms.take k).map i64v) ∧ B0 ≤ w'.heap.size) rfl rfl rfl sz_4 rfl rfl rfl (hSn.ld0 (i := y) (by omega) rfl) (hSn.fz) (⟨hP.step ((Fr.refl _ _).set (fun _ => by omega) _), hA.set_ne (by omega) _, hSn.set0 (i := y) (by omega) (by unfold seenF; rw [htk]; simp; rfl) (fun x _ hx => by unfold seenF; rw [htk]; simp [hx]), hown.of_eq (fun q hq _ _ => set_blk_ne (by omega) _), by simpa [World.setCell] using hB2⟩) ?_
                            clear hP hA hSn hown hB2
                            rintro w ⟨hP, hA, hSn, hown, hB2⟩
                            refine RL_nil ?_
                            refine hK42 _ _ ?_
                            refine CW_region rfl ?_
                            refine RL_v rfl rfl (yd_field rfl ft_52_1 rfl) ?_
                            refine RL_v rfl rfl (yd_load rfl sc_29 rfl (hA.ld0 (i := 17) (by decide) rfl)) ?_
                            refine RL_v rfl rfl (yd_move rfl) ?_
                            refine RL_v rfl rfl (yd_conv rfl so_5 it_3 rfl ((y : Nat) : Int) (IntWalk.i64_in _ (by omega))) ?_
                            obtain ⟨q, hq⟩ : ∃ q, q = w.heap.size := ⟨_, rfl⟩
                            refine RL_slice1 (fun w' => KP w0 w' E L b (.cells c0 TS fr) M1 ∧ ArrP w'.heap Tb 52 18 (tabF T 16 v) ∧ ArrP w'.heap Sn 69 256 (seenF (T.syms.take (k + 1))) ∧ Own w' B0 3 v ((T.syms.take k).map i64v) ∧ B0 ≤ w'.heap.size ∧ w'.cell? ⟨q, 0 + 0, none⟩ = some (i64v y)) rfl rfl rfl Tryd.underlying29 si_3 zr_3 rfl rfl rfl
                              ⟨hP.step ((Fr.refl _ _).alloc _), hA.of_eq (alloc_old hA.lt), hSn.of_eq (alloc_old hSn.lt), hown.of_eq (fun k _ hk _ => alloc_old hk), by rw [alloc_size]; omega, by rw [hq, cell_of_blk alloc_get]; rfl⟩ ?_
                            clear hP hA hSn hown hB2
                            rintro w ⟨hP, hA, hSn, hown, hB2, hcl⟩
                            rw [← hq]
                            clear hq
                            refine RL_append (base := B0) (news := [i64v y]) rfl rfl rfl Tryd.underlying29 si_3 zr_3 rfl rfl rfl hown rfl (fun j u hj => ?_) (fun u hu => by rw [List.mem_singleton] at hu; subst hu; rfl) (by rw [List.length_map, List.length_take]; omega) (by rw [List.length_map, List.length_take]; omega) hB2 ?_
                            · cases j with
                              | zero => simp at hj; subst hj; exact hcl
                              | succ j => simp at hj
                            rintro v2 w2 hown2 hgr
                            have hlt := fun k hk => hown.lt k hk
                            replace hP := hP.step (Fr.grown2 hgr (fun k hk => by have := hlt k hk; omega))
                            replace hA := hA.of_eq (hgr.block _ hA.lt (fun e => by have := hlt _ e.symm; omega))
                            replace hSn := hSn.of_eq (hgr.block _ hSn.lt (fun e => by have := hlt _ e.symm; omega))
                            replace hB2 : B0 ≤ w2.heap.size := Nat.le_trans hB2 hgr.size
                            rw [← List.map_singleton (f := i64v), ← List.map_append, ← htk] at hown2
                            clear hown hgr hlt hcl
                            refine RL_v rfl rfl (yd_field rfl ft_52_1 rfl) ?_
                            refine RL_storeW (fun w' => KP w0 w' E L b (.cells c0 TS fr) M1 ∧ ArrP w'.heap Tb 52 18 (tabF T 16 v2) ∧ ArrP w'.heap Sn 69 256 (seenF (T.syms.take (k + 1))) ∧ Own w' B0 3 v2 ((T.syms.take (k + 1)).map i64v) ∧ B0 ≤ w'.heap.size) rfl rfl rfl sz_29 rfl rfl hown2.one (hA.ld0 (i := 17) (by decide) rfl) (hA.fz) (⟨hP.step ((Fr.refl _ _).set (fun _ => by omega) _), hA.set0 (i := 17) (by decide) rfl (fun i _ hi => tabF_v T _ _ hi), hSn.set_ne (by omega) _, hown2.of_eq (fun q hq _ _ => set_blk_ne (by omega) _), by simpa [World.setCell] using hB2⟩) ?_
                            clear hP hA hSn hown2 hB2
                            rintro w ⟨hP, hA, hSn, hown, hB2⟩
                            refine RL_nil ?_
                            refine hK34 _ _ ?_
                            refine CW_region rfl ?_
                            refine RL_v rfl rfl (yd_add64 rfl rfl rfl (by omega)) ?_
                            refine RL_v rfl rfl (yd_move rfl) ?_
                            refine RL_nil ?_
                            refine hK31 _ _ ?_
                            exact ⟨T.idx 16 - (k + 1), by omega, k + 1, v2, ⟨rfl, rfl, rfl, rfl, rfl, rfl, rfl, rfl, rfl, rfl, trivial⟩, by omega, by rw [htk]; exact List.nodup_append.2 ⟨hnd, by simp, fun a ha c hc => by simp at hc; subst hc; intro e; subst e; exact hmem ha⟩, ⟨hP, hA, hSn, hown⟩, hB2, rfl⟩
                    · refine RL_v rfl rfl (yd_lt false rfl rfl rfl (decide_eq_false (by omega))) ?_
                      refine RL_nil ?_
                      refine hK32 _ _ ?_
                      refine CW_seq fun K43 hK43 => ?_
                      refine CW_f rfl ?_
                      refine CW_exit rfl ?_
                      refine hK29 _ _ ?_
                      refine CW_seq fun K44 hK44 => ?_
                      refine CW_draw 7 mixed (by kernel_rfl) rfl ?_
                      obtain rfl : k = T.idx 16 := by omega
                      have hle256 : T.idx 16 ≤ 256 := by
                        have := pigeon 256 _ hnd (fun x hx => hy x (List.mem_of_mem_drop (List.mem_of_mem_take (hsyms ▸ List.mem_of_mem_take hx))))
                        rw [List.length_take] at this; omega
                      refine RD_v rfl rfl (yd_move rfl) ?_
                      refine RD_v rfl rfl (yd_move rfl) ?_
                      refine RD_v rfl rfl (yd_move rfl) ?_
                      refine RD_v rfl rfl (yd_load_agg (n := 18) rfl ag_52 sz_52 rfl ((List.range 18).map (tabF T 16 v)) (by simp) (fun k u hv => by
                          rw [List.getElem?_map, Option.map_eq_some_iff] at hv
                          obtain ⟨x, hx, rfl⟩ := hv
                          have hx18 : k < 18 := by
                            rcases Nat.lt_or_ge k 18 with h | h
                            · exact h
                            · rw [List.getElem?_eq_none (by rw [List.length_range]; exact h)] at hx; cases hx
                          rw [List.getElem?_range hx18] at hx; cases hx
                          exact hA.ld0 hx18 rfl)) ?_
                      refine RD_v rfl rfl (yd_nil rfl rfl) ?_
                      refine RD_v rfl rfl (yd_field rfl ft_57_4 rfl) ?_
                      refine RD_v rfl rfl (yd_ix rfl at_54 rfl rfl (tc) (rfl) (by omega)) ?_
                      refine RD_nil ?_
                      refine RL_v rfl rfl (yd_ix rfl at_53 rfl rfl (th) (rfl) (by omega)) ?_
                      obtain ⟨cE, hcE, hsz, h6c, hEL, htabs⟩ := id hP.ep
                      have hok : T.OK := ⟨by rw [hsl], by rw [hsl]; exact hle256, by rw [hsl]; omega, fun s hs => hy s (List.mem_of_mem_drop (List.mem_of_mem_take (hsyms ▸ hs)))⟩
                      have htake : T.syms.take (T.idx 16) = T.syms := List.take_of_length_le (by omega)
                      rw [htake] at hown
                      rcases hown.cells' with ⟨_, hnil⟩ | ⟨g, cap, rfl, hgB, hgc⟩
                      · have h0 : T.syms = [] := List.map_eq_nil_iff.1 hnil
                        rw [h0, List.length_nil] at hsl; omega
                      have hgl : g < w.heap.size := by
                        have := hown.lt g rfl
                        exact this.2
                      refine RL_storeAgg (fun w' => w'.heap[b]? = some (.cells c0 TS fr) ∧ EP w'.heap E w.heap.size (updM M1 (tc) (th) T) ∧ w.heap.size ≤ w'.heap.size ∧ Fr (fun k => k = E) w0 w') (p := 264 + tc * 72 + th * 18) rfl rfl rfl sz_52 rfl (vs := (List.range 18).map (tabF T 16 (.slice (some ⟨g, 0, none⟩) (T.syms.map i64v).length cap))) rfl (by simp) hcE (by omega) (fun u hu => tabs_one u hu) (hP.put rfl (by omega) (by omega) hok (by rw [List.length_map]) hgl (by omega) hgc) ?_
                      rintro w3 ⟨hsrc, hEP, hL3, hF⟩
                      refine RL_nil ?_
                      refine hK44 _ _ ?_
                      refine CW_region rfl ?_
                      refine RL_v rfl rfl (yd_move rfl) ?_
                      refine RL_v rfl rfl (yd_move rfl) ?_
                      refine RL_v rfl rfl (yd_add64 rfl rfl rfl (by omega)) ?_
                      refine RL_v rfl rfl (yd_slice_lo rfl sl_22 rfl rfl (17 + T.idx 16) (by omega) (by omega)) ?_
                      refine RL_v rfl rfl (yd_assign rfl) ?_
                      refine RL_nil ?_
                      refine hK3 _ _ ?_
                      refine ⟨(rest.drop (17 + T.idx 16)).length, by rw [List.length_drop]; omega, rest.drop (17 + T.idx 16), updM M1 (tc) (th) T, _, _, w.heap.size, ⟨rfl, by rw [List.length_drop]; rfl, trivial⟩, by rw [List.length_drop]; omega, fun M' hM' => hdone M' ?_, SrcH.drop (.inr ⟨b, p, c0, TS, fr, rfl, hsrc, hcs⟩) hca, fun _ b' p' e => ?_, fun y hy' => hy y (List.mem_of_mem_drop hy'), by rw [List.length_drop]; omega, hEP, hL3, hF, rfl⟩
                      · rw [rest_split hsyms]
                        exact Dht.cons (goodHd_of' htc hth hx0 h17 hcf hy (by omega) (by omega) hkr hok) hM'
                      · injection e with e; injection e with e1 e2; have := hP.bE; omega
    · refine RL_v rfl rfl (yd_ge false rfl rfl rfl (decide_eq_false (by omega))) ?_
      refine RL_nil ?_
      refine hK5 _ _ ?_
      refine CW_f rfl ?_
      refine CW_exit rfl ?_
      refine hK2 _ _ ?_
      refine CW_seq fun K45 hK45 => ?_
      refine CW_region rfl ?_
      refine RL_v rfl rfl (yd_move rfl) ?_
      refine RL_v rfl rfl (yd_len rfl sl_22 rfl) ?_
      refine RL_v rfl rfl (yd_eq (decide (rest.length = 0)) rfl rfl rfl (by by_cases h : rest.length = 0 <;> simp [h])) ?_
      refine RL_v rfl rfl (yd_assign rfl) ?_
      refine RL_nil ?_
      refine hK45 _ _ ?_
      refine CW_ret ?_
      refine hK _ _ ?_
      exact ⟨decide (rest.length = 0), rfl, fun h => ⟨M1, L, hdone M1 (List.eq_nil_of_length_eq_zero (of_decide_eq_true h) ▸ Dht.nil _), hEP, hL⟩, hF⟩

end Go.Proofs.YtdjilplpbaackaaDoor.Eng
