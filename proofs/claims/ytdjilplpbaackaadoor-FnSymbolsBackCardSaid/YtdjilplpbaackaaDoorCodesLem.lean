/- The oracle's decoder: its tables, plainly. -/
import Derived.Test.YtdjilplpbaackaaDoorSSym
set_option linter.unusedVariables false
set_option linter.unusedSimpArgs false
namespace Go.Proofs.YtdjilplpbaackaaDoor.Eng
open Go

theorem pigeon : ∀ (n : Nat) (l : List Nat), l.Nodup → (∀ x ∈ l, x < n) → l.length ≤ n
  | 0, l, _, h => by
    cases l with
    | nil => simp
    | cons a l => exact absurd (h a (List.mem_cons_self ..)) (Nat.not_lt_zero a)
  | n + 1, l, hn, h => by
    by_cases hm : n ∈ l
    · have := pigeon n (l.erase n) (hn.erase n) (fun x hx => by
        have h1 := (hn.mem_erase_iff).1 hx
        have := h x h1.2
        have := h1.1
        omega)
      rw [List.length_erase_of_mem hm] at this
      have := List.length_pos_of_mem hm
      omega
    · have := pigeon n l hn (fun x hx => by
        have := h x hx
        have : x ≠ n := fun e => hm (e ▸ hx)
        omega)
      omega
def i64v (x : Nat) : Value := .int .i64 x
theorem SrcH.drop {H : Array Obj} {b p cc i : Nat} {xs : List Nat} (h : SrcH H (some ⟨b, p, none⟩) xs) (hc : xs.length ≤ cc) : SrcH H (some ⟨b, if cc = i then p else p + i, none⟩) (xs.drop i) := by
  rcases h with rfl | ⟨b', p', c, T, fr, e, hb, hcs⟩
  · exact .inl (by simp)
  · cases e
    by_cases hi : cc = i
    · exact .inl (List.drop_eq_nil_of_le (by omega))
    · rw [if_neg hi]
      refine .inr ⟨b, p + i, c, T, fr, rfl, hb, fun k x hx => ?_⟩
      rw [List.getElem?_drop] at hx
      rw [Nat.add_assoc]; exact hcs _ _ hx
theorem SrcH.take {H : Array Obj} {sa : Option Addr} {xs : List Nat} {n : Nat} (h : SrcH H sa xs) : SrcH H sa (xs.take n) := by
  rcases h with rfl | ⟨b, p, c, T, fr, e, hb, hcs⟩
  · exact .inl (by simp)
  · refine .inr ⟨b, p, c, T, fr, e, hb, fun k x hx => ?_⟩
    rw [List.getElem?_take] at hx
    split at hx
    · exact hcs _ _ hx
    · cases hx
/-- One table in the oracle's cells from off on. -/
def TabC (c : Array Value) (H : Array Obj) (off E L : Nat) : Option Tab → Prop
  | some T => T.OK ∧ (∀ i, i < 16 → c[off + (i + 1)]? = some (.int .i64 (T.counts i : Nat))) ∧ ∃ g cap, (E < g ∧ g < L) ∧ c[off + 17]? = some (.slice (some ⟨g, 0, none⟩) T.syms.length cap) ∧ ∀ k s, T.syms[k]? = some s → cellOf H g (0 + k) = some (.int .i64 (s : Nat))
  | none => c[off + 17]? = some (.slice none 0 0)
/-- The oracle's decoder at E, with its tables as M says; all that it reads lies below L. -/
def EP (H : Array Obj) (E L : Nat) (M : TabM) : Prop :=
  ∃ c, H[E]? = some (.cells c 57 (0, 0)) ∧ 408 ≤ c.size ∧ c[6]? = some (.int .i64 0) ∧ E < L ∧ ∀ tc th, tc ≤ 1 → th ≤ 3 → TabC c H (264 + tc * 72 + th * 18) E L (M tc th)
theorem TabC.keep {c : Array Value} {H H' : Array Obj} {off E L L' : Nat} {o : Option Tab} (h : TabC c H off E L o) (hL : L ≤ L') (hk : ∀ k, k < L → H'[k]? = H[k]?) : TabC c H' off E L' o := by
  cases o with
  | none => exact h
  | some T =>
    obtain ⟨h1, h2, g, cap, h3, h4, h5⟩ := h
    refine ⟨h1, h2, g, cap, ⟨h3.1, by omega⟩, h4, fun k s hks => ?_⟩
    have := h5 k s hks
    unfold cellOf at *
    rw [hk g h3.2]; exact this
theorem EP.keep {H H' : Array Obj} {E L L' : Nat} {M : TabM} (h : EP H E L M) (hL : L ≤ L') (hk : ∀ k, k < L → H'[k]? = H[k]?) : EP H' E L' M := by
  obtain ⟨c, h1, h2, h3, h4, h5⟩ := h
  exact ⟨c, (hk E h4).trans h1, h2, h3, by omega, fun tc th a b => (h5 tc th a b).keep hL hk⟩
theorem EP.ld6 {w : World} {E L : Nat} {M : TabM} (h : EP w.heap E L M) : w.cell? ⟨E, 6, none⟩ = some (.int .i64 0) := by
  obtain ⟨c, h1, h2, h3, h4, h5⟩ := h; rw [cell_of_blk h1]; exact h3
theorem EP.get {H : Array Obj} {E L tc th : Nat} {M : TabM} {T : Tab} (h : EP H E L M) (htc : tc ≤ 1) (hth : th ≤ 3) (hM : M tc th = some T) : TabP H E (264 + tc * 72 + th * 18) L T := by
  obtain ⟨c, h1, h2, h3, h4, h5⟩ := h
  have := h5 tc th htc hth
  rw [hM] at this
  obtain ⟨k1, k2, g, cap, k3, k4, k5⟩ := this
  have hc : ∀ p, cellOf H E p = c[p]? := fun p => by unfold cellOf; rw [h1]
  exact ⟨k1, h4, fun i hi => (hc _).trans (k2 i hi), g, cap, k3.2, (hc _).trans k4, k5⟩
theorem EP.len {H : Array Obj} {E L tc th : Nat} {M : TabM} (h : EP H E L M) (htc : tc ≤ 1) (hth : th ≤ 3) : ∃ a n cap, cellOf H E (264 + tc * 72 + th * 18 + 17) = some (.slice a n cap) ∧ (n = 0 ↔ M tc th = none) := by
  obtain ⟨c, h1, h2, h3, h4, h5⟩ := h
  have := h5 tc th htc hth
  have hc : ∀ p, cellOf H E p = c[p]? := fun p => by unfold cellOf; rw [h1]
  cases hM : M tc th with
  | none => rw [hM] at this; exact ⟨none, 0, 0, (hc _).trans this, by simp⟩
  | some T =>
    rw [hM] at this
    obtain ⟨k1, k2, g, cap, k3, k4, k5⟩ := this
    have := k1.pos
    exact ⟨_, _, _, (hc _).trans k4, ⟨fun h => by omega, fun h => by cases h⟩⟩
/-- A table stored whole. -/
theorem EP.put {w : World} {E L tc th : Nat} {M : TabM} {T : Tab} {vs : List Value} (h : EP w.heap E L M) (htc : tc ≤ 1) (hth : th ≤ 3) (hok : T.OK) (hlen : vs.length = 18) (hc : ∀ i, i < 16 → vs[i + 1]? = some (.int .i64 (T.counts i : Nat)))
    {g cap : Nat} (hg : g < L) (hgE : E < g) (hv : vs[17]? = some (.slice (some ⟨g, 0, none⟩) T.syms.length cap)) (hs : ∀ k s, T.syms[k]? = some s → cellOf w.heap g (0 + k) = some (.int .i64 (s : Nat))) :
    EP (setCells w E (264 + tc * 72 + th * 18) vs).heap E L (updM M tc th T) := by
  obtain ⟨c, h1, h2, h3, h4, h5⟩ := h
  obtain ⟨c', k1, k2, k3⟩ := setCells_blk vs (264 + tc * 72 + th * 18) w c 57 (0, 0) h1 (by omega)
  have hne : ∀ k, k ≠ E → (setCells w E (264 + tc * 72 + th * 18) vs).heap[k]? = w.heap[k]? := fun k hk => setCells_ne hk _ _ _
  have hcell : ∀ k p, k ≠ E → cellOf (setCells w E (264 + tc * 72 + th * 18) vs).heap k p = cellOf w.heap k p := fun k p hk => by unfold cellOf; rw [hne k hk]
  have hcE : ∀ p, cellOf w.heap E p = c[p]? := fun p => by unfold cellOf; rw [h1]
  refine ⟨c', k1, by omega, ?_, h4, fun a b ha hb => ?_⟩
  · rw [k3]; unfold putRow; rw [if_neg (by omega)]; exact h3
  · unfold updM
    by_cases he : a = tc ∧ b = th
    · rw [if_pos he, he.1, he.2]
      refine ⟨hok, fun i hi => ?_, g, cap, ⟨hgE, hg⟩, ?_, fun k s hk => (hcell _ _ (Nat.ne_of_gt hgE)).trans (hs k s hk)⟩
      · rw [k3]; unfold putRow; rw [if_pos (by omega), show 264 + tc * 72 + th * 18 + (i + 1) - (264 + tc * 72 + th * 18) = i + 1 by omega]; exact hc i hi
      · rw [k3]; unfold putRow; rw [if_pos (by omega), show 264 + tc * 72 + th * 18 + 17 - (264 + tc * 72 + th * 18) = 17 by omega]; exact hv
    · rw [if_neg he]
      have hout : ∀ i, i < 18 → c'[264 + a * 72 + b * 18 + i]? = c[264 + a * 72 + b * 18 + i]? := by
        intro i hi
        rw [k3]; unfold putRow
        rw [if_neg]
        intro ⟨x1, x2⟩
        rw [hlen] at x2
        rcases Nat.lt_trichotomy a tc with h | h | h
        · omega
        · rcases Nat.lt_trichotomy b th with h' | h' | h'
          · omega
          · exact he ⟨h, h'⟩
          · omega
        · omega
      have := h5 a b ha hb
      cases hM : M a b with
      | none => rw [hM] at this; exact (hout 17 (by decide)).trans this
      | some T' =>
        rw [hM] at this
        obtain ⟨m1, m2, g', cap', m3, m4, m5⟩ := this
        refine ⟨m1, fun i hi => (hout (i + 1) (by omega)).trans (m2 i hi), g', cap', m3, (hout 17 (by decide)).trans m4, fun k s hk => (hcell _ _ (Nat.ne_of_gt m3.1)).trans (m5 k s hk)⟩
namespace Tab
theorem idx_congr {T T' : Tab} (h : T.counts = T'.counts) : ∀ i, T.idx i = T'.idx i
  | 0 => rfl
  | i + 1 => by simp only [idx, idx_congr h i, h]
end Tab
theorem tab_of (rest : List Nat) : ∃ T : Tab, (∀ i, T.counts i = rest.getD (i + 1) 0) ∧ T.syms = (rest.drop 17).take (T.idx 16) :=
  ⟨⟨fun i => rest.getD (i + 1) 0, (rest.drop 17).take (Tab.idx ⟨fun i => rest.getD (i + 1) 0, []⟩ 16)⟩, fun _ => rfl, by
    rw [Tab.idx_congr (T := ⟨fun i => rest.getD (i + 1) 0, (rest.drop 17).take (Tab.idx ⟨fun i => rest.getD (i + 1) 0, []⟩ 16)⟩) (T' := ⟨fun i => rest.getD (i + 1) 0, []⟩) rfl 16]⟩
theorem goodHd_of {rest : List Nat} {T : Tab} {x0 : Nat} (hx : rest[0]? = some x0) (hl : 17 ≤ rest.length) (hc : ∀ i, T.counts i = rest.getD (i + 1) 0) (hy : ∀ y ∈ rest, y < 256) (htc : x0 / 16 ≤ 1) (hth : x0 % 16 ≤ 3) (hk : T.Kraft) (ok : T.OK) :
    GoodHd (rest.take 17) (x0 / 16) (x0 % 16) T where
  len := by rw [List.length_take]; omega
  h0 := by rw [List.getElem?_take, if_pos (by decide), hx]; congr 1; omega
  tc := htc
  th := hth
  cnt := fun i hi => by rw [List.getElem?_take, if_pos (by omega), hc, List.getD_eq_getElem?_getD, List.getElem?_eq_getElem (by omega)]; rfl
  by_ := fun i hi => by rw [hc, List.getD_eq_getElem?_getD, List.getElem?_eq_getElem (by omega)]; exact hy _ (List.getElem_mem _)
  kraft := hk
  ok := ok
theorem rest_split {rest : List Nat} {T : Tab} (hs : T.syms = (rest.drop 17).take (T.idx 16)) : rest = rest.take 17 ++ (T.syms ++ rest.drop (17 + T.idx 16)) := by
  rw [hs, ← List.drop_drop, List.take_append_drop, List.take_append_drop]
end Go.Proofs.YtdjilplpbaackaaDoor.Eng
