/- Two appends in whatever order. -/
import Derived.Test.YtdjilplpbaackaaDoorZZCodes
set_option linter.unusedVariables false
set_option linter.unusedSimpArgs false
namespace Go.Proofs.YtdjilplpbaackaaDoor.Eng
open Go

theorem AtS_upd {σ : Env} {d : Nat} {v : Value} : ∀ {l : List (Nat × Value)}, l.all (fun p => !(Nat.beq p.1 d)) = true → AtS σ l → AtS (upd σ d v) l
  | [], _, _ => trivial
  | (t, u) :: l, h, ⟨h1, h2⟩ => by
    simp only [List.all_cons, Bool.and_eq_true, Bool.not_eq_true'] at h
    refine ⟨?_, AtS_upd h.2 h2⟩
    rw [upd_ne _ _ _ _ (fun e => by rw [e, Nat.beq_refl] at h; cases h.1)]
    exact h1
/-- Some operations yield what is known; the others turn the world. -/
def IVO (dsts : List Nat) (vals : Nat → Option Value) (B : Env → Prop) (W : (Nat → Bool) → Env → World → Prop) (L : Nat → Bool) (σ : Env) (w : World) : Prop :=
  (∀ k d v, dsts[k]? = some d → vals k = some v → L k = true → σ d = v) ∧ B σ ∧ W L σ w
section
variable {P : Program} {l : List Oper} {dsts : List Nat} {vals : Nat → Option Value} {B : Env → Prop} {W : (Nat → Bool) → Env → World → Prop} {i d : Nat} {o : Oper} {v : Value}
theorem IVO_set (hdi : dsts[i]? = some d) (hvi : ∀ u, vals i = some u → u = v) (hl : lone dsts i d = true) {L : Nat → Bool} {σ : Env} (h : ∀ k d v, dsts[k]? = some d → vals k = some v → L k = true → σ d = v) :
    ∀ k d' v', dsts[k]? = some d' → vals k = some v' → setL L i k = true → upd σ d v d' = v' := by
  intro k d' v' hd' hv' hL
  by_cases hki : k = i
  · subst hki
    rw [hdi] at hd'; cases hd'
    rw [hvi v' hv']; exact upd_same _ _ _
  · rw [upd_ne _ _ _ _ (lone_spec hl hd' hki)]
    simp only [setL, hki, if_false] at hL
    exact h k d' v' hd' hv' hL
theorem IVO_pure (dl : List Nat) (hg : o.guard = none) (hd : o.dst = some d) (hdi : dsts[i]? = some d) (hvi : vals i = some v) (hl : lone dsts i d = true) (hB : ∀ σ v, B σ → B (upd σ d v))
    (hW : ∀ L σ w u, W L σ w → W (setL L i) (upd σ d u) w) (hdl : depsB o dl = true)
    (hy : ∀ L σ w, (∀ j, j ∈ dl → ∀ d v, dsts[j]? = some d → vals j = some v → σ d = v) → B σ → L i = false → W L σ w → Yd P o σ w v) : StepAny P l (IVO dsts vals B W) i o := by
  intro L σ w ⟨h1, h2, h3⟩ hLi hdep
  have hdp := depsB_spec hdl hdep
  rw [if_pos (wantedE_none hg), hy L σ w (fun j hj d v hd hv => h1 j d v hd hv (hdp j hj)) h2 hLi h3, hd]
  exact ⟨IVO_set hdi (fun u hu => Option.some.inj (hu.symm.trans hvi)) hl h1, hB _ _ h2, hW _ _ _ _ h3⟩
theorem IVO_eff (dl : List Nat) (hg : o.guard = none) (hd : o.dst = some d) (hdi : dsts[i]? = some d) (hvi : vals i = none) (hl : lone dsts i d = true) (hB : ∀ σ v, B σ → B (upd σ d v))
    (hdl : depsB o dl = true)
    (hy : ∀ L σ w, (∀ j, j ∈ dl → ∀ d v, dsts[j]? = some d → vals j = some v → σ d = v) → (∀ j, j ∈ dl → L j = true) → L i = false → W L σ w → ∃ v w', (execOp (ev σ) o).run P w = .ok (.value v) w' ∧ W (setL L i) (upd σ d v) w') : StepAny P l (IVO dsts vals B W) i o := by
  intro L σ w ⟨h1, h2, h3⟩ hLi hdep
  have hdp := depsB_spec hdl hdep
  obtain ⟨v, w', hr, hw⟩ := hy L σ w (fun j hj d v hd hv => h1 j d v hd hv (hdp j hj)) hdp hLi h3
  rw [if_pos (wantedE_none hg), hr, hd]
  exact ⟨IVO_set hdi (fun u hu => by rw [hvi] at hu; cases hu) hl h1, hB _ _ h2, hw⟩
end
section
variable {P : Program} {σ : Env} {w : World} {o : Oper} {v : Value} {T : TypeId} {x y : Operand}
theorem run_slice1 {e : TypeId} {z : Value} {bytes : Nat} (ho : o.op = .buildSlice T 1 #[(0, x)]) (hu : P.underlying T = some (.slice e)) (hi : sizedT P e = some (1, bytes)) (hz : zeroT P e = some z)
    (hz1 : z.oneCell' = true) (hx : ev σ x = v) (hv : v.oneCell' = true) : (execOp (ev σ) o).run P w = .ok (.value (.slice (some ⟨w.heap.size, 0, none⟩) 1 1)) (w.alloc (.cells #[v] e (0, 0))) := by
  unfold sizedT at hi
  unfold zeroT at hz
  cases hie : P.info? e with
  | none => simp [hie] at hi
  | some ie =>
    simp only [hie, Option.map_some, Option.some.injEq, Prod.mk.injEq] at hi
    simp only [hie, Option.bind_some] at hz
    have hzc : z.cells = #[z] := by cases z <;> first | rfl | simp [Value.oneCell'] at hz1
    have hvc : v.cells = #[v] := by cases v <;> first | rfl | simp [Value.oneCell'] at hv
    have h2 := run_buildSlice (P := P) w T e 1 #[(0, v)] #[v] ie z hu hie hz (by rw [hi.1]; decide) (by rw [hi.1]; decide) (by
      rw [hi.1, hzc]
      simp [Instr.fill, hvc]
      refine Array.ext (by simp) fun i h1 h2 => ?_
      obtain rfl : i = 0 := by simp at h2; omega
      simp)
    simp only [execOp, ho, List.map_toArray, List.map_cons, List.map_nil, hx, Sem.run_bind, h2, Result.andThen_ok, Sem.run_pure]
theorem run_append2 {e : TypeId} {z : Value} {bytes base m c b p : Nat} {xs news : List Value} (ho : o.op = .call ⟨.builtin .append, #[x, y], #[T, T]⟩) (hu : P.underlying T = some (.slice e))
    (hi : sizedT P e = some (1, bytes)) (hz : zeroT P e = some z) (hz1 : z.oneCell' = true) (hx : ev σ x = v) (hy : ev σ y = .slice (some ⟨b, p, none⟩) m c) (hown : Own w base e v xs)
    (hl : news.length = m) (hnews : ∀ j u, news[j]? = some u → w.cell? ⟨b, p + j, none⟩ = some u) (h1 : ∀ u ∈ news, u.oneCell' = true) (hm : 0 < m) (h63 : xs.length + m ≤ 9223372036854775807) (hbytes : (xs.length + m) * bytes ≤ 140737488355328) (hbase : base ≤ w.heap.size) :
    ∃ v' w', (execOp (ev σ) o).run P w = .ok (.value v') w' ∧ Own w' base e v' (xs ++ news) ∧ w.grownBy w' v.ownBlock ∧ (v'.ownBlock = v.ownBlock ∨ v'.ownBlock = some w.heap.size) := by
  unfold sizedT at hi
  unfold zeroT at hz
  cases hie : P.info? e with
  | none => simp [hie] at hi
  | some ie =>
    simp only [hie, Option.map_some, Option.some.injEq, Prod.mk.injEq] at hi
    simp only [hie, Option.bind_some] at hz
    have hzc : z.cells = #[z] := by cases z <;> first | rfl | simp [Value.oneCell'] at hz1
    have hs1 : ie.size = 1 := hi.1
    obtain ⟨v', w', hr, h2, h3, h4⟩ := run_append_own (P := P) w base T o.type e ie z 1 bytes hu hie hz hi.1 hi.2 (by rw [hzc]; rfl) (by decide) v xs.length xs hown ⟨b, p, none⟩ m c news (by omega)
      (fun j u hj => by rw [add_none]; exact hnews j u hj) h1 (by simpa [maxLen] using h63) hbytes hbase
    refine ⟨v', w', ?_, ?_, h3, ?_⟩
    · simp only [execOp, ho, resolve, invoke, builtin, Sem.run_bind, Sem.run_pure, Result.andThen_ok, List.map_toArray, List.map_cons, List.map_nil, hx, hy, hr]
    · unfold Own; rw [List.length_append, hl]; exact h2
    · rcases hown.2 with ⟨rfl, hn⟩ | ⟨g, cap, cur, rfl, hbg, hg, hnc, hcm, hcs, htake⟩
      · have hr' := run_append_nil (P := P) w T o.type e ie z hu hie hz ⟨b, p, none⟩ m c news (by rw [hs1]; omega) (fun j u hj => by rw [add_none]; exact hnews j u hj) hm (by omega) (by rw [hi.2]; rw [hn, Nat.zero_add] at hbytes; omega)
        rw [hr'] at hr
        injection hr with e1 e2
        right; rw [← e1]; rfl
      · by_cases hroom : xs.length + m ≤ cap
        · have hr' := run_append_room (P := P) w T o.type e ie hu hie g xs.length cap cur hg ⟨b, p, none⟩ m c news (by rw [hs1]; omega) (fun j u hj => by rw [add_none]; exact hnews j u hj) h1 hroom (by rw [hs1, hcs]; omega)
          rw [hr'] at hr
          injection hr with e1 e2
          left; rw [← e1]; rfl
        · have holds : ∀ j u, xs[j]? = some u → w.cell? ((⟨g, 0, none⟩ : Addr).add j) = some u := World.ownsRow.cells hown (g := g) rfl
          have hr' := run_append_grow (P := P) w T o.type e ie z hu hie hz ⟨g, 0, none⟩ xs.length cap xs (by rw [hs1]; omega) holds ⟨b, p, none⟩ m c news (by rw [hs1]; omega) (fun j u hj => by rw [add_none]; exact hnews j u hj) (by omega) (by omega) (by rw [hi.2]; exact growslice_fits (by omega) hbytes)
          rw [hr'] at hr
          injection hr with e1 e2
          right; rw [← e1]; rfl
end
theorem Own.at {w : World} {base g : Nat} {e : TypeId} {v : Value} {xs : List Value} (h : Own w base e v xs) (hg : v.ownBlock = some g) : base ≤ g ∧ g < w.heap.size ∧ ∃ c, w.heap[g]? = some (.cells c e (0, 0)) := by
  rcases h.2 with ⟨rfl, _⟩ | ⟨g', cap, cur, rfl, hb, hgg, _⟩
  · simp [Value.ownBlock] at hg
  · simp [Value.ownBlock] at hg
    subst hg
    exact ⟨hb, blk_lt hgg, _, hgg⟩
theorem Own.apart {w : World} {base base' g : Nat} {e e' : TypeId} {v v' : Value} {xs xs' : List Value} (h : Own w base e v xs) (h' : Own w base' e' v' xs') (he : e ≠ e') (hg : v.ownBlock = some g) : v'.ownBlock ≠ some g := by
  intro hg'
  obtain ⟨_, _, c, hc⟩ := h.at hg
  obtain ⟨_, _, c', hc'⟩ := h'.at hg'
  rw [hc] at hc'
  injection hc' with hc'
  injection hc' with _ h2
  exact he h2
theorem Own.kept {w w' : World} {base : Nat} {e : TypeId} {v : Value} {xs : List Value} {row : Option Nat} (h : Own w base e v xs) (hg : w.grownBy w' row) (hne : ∀ g, v.ownBlock = some g → row ≠ some g) : Own w' base e v xs :=
  h.of_eq fun k hb hk hv => hg.block k hk fun e => hne k hv e.symm

/-- The state of the region: v12 and v13 are appended x and y each; which operations are done stands in L. -/
structure W19 (w1 : World) (base : Nat) (v12 v13 : Value) (xs ys : List Value) (x y : Value) (L : Nat → Bool) (σ : Env) (w : World) : Prop where
  fr : Fr (fun k => some k = v12.ownBlock ∨ some k = v13.ownBlock) w1 w
  a0 : L 7 = false → Own w base 40 v12 xs
  a1 : L 7 = false → L 6 = true → ∃ p, σ 96 = .slice (some ⟨p, 0, none⟩) 1 1 ∧ w.heap[p]? = some (.cells #[x] 40 (0, 0)) ∧ w1.heap.size ≤ p
  a2 : L 7 = true → Own w base 40 (σ 97) (xs ++ [x]) ∧ ((σ 97).ownBlock = v12.ownBlock ∨ ∀ g, (σ 97).ownBlock = some g → w1.heap.size ≤ g)
  b0 : L 15 = false → Own w base 40 v13 ys
  b1 : L 15 = false → L 14 = true → ∃ p, σ 104 = .slice (some ⟨p, 0, none⟩) 1 1 ∧ w.heap[p]? = some (.cells #[y] 40 (0, 0)) ∧ w1.heap.size ≤ p
  b2 : L 15 = true → Own w base 40 (σ 105) (ys ++ [y]) ∧ ∀ g, (σ 97).ownBlock = some g → (σ 105).ownBlock ≠ some g
  o7 : L 7 = true → L 6 = true
  o15 : L 15 = true → L 14 = true ∧ L 7 = true
  s0 : L 16 = false → σ 12 = v12
  s1 : L 16 = true → L 0 = true ∧ L 7 = true ∧ σ 12 = σ 97
  t0 : L 17 = false → σ 13 = v13
  t1 : L 17 = true → L 8 = true ∧ L 15 = true ∧ σ 13 = σ 105
section
variable {w1 w w' : World} {base : Nat} {v12 v13 x y v : Value} {xs ys : List Value} {L : Nat → Bool} {σ : Env} {i d : Nat}
theorem setL_ne {q : Nat} (h : q ≠ i) : setL L i q = L q := by simp [setL, h]
theorem setL_same : setL L i i = true := by simp [setL]
theorem setL_mono {q : Nat} (h : L q = true) : setL L i q = true := by
  by_cases hq : q = i
  · subst hq; exact setL_same
  · rw [setL_ne hq]; exact h
theorem W19.pure (h : W19 w1 base v12 v13 xs ys x y L σ w) (hi : ∀ q ∈ [6, 7, 14, 15, 16, 17], q ≠ i) (hd : ∀ q ∈ [96, 97, 104, 105, 12, 13], q ≠ d) : W19 w1 base v12 v13 xs ys x y (setL L i) (upd σ d v) w := by
  have e6 := setL_ne (L := L) (hi 6 (by simp)); have e7 := setL_ne (L := L) (hi 7 (by simp)); have e14 := setL_ne (L := L) (hi 14 (by simp))
  have e15 := setL_ne (L := L) (hi 15 (by simp)); have e16 := setL_ne (L := L) (hi 16 (by simp)); have e17 := setL_ne (L := L) (hi 17 (by simp))
  have d96 := upd_ne σ d 96 v (hd 96 (by simp)); have d97 := upd_ne σ d 97 v (hd 97 (by simp)); have d104 := upd_ne σ d 104 v (hd 104 (by simp))
  have d105 := upd_ne σ d 105 v (hd 105 (by simp)); have d12 := upd_ne σ d 12 v (hd 12 (by simp)); have d13 := upd_ne σ d 13 v (hd 13 (by simp))
  constructor
  · exact h.fr
  · rw [e7]; exact h.a0
  · rw [e7, e6, d96]; exact h.a1
  · rw [e7, d97]; exact h.a2
  · rw [e15]; exact h.b0
  · rw [e15, e14, d104]; exact h.b1
  · rw [e15, d97, d105]; exact h.b2
  · rw [e7, e6]; exact h.o7
  · rw [e15, e14, e7]; exact h.o15
  · rw [e16, d12]; exact h.s0
  · rw [e16, e7, d12, d97]; exact fun h16 => ⟨setL_mono (h.s1 h16).1, (h.s1 h16).2⟩
  · rw [e17, d13]; exact h.t0
  · rw [e17, e15, d13, d105]; exact fun h17 => ⟨setL_mono (h.t1 h17).1, (h.t1 h17).2⟩
theorem Own.alloc {o : Obj} {base : Nat} {e : TypeId} {v : Value} {xs : List Value} (h : Own w base e v xs) : Own (w.alloc o) base e v xs := h.of_eq fun k _ hk _ => alloc_old hk
theorem W19.op6 (h : W19 w1 base v12 v13 xs ys x y L σ w) (h6 : L 6 = false) : W19 w1 base v12 v13 xs ys x y (setL L 6) (upd σ 96 (.slice (some ⟨w.heap.size, 0, none⟩) 1 1)) (w.alloc (.cells #[x] 40 (0, 0))) := by
  have h7 : L 7 = false := by
    cases h7 : L 7 with
    | false => rfl
    | true => rw [h.o7 h7] at h6; cases h6
  have e7 : setL L 6 7 = false := (setL_ne (by decide)).trans h7
  constructor
  · exact h.fr.alloc _
  · exact fun _ => (h.a0 h7).alloc
  · exact fun _ _ => ⟨w.heap.size, upd_same _ _ _, alloc_get, h.fr.size⟩
  · intro e; rw [e7] at e; cases e
  · exact fun e => (h.b0 ((setL_ne (by decide)).symm.trans e)).alloc
  · intro e1 e2
    rw [setL_ne (by decide)] at e1 e2
    obtain ⟨p, p1, p2, p3⟩ := h.b1 e1 e2
    exact ⟨p, (upd_ne _ _ _ _ (by decide)).trans p1, (alloc_old (blk_lt p2)).trans p2, p3⟩
  · intro e
    rw [setL_ne (by decide)] at e
    rw [(h.o15 e).2] at h7; cases h7
  · exact fun _ => setL_same
  · intro e
    rw [setL_ne (by decide)] at e
    rw [(h.o15 e).2] at h7; cases h7
  · exact fun e => (upd_ne _ _ _ _ (by decide)).trans (h.s0 ((setL_ne (by decide)).symm.trans e))
  · intro e
    rw [setL_ne (by decide)] at e
    rw [(h.s1 e).2.1] at h7; cases h7
  · exact fun e => (upd_ne _ _ _ _ (by decide)).trans (h.t0 ((setL_ne (by decide)).symm.trans e))
  · intro e
    rw [setL_ne (by decide)] at e
    rw [(h.o15 (h.t1 e).2.1).2] at h7; cases h7
theorem W19.op14 (h : W19 w1 base v12 v13 xs ys x y L σ w) (h14 : L 14 = false) : W19 w1 base v12 v13 xs ys x y (setL L 14) (upd σ 104 (.slice (some ⟨w.heap.size, 0, none⟩) 1 1)) (w.alloc (.cells #[y] 40 (0, 0))) := by
  have h15 : L 15 = false := by
    cases h15 : L 15 with
    | false => rfl
    | true => rw [(h.o15 h15).1] at h14; cases h14
  have e15 : setL L 14 15 = false := (setL_ne (by decide)).trans h15
  constructor
  · exact h.fr.alloc _
  · exact fun e => (h.a0 ((setL_ne (by decide)).symm.trans e)).alloc
  · intro e1 e2
    rw [setL_ne (by decide)] at e1 e2
    obtain ⟨p, p1, p2, p3⟩ := h.a1 e1 e2
    exact ⟨p, (upd_ne _ _ _ _ (by decide)).trans p1, (alloc_old (blk_lt p2)).trans p2, p3⟩
  · intro e
    rw [setL_ne (by decide)] at e
    rw [upd_ne _ _ _ _ (by decide)]
    exact ⟨(h.a2 e).1.alloc, (h.a2 e).2⟩
  · exact fun _ => (h.b0 h15).alloc
  · exact fun _ _ => ⟨w.heap.size, upd_same _ _ _, alloc_get, h.fr.size⟩
  · intro e; rw [e15] at e; cases e
  · rw [setL_ne (by decide), setL_ne (by decide)]; exact h.o7
  · intro e; rw [e15] at e; cases e
  · exact fun e => (upd_ne _ _ _ _ (by decide)).trans (h.s0 ((setL_ne (by decide)).symm.trans e))
  · intro e
    rw [setL_ne (by decide)] at e
    rw [setL_ne (by decide), setL_ne (by decide), upd_ne _ _ _ _ (by decide), upd_ne _ _ _ _ (by decide)]
    exact h.s1 e
  · exact fun e => (upd_ne _ _ _ _ (by decide)).trans (h.t0 ((setL_ne (by decide)).symm.trans e))
  · intro e
    rw [setL_ne (by decide)] at e
    rw [(h.t1 e).2.1] at h15; cases h15
theorem Fr.grownS {S : Nat → Prop} {w0 w w' : World} {row : Option Nat} (h : Fr S w0 w) (hg : w.grownBy w' row) (hrow : ∀ k, row = some k → k < w0.heap.size → S k) : Fr S w0 w' :=
  ⟨hg.os.trans h.os, hg.tape.trans h.tape, hg.output.trans h.output, Nat.le_trans h.size hg.size, fun k hk hs => (hg.block k (Nat.lt_of_lt_of_le hk h.size) (fun e => hs (hrow k e.symm hk))).trans (h.block k hk hs)⟩
theorem W19.op7 (h : W19 w1 base v12 v13 xs ys x y L σ w) (h7 : L 7 = false) (h6 : L 6 = true) (hsep : ∀ g, v12.ownBlock = some g → v13.ownBlock ≠ some g) (hlt : ∀ g, v12.ownBlock = some g → g < w1.heap.size)
    (hown : Own w' base 40 v (xs ++ [x])) (hg : w.grownBy w' v12.ownBlock) (hf : v.ownBlock = v12.ownBlock ∨ v.ownBlock = some w.heap.size) :
    W19 w1 base v12 v13 xs ys x y (setL L 7) (upd σ 97 v) w' := by
  have h15 : L 15 = false := by
    cases h15 : L 15 with
    | false => rfl
    | true => rw [(h.o15 h15).2] at h7; cases h7
  have h16 : L 16 = false := by
    cases h16 : L 16 with
    | false => rfl
    | true => rw [(h.s1 h16).2.1] at h7; cases h7
  have e15 : setL L 7 15 = false := (setL_ne (by decide)).trans h15
  have e16 : setL L 7 16 = false := (setL_ne (by decide)).trans h16
  constructor
  · exact h.fr.grownS hg fun k e _ => .inl e.symm
  · intro e; rw [setL_same] at e; cases e
  · intro e; rw [setL_same] at e; cases e
  · intro _
    rw [upd_same]
    refine ⟨hown, hf.elim .inl fun e => .inr fun g hg' => ?_⟩
    rw [e] at hg'; cases hg'; exact h.fr.size
  · exact fun _ => (h.b0 h15).kept hg fun g hv e => hsep g e hv
  · intro _ e2
    rw [setL_ne (by decide)] at e2
    obtain ⟨p, p1, p2, p3⟩ := h.b1 h15 e2
    refine ⟨p, (upd_ne _ _ _ _ (by decide)).trans p1, (hg.block p (blk_lt p2) fun e => ?_).trans p2, p3⟩
    have := hlt p e.symm; omega
  · intro e; rw [e15] at e; cases e
  · exact fun _ => (setL_ne (by decide)).trans h6
  · intro e; rw [e15] at e; cases e
  · exact fun _ => (upd_ne _ _ _ _ (by decide)).trans (h.s0 h16)
  · intro e; rw [e16] at e; cases e
  · exact fun e => (upd_ne _ _ _ _ (by decide)).trans (h.t0 ((setL_ne (by decide)).symm.trans e))
  · intro e
    rw [setL_ne (by decide)] at e
    rw [(h.t1 e).2.1] at h15; cases h15
theorem W19.op15 (h : W19 w1 base v12 v13 xs ys x y L σ w) (h15 : L 15 = false) (h14 : L 14 = true) (h7 : L 7 = true) (hsep : ∀ g, v12.ownBlock = some g → v13.ownBlock ≠ some g) (hlt : ∀ g, v13.ownBlock = some g → g < w1.heap.size)
    (hown : Own w' base 40 v (ys ++ [y])) (hg : w.grownBy w' v13.ownBlock) (hf : v.ownBlock = v13.ownBlock ∨ v.ownBlock = some w.heap.size) :
    W19 w1 base v12 v13 xs ys x y (setL L 15) (upd σ 105 v) w' := by
  have h17 : L 17 = false := by
    cases h17 : L 17 with
    | false => rfl
    | true => rw [(h.t1 h17).2.1] at h15; cases h15
  have e7 : setL L 15 7 = true := (setL_ne (by decide)).trans h7
  have e17 : setL L 15 17 = false := (setL_ne (by decide)).trans h17
  obtain ⟨hA, hA2⟩ := h.a2 h7
  have hne : ∀ g, (σ 97).ownBlock = some g → v13.ownBlock ≠ some g := fun g hg1 hg2 => by
    rcases hA2 with e | e
    · rw [e] at hg1; exact hsep g hg1 hg2
    · have := e g hg1; have := hlt g hg2; omega
  constructor
  · exact h.fr.grownS hg fun k e _ => .inr e.symm
  · intro e; rw [e7] at e; cases e
  · intro e; rw [e7] at e; cases e
  · intro _
    rw [upd_ne _ _ _ _ (by decide)]
    exact ⟨hA.kept hg hne, hA2⟩
  · intro e; rw [setL_same] at e; cases e
  · intro e; rw [setL_same] at e; cases e
  · intro _
    rw [upd_ne _ _ 97 _ (by decide), upd_same]
    refine ⟨hown, fun g hg1 hg2 => ?_⟩
    rcases hf with e | e
    · rw [e] at hg2; exact hne g hg1 hg2
    · rw [e] at hg2; cases hg2
      have := (hA.at hg1).2.1; omega
  · exact fun _ => (setL_ne (by decide)).trans (h.o7 h7)
  · exact fun _ => ⟨(setL_ne (by decide)).trans h14, e7⟩
  · exact fun e => (upd_ne _ _ _ _ (by decide)).trans (h.s0 ((setL_ne (by decide)).symm.trans e))
  · intro e
    rw [setL_ne (by decide)] at e
    rw [setL_ne (by decide), setL_ne (by decide), upd_ne _ _ _ _ (by decide), upd_ne _ _ _ _ (by decide)]
    exact h.s1 e
  · exact fun _ => (upd_ne _ _ _ _ (by decide)).trans (h.t0 h17)
  · intro e; rw [e17] at e; cases e
theorem W19.op16 (h : W19 w1 base v12 v13 xs ys x y L σ w) (h0 : L 0 = true) (h7 : L 7 = true) : W19 w1 base v12 v13 xs ys x y (setL L 16) (upd σ 12 (σ 97)) w := by
  have e : ∀ q, q ≠ 16 → setL L 16 q = L q := fun q hq => setL_ne hq
  constructor
  · exact h.fr
  · rw [e 7 (by decide)]; exact h.a0
  · rw [e 7 (by decide), e 6 (by decide), upd_ne _ _ _ _ (by decide)]; exact h.a1
  · rw [e 7 (by decide), upd_ne _ _ _ _ (by decide)]; exact h.a2
  · rw [e 15 (by decide)]; exact h.b0
  · rw [e 15 (by decide), e 14 (by decide), upd_ne _ _ _ _ (by decide)]; exact h.b1
  · rw [e 15 (by decide), upd_ne _ _ 97 _ (by decide), upd_ne _ _ 105 _ (by decide)]; exact h.b2
  · rw [e 7 (by decide), e 6 (by decide)]; exact h.o7
  · rw [e 15 (by decide), e 14 (by decide), e 7 (by decide)]; exact h.o15
  · intro e; rw [setL_same] at e; cases e
  · exact fun _ => ⟨(e 0 (by decide)).trans h0, (e 7 (by decide)).trans h7, by rw [upd_same, upd_ne _ _ _ _ (by decide)]⟩
  · rw [e 17 (by decide), upd_ne _ _ _ _ (by decide)]; exact h.t0
  · rw [e 17 (by decide), e 8 (by decide), e 15 (by decide), upd_ne _ _ 13 _ (by decide), upd_ne _ _ 105 _ (by decide)]; exact h.t1
theorem W19.op17 (h : W19 w1 base v12 v13 xs ys x y L σ w) (h8 : L 8 = true) (h15 : L 15 = true) : W19 w1 base v12 v13 xs ys x y (setL L 17) (upd σ 13 (σ 105)) w := by
  have e : ∀ q, q ≠ 17 → setL L 17 q = L q := fun q hq => setL_ne hq
  constructor
  · exact h.fr
  · rw [e 7 (by decide)]; exact h.a0
  · rw [e 7 (by decide), e 6 (by decide), upd_ne _ _ _ _ (by decide)]; exact h.a1
  · rw [e 7 (by decide), upd_ne _ _ _ _ (by decide)]; exact h.a2
  · rw [e 15 (by decide)]; exact h.b0
  · rw [e 15 (by decide), e 14 (by decide), upd_ne _ _ _ _ (by decide)]; exact h.b1
  · rw [e 15 (by decide), upd_ne _ _ 97 _ (by decide), upd_ne _ _ 105 _ (by decide)]; exact h.b2
  · rw [e 7 (by decide), e 6 (by decide)]; exact h.o7
  · rw [e 15 (by decide), e 14 (by decide), e 7 (by decide)]; exact h.o15
  · rw [e 16 (by decide), upd_ne _ _ _ _ (by decide)]; exact h.s0
  · rw [e 16 (by decide), e 0 (by decide), e 7 (by decide), upd_ne _ _ 12 _ (by decide), upd_ne _ _ 97 _ (by decide)]; exact h.s1
  · intro e; rw [setL_same] at e; cases e
  · exact fun _ => ⟨(e 8 (by decide)).trans h8, (e 15 (by decide)).trans h15, by rw [upd_same, upd_ne _ _ _ _ (by decide)]⟩
theorem W19.n16 (h : W19 w1 base v12 v13 xs ys x y L σ w) (h0 : L 0 = false) : L 16 = false := by
  cases h16 : L 16 with
  | false => rfl
  | true => rw [(h.s1 h16).1] at h0; cases h0
theorem W19.n17 (h : W19 w1 base v12 v13 xs ys x y L σ w) (h0 : L 8 = false) : L 17 = false := by
  cases h17 : L 17 with
  | false => rfl
  | true => rw [(h.t1 h17).1] at h0; cases h0
theorem W19.start {w2 : World} (h2 : w2.heap = w1.heap) (hF : Fr (fun k => some k = v12.ownBlock ∨ some k = v13.ownBlock) w1 w2) (ha : Own w1 base 40 v12 xs) (hb : Own w1 base 40 v13 ys) (h12 : σ 12 = v12) (h13 : σ 13 = v13) : W19 w1 base v12 v13 xs ys x y (fun _ => false) σ w2 := by
  constructor
  · exact hF
  · exact fun _ => ha.of_eq fun k _ _ _ => by rw [h2]
  · intro _ e; cases e
  · intro e; cases e
  · exact fun _ => hb.of_eq fun k _ _ _ => by rw [h2]
  · intro _ e; cases e
  · intro e; cases e
  · intro e; cases e
  · intro e; cases e
  · exact fun _ => h12
  · intro e; cases e
  · exact fun _ => h13
  · intro e; cases e
end
section
variable {l : List Oper} {dsts : List Nat} {vals : Nat → Option Value} {B : Env → Prop} {o : Oper} {w1 : World} {base : Nat} {v12 v13 x y : Value} {xs ys : List Value}
theorem one_cell {w : World} {p : Nat} {x : Value} (h : w.heap[p]? = some (.cells #[x] 40 (0, 0))) : ∀ j u, [x][j]? = some u → w.cell? ⟨p, 0 + j, none⟩ = some u := by
  intro j u hj
  cases j with
  | zero => simp at hj; subst hj; rw [cell_of_blk h]; rfl
  | succ j => simp at hj
theorem step6 (hg : o.guard = none) (hd : o.dst = some 96) (ho : o.op = .buildSlice 38 1 #[(0, .tmp 95)]) (hdi : dsts[6]? = some 96) (hvi : vals 6 = none) (hl : lone dsts 6 96 = true) (hB : ∀ σ v, B σ → B (upd σ 96 v)) (hdl : depsB o [5] = true)
    (h0d : dsts[5]? = some 95) (h0 : vals 5 = some x) (hx : x.oneCell' = true) : StepAny Tryd.prog l (IVO dsts vals B (W19 w1 base v12 v13 xs ys x y)) 6 o :=
  IVO_eff [5] hg hd hdi hvi hl hB hdl fun L σ w g hdn hLi hw =>
    ⟨_, _, run_slice1 (P := Tryd.prog) ho Tryd.underlying38 si_40 zr_40 rfl (show ev σ (.tmp 95) = x from g 5 (by simp) 95 x h0d h0) hx, hw.op6 hLi⟩
theorem step14 (hg : o.guard = none) (hd : o.dst = some 104) (ho : o.op = .buildSlice 38 1 #[(0, .tmp 103)]) (hdi : dsts[14]? = some 104) (hvi : vals 14 = none) (hl : lone dsts 14 104 = true) (hB : ∀ σ v, B σ → B (upd σ 104 v)) (hdl : depsB o [13] = true)
    (h0d : dsts[13]? = some 103) (h0 : vals 13 = some y) (hx : y.oneCell' = true) : StepAny Tryd.prog l (IVO dsts vals B (W19 w1 base v12 v13 xs ys x y)) 14 o :=
  IVO_eff [13] hg hd hdi hvi hl hB hdl fun L σ w g hdn hLi hw =>
    ⟨_, _, run_slice1 (P := Tryd.prog) ho Tryd.underlying38 si_40 zr_40 rfl (show ev σ (.tmp 103) = y from g 13 (by simp) 103 y h0d h0) hx, hw.op14 hLi⟩
theorem step7 (hg : o.guard = none) (hd : o.dst = some 97) (ho : o.op = .call ⟨.builtin .append, #[.tmp 90, .tmp 96], #[38, 38]⟩) (hdi : dsts[7]? = some 97) (hvi : vals 7 = none) (hl : lone dsts 7 97 = true) (hB : ∀ σ v, B σ → B (upd σ 97 v)) (hdl : depsB o [0, 6] = true)
    (h0d : dsts[0]? = some 90) (h0 : vals 0 = some v12) (hx : x.oneCell' = true) (hlen : xs.length ≤ 4294967296) (hbase : base ≤ w1.heap.size) (hsep : ∀ g, v12.ownBlock = some g → v13.ownBlock ≠ some g) (hlt : ∀ g, v12.ownBlock = some g → g < w1.heap.size) :
    StepAny Tryd.prog l (IVO dsts vals B (W19 w1 base v12 v13 xs ys x y)) 7 o := by
  refine IVO_eff [0, 6] hg hd hdi hvi hl hB hdl fun L σ w g hdn hLi hw => ?_
  obtain ⟨p, p1, p2, p3⟩ := hw.a1 hLi (hdn 6 (by simp))
  obtain ⟨v', w', h1, h2, h3, h4⟩ := run_append2 (P := Tryd.prog) (σ := σ) (w := w) (o := o) (news := [x]) ho Tryd.underlying38 si_40 zr_40 rfl (show ev σ (.tmp 90) = v12 from g 0 (by simp) 90 v12 h0d h0) (show ev σ (.tmp 96) = _ from p1) (hw.a0 hLi) rfl (one_cell p2)
    (fun u hu => by rw [List.mem_singleton] at hu; subst hu; exact hx) (by decide) (by omega) (by omega) (Nat.le_trans hbase hw.fr.size)
  exact ⟨v', w', h1, hw.op7 hLi (hdn 6 (by simp)) hsep hlt h2 h3 h4⟩
theorem step15 (hg : o.guard = none) (hd : o.dst = some 105) (ho : o.op = .call ⟨.builtin .append, #[.tmp 98, .tmp 104], #[38, 38]⟩) (hdi : dsts[15]? = some 105) (hvi : vals 15 = none) (hl : lone dsts 15 105 = true) (hB : ∀ σ v, B σ → B (upd σ 105 v)) (hdl : depsB o [8, 14, 7] = true)
    (h0d : dsts[8]? = some 98) (h0 : vals 8 = some v13) (hx : y.oneCell' = true) (hlen : ys.length ≤ 4294967296) (hbase : base ≤ w1.heap.size) (hsep : ∀ g, v12.ownBlock = some g → v13.ownBlock ≠ some g) (hlt : ∀ g, v13.ownBlock = some g → g < w1.heap.size) :
    StepAny Tryd.prog l (IVO dsts vals B (W19 w1 base v12 v13 xs ys x y)) 15 o := by
  refine IVO_eff [8, 14, 7] hg hd hdi hvi hl hB hdl fun L σ w g hdn hLi hw => ?_
  obtain ⟨p, p1, p2, p3⟩ := hw.b1 hLi (hdn 14 (by simp))
  obtain ⟨v', w', h1, h2, h3, h4⟩ := run_append2 (P := Tryd.prog) (σ := σ) (w := w) (o := o) (news := [y]) ho Tryd.underlying38 si_40 zr_40 rfl (show ev σ (.tmp 98) = v13 from g 8 (by simp) 98 v13 h0d h0) (show ev σ (.tmp 104) = _ from p1) (hw.b0 hLi) rfl (one_cell p2)
    (fun u hu => by rw [List.mem_singleton] at hu; subst hu; exact hx) (by decide) (by omega) (by omega) (Nat.le_trans hbase hw.fr.size)
  exact ⟨v', w', h1, hw.op15 hLi (hdn 14 (by simp)) (hdn 7 (by simp)) hsep hlt h2 h3 h4⟩
theorem step16 (hg : o.guard = none) (hd : o.dst = some 12) (ho : o.op = .assign (.tmp 97)) (hdi : dsts[16]? = some 12) (hvi : vals 16 = none) (hl : lone dsts 16 12 = true) (hB : ∀ σ v, B σ → B (upd σ 12 v)) (hdl : depsB o [0, 7] = true) :
    StepAny Tryd.prog l (IVO dsts vals B (W19 w1 base v12 v13 xs ys x y)) 16 o :=
  IVO_eff [0, 7] hg hd hdi hvi hl hB hdl fun L σ w g hdn hLi hw => ⟨_, w, yd_assign ho, hw.op16 (hdn 0 (by simp)) (hdn 7 (by simp))⟩
theorem step17 (hg : o.guard = none) (hd : o.dst = some 13) (ho : o.op = .assign (.tmp 105)) (hdi : dsts[17]? = some 13) (hvi : vals 17 = none) (hl : lone dsts 17 13 = true) (hB : ∀ σ v, B σ → B (upd σ 13 v)) (hdl : depsB o [8, 15] = true) :
    StepAny Tryd.prog l (IVO dsts vals B (W19 w1 base v12 v13 xs ys x y)) 17 o :=
  IVO_eff [8, 15] hg hd hdi hvi hl hB hdl fun L σ w g hdn hLi hw => ⟨_, w, yd_assign ho, hw.op17 (hdn 8 (by simp)) (hdn 15 (by simp))⟩
end
section
variable {P : Program} {ops : List Oper} {K : Kont} {σ : Env} {w : World} {o : Oper} {rest : List Oper} {v : Value} {d : Nat} {T : TypeId} {x y : Operand}
theorem RL_append2 {e : TypeId} {z : Value} {bytes base m c b p : Nat} {xs news : List Value} (hg : o.guard = none) (hd : o.dst = some d) (ho : o.op = .call ⟨.builtin .append, #[x, y], #[T, T]⟩) (hu : P.underlying T = some (.slice e))
    (hi : sizedT P e = some (1, bytes)) (hz : zeroT P e = some z) (hz1 : z.oneCell' = true) (hx : ev σ x = v) (hy : ev σ y = .slice (some ⟨b, p, none⟩) m c) (hown : Own w base e v xs)
    (hl : news.length = m) (hnews : ∀ j u, news[j]? = some u → w.cell? ⟨b, p + j, none⟩ = some u) (h1 : ∀ u ∈ news, u.oneCell' = true) (hm : 0 < m) (h63 : xs.length + m ≤ 9223372036854775807) (hbytes : (xs.length + m) * bytes ≤ 140737488355328) (hbase : base ≤ w.heap.size)
    (h : ∀ v' w', Own w' base e v' (xs ++ news) → w.grownBy w' v.ownBlock → (v'.ownBlock = v.ownBlock ∨ v'.ownBlock = some w.heap.size) → RL P ops rest (upd σ d v') w' K) : RL P ops (o :: rest) σ w K := by
  obtain ⟨v', w', h2, h3, h4, h5⟩ := run_append2 ho hu hi hz hz1 hx hy hown hl hnews h1 hm h63 hbytes hbase
  exact RL_w hg hd h2 (h v' w' h3 h4 h5)
theorem Own.made1 {base : Nat} {e : TypeId} (hb : base ≤ w.heap.size) : Own (w.alloc (.cells #[v] e (0, 0))) base e (.slice (some ⟨w.heap.size, 0, none⟩) 1 1) [v] :=
  ⟨rfl, .inr ⟨w.heap.size, 1, #[v], rfl, hb, alloc_get, Nat.le_refl _, by decide, rfl, rfl⟩⟩
theorem Own.srcV {base n c : Nat} {e : TypeId} {a : Option Addr} {xs : List Value} (h : Own w base e (.slice a n c) xs) : SrcV w a xs := by
  rcases h.2 with ⟨e1, hn⟩ | ⟨g, cap, cur, e1, hb, hgg, hc, hm, hs, ht⟩
  · exact .inl (List.eq_nil_of_length_eq_zero hn)
  · injection e1 with e1 _ _
    refine .inr ⟨g, 0, e1, blk_lt hgg, fun k x hx => ?_⟩
    rw [Nat.zero_add, cell_of_blk hgg]
    rw [← ht, List.getElem?_take] at hx
    split at hx
    · simpa using hx
    · cases hx
theorem Own.srcH {base n c : Nat} {a : Option Addr} {xs : List Nat} (h : Own w base 5 (.slice a n c) (xs.map u8v)) : SrcH w.heap a xs := by
  rcases h.2 with ⟨e1, hn⟩ | ⟨g, cap, cur, e1, hb, hgg, hc, hm, hs, ht⟩
  · exact .inl (List.map_eq_nil_iff.1 (List.eq_nil_of_length_eq_zero hn))
  · injection e1 with e1 _ _
    refine .inr ⟨g, 0, cur, 5, (0, 0), e1, hgg, fun k x hx => ?_⟩
    rw [Nat.zero_add]
    have hx' : (xs.map u8v)[k]? = some (u8v x) := by rw [List.getElem?_map, hx]; rfl
    rw [← ht, List.getElem?_take] at hx'
    split at hx'
    · simpa using hx'
    · cases hx'
end
theorem rem_ix (p : Int) (n : Nat) (hn : 0 < n) : ∃ q : Nat, q < n ∧ (p.tmod (n : Int) + (n : Int)).tmod (n : Int) = (q : Int) ∧ -(n : Int) < p.tmod (n : Int) ∧ p.tmod (n : Int) < (n : Int) := by
  have h1 := Int.tmod_lt_of_pos p (show (0 : Int) < n by omega)
  have h2 := Int.lt_tmod_of_pos p (show (0 : Int) < n by omega)
  have h3 := Int.tmod_nonneg (a := p.tmod (n : Int) + (n : Int)) (n : Int) (by omega)
  have h4 := Int.tmod_lt_of_pos (p.tmod (n : Int) + (n : Int)) (show (0 : Int) < n by omega)
  exact ⟨((p.tmod (n : Int) + (n : Int)).tmod (n : Int)).toNat, by omega, by omega, h2, h1⟩
theorem and24 (a c : Nat) (ha : a < 256) (hc : c < 16777216) : IntKind.u32.wrap ((BitVec.ofInt IntKind.u32.bits ((a * 16777216 + c : Nat) : Int) &&& BitVec.ofInt IntKind.u32.bits (16777215 : Int)).toNat : Int) = ((c : Nat) : Int) := by
  have h := and_u32 (a * 16777216 + c) 16777215 (by omega) (by decide)
  refine h.trans (congrArg (fun z : Nat => (z : Int)) ?_)
  have h2 := Nat.and_two_pow_sub_one_eq_mod (a * 16777216 + c) 24
  rw [show (2 : Nat) ^ 24 - 1 = 16777215 from rfl, show (2 : Nat) ^ 24 = 16777216 from rfl] at h2
  rw [h2]; omega
theorem shr24' (a c : Nat) (hc : c < 16777216) : (((a * 16777216 + c : Nat) : Int)).fdiv (2 ^ (min ((24 : Int)).toNat IntKind.u32.bits)) = ((a : Nat) : Int) := by
  have h := shr_k .u32 (a * 16777216 + c) 24 (by decide)
  refine h.trans (congrArg (fun z : Nat => (z : Int)) ?_)
  rw [show (2 : Nat) ^ 24 = 16777216 from rfl]; omega
/-- What the oracle's codes say of the symbols. -/
def WantP (H : Array Obj) (W : Nat) (ys : List Nat) : Prop := ∃ f, ArrP H W 35 512 f ∧ ∀ s ∈ ys, s < 256 → ∃ n : Nat, f (2 * s) = .int .i64 (n : Nat) ∧ n ≠ 0
theorem symbolsB {sa sb : Option Addr} {ca cb q : Nat} {cs ys os : List Nat} {tl : List (Nat × Nat × Nat)} {T : Tab} {e1 e2 : Addr} {w0 : World} (hT : T = tabOf cs ys) (hcl : cs.length = 16) (hc256 : ∀ c ∈ cs, c < 256) (hkr : T.Kraft) (hlen : ys.length = T.idx 16) (hpos : 0 < ys.length)
    (hnd : ys.Nodup) (hy : ∀ y ∈ ys, y < 256) (hcd : ∀ t ∈ tl, T.Cd t.1 t.2.1 t.2.2) (hbits : bitsOf os = Tab.tbits tl ++ List.replicate q true) (hos : ∀ o ∈ os, o < 256) (hol : os.length ≤ 4611686018427387904) (htl : tl.length ≤ 2147483647)
    (hSa : SrcH w0.heap sa ([17] ++ cs ++ ys)) (hSb : SrcH w0.heap sb os) (hca : ([17] ++ cs ++ ys).length ≤ ca) (hcb : os.length ≤ cb) (hG : GlobP w0.heap e1 e2) (h2 : 2 < w0.heap.size) (hg : w0.cell? ⟨0, 0, none⟩ = some (rty 65)) :
    Calls Tryd.prog 6 #[.slice sa ([17] ++ cs ++ ys).length ca, .int .i64 1, .int .i64 1, .slice sb os.length cb, .int .i64 ((tl.length : Nat) + 1)] w0 fun e w' => ∃ (v : Value) (c : Nat), e = .returned (.tuple #[v, .int .i64 (c : Nat)]) ∧ Own w' w0.heap.size 5 v ((tl.map (·.1)).map u8v) ∧ c ≠ 0 ∧ Fr NO w0 w' := by
  have hle := nodup_le 256 ys hy hnd
  have hTs : T.syms = ys := by rw [hT]; rfl
  have ok : T.OK := ⟨by rw [hTs]; exact hlen, by rw [hTs]; exact hle, by rw [hTs]; exact hpos, by rw [hTs]; exact hy⟩
  have hd : Dht ([17] ++ cs ++ ys) (fun _ _ => none) (updM (fun _ _ => none) 1 1 T) := by
    have := Tab.seg_dht (T := T) (cs := cs) hcl (fun i hi => by subst hT; rw [List.getElem?_eq_getElem (by omega)]; show some _ = some (cs.getD i 0); rw [List.getD_eq_getElem?_getD, List.getElem?_eq_getElem (by omega)]; rfl) hc256 hkr ok (fun _ _ => none)
    rwa [hTs] at this
  have hdec : decN T (tl.length + 1) (bitsOf os) = (tl.map (·.1), false) := by rw [hbits]; exact Tab.dec_back hkr q tl hcd
  have h := symbols_ok (sa := sa) (sb := sb) (ca := ca) (cb := cb) (n := tl.length + 1) (tc := 1) (th := 1) (T := T) hd (by unfold updM; rw [if_pos ⟨rfl, rfl⟩]) (by decide) (by decide) hSa hSb (by simp; omega) hol hca hcb hos (by omega) hG h2 hg
  rw [hdec] at h
  refine Calls.mono h fun e w' ⟨v, c, he, ho, hc, hF⟩ => ⟨v, c, he, ho, fun h0 => ?_, hF⟩
  have := hc.1 h0
  cases this
end Go.Proofs.YtdjilplpbaackaaDoor.Eng
