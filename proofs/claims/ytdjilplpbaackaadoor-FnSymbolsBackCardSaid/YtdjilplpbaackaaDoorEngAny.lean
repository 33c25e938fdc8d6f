/- The engine: a region that draws its order, walked in whatever order, by what holds of the operations that have come up. -/
import Derived.Test.YtdjilplpbaackaaDoorEngMem
set_option linter.unusedVariables false
set_option linter.unusedSimpArgs false
namespace Go.Proofs.YtdjilplpbaackaaDoor.Eng
open Go

def setL (L : Nat → Bool) (i : Nat) : Nat → Bool := fun j => if j = i then true else L j
def bindsAny (e : Edge) : Bool := Region.binds .any e
/-- Every operation waits for earlier ones alone. -/
def backB : Nat → List Oper → Bool
  | _, [] => true
  | k, o :: r => o.after.toList.all (fun e => !bindsAny e || Nat.blt e.on k) && backB (k + 1) r
theorem backB_spec : ∀ (l : List Oper) (k : Nat), backB k l = true → ∀ i o, l[i]? = some o → ∀ e ∈ o.after, bindsAny e = true → e.on < k + i
  | [], k, h, i, o, hi, e, he, hb => by simp at hi
  | o :: r, k, h, i, o', hi, e, he, hb => by
    simp only [backB, Bool.and_eq_true] at h
    cases i with
    | zero =>
      simp at hi; subst hi
      have := List.all_eq_true.1 h.1 e (Array.mem_toList_iff.2 he)
      simp [hb, Nat.blt_eq] at this
      omega
    | succ i =>
      have := backB_spec r (k + 1) h.2 i o' (by simpa using hi) e he hb
      omega
section
variable {P : Program} {N : Nat} {Kn Kr : Kont} {Kx Kg : List (Nat × Kont)} {σ : Env} {w : World}
/-- What one operation must do in whatever order. -/
def StepAny (P : Program) (l : List Oper) (I : (Nat → Bool) → Env → World → Prop) (i : Nat) (o : Oper) : Prop :=
  ∀ (L : Nat → Bool) (σ : Env) (w : World), I L σ w → L i = false → (∀ e ∈ o.after, bindsAny e = true → L e.on = true) →
    if wantedE l o σ = true then UP P (fun v w' => I (setL L i) (updo σ o.dst v) w') ((execOp (ev σ) o).run P w) else I (setL L i) (updo σ o.dst undef) w
theorem CW_any {id : Nat} {l : List Oper} (I : (Nat → Bool) → Env → World → Prop) (hm : P.follows .mixedOrders = true) (hd : dstOk N l = true) (hback : backB 0 l = true)
    (h0 : I (fun _ => false) σ { w with drawn := w.drawn + 1 }) (step : ∀ i o, l[i]? = some o → StepAny P l I i o)
    (hend : ∀ (L : Nat → Bool) σ w, I L σ w → (∀ i, i < l.length → L i = true) → Kn σ w) : CW P N (.region id l.toArray true) Kn Kr Kx Kg σ w := by
  intro a ha
  have hdd := dstOk_spec hd
  refine wp_region_any hm ?_
  have key : ∀ (fuel : Nat) (listed : Array Bool) (L : Nat → Bool) (a : Act) (σ : Env) (w : World), listed.size = l.length → (∀ i, i < l.length → listed.getD i true = L i ∧ listed.getD i false = L i) →
      (fuel = ((List.range l.length).filter fun i => !L i).length) → Has N a σ → I L σ w → wpAny P .any l.toArray (ExQ N Kn Kr Kx Kg) fuel listed a w := by
    intro fuel
    induction fuel with
    | zero =>
      intro listed L a σ w hsz hL hf ha hI
      have hall : ∀ i, i < l.length → L i = true := by
        intro i hi
        have h1 : (List.range l.length).filter (fun i => !L i) = [] := List.length_eq_zero_iff.1 hf.symm
        have h2 := List.filter_eq_nil_iff.1 h1 i (List.mem_range.2 hi)
        simpa using h2
      refine ⟨?_, σ, ha, hend L σ w hI hall⟩
      rw [List.eq_nil_iff_forall_not_mem]
      intro i hi
      obtain ⟨hu, o, ho, _⟩ := mem_ready.1 hi
      have hlt : i < l.length := by
        rcases Nat.lt_or_ge i l.length with h | h
        · exact h
        · simp [List.getElem?_eq_none h] at ho
      rw [(hL i hlt).1, hall i hlt] at hu
      cases hu
    | succ fuel ih =>
      intro listed L a σ w hsz hL hf ha hI
      -- there is one that has not come up
      have hex : ∃ i, i < l.length ∧ L i = false := by
        have h1 : (List.range l.length).filter (fun i => !L i) ≠ [] := by intro e; rw [e] at hf; simp at hf
        obtain ⟨i, hi⟩ := List.exists_mem_of_ne_nil _ h1
        rw [List.mem_filter, List.mem_range] at hi
        exact ⟨i, hi.1, by simpa using hi.2⟩
      obtain ⟨i0, ⟨hi0, hu0⟩, hmin⟩ := least (p := fun i => i < l.length ∧ L i = false) hex
      have hready : i0 ∈ Region.ready .any l.toArray listed := by
        refine mem_ready.2 ⟨by rw [(hL i0 hi0).1, hu0], l[i0], by simp [hi0], fun e he hb => ?_⟩
        have hlt := backB_spec l 0 hback i0 l[i0] (by simp [hi0]) e he hb
        have hlt' : e.on < l.length := by omega
        rw [(hL e.on hlt').2]
        cases hLe : L e.on with
        | true => rfl
        | false => have := hmin e.on ⟨hlt', hLe⟩; omega
      refine ⟨fun h => (by rw [h] at hready; cases hready), fun i hi => ?_⟩
      obtain ⟨hu, o, ho, hdep⟩ := mem_ready.1 hi
      have hlt : i < l.length := by
        rcases Nat.lt_or_ge i l.length with h | h
        · exact h
        · simp [List.getElem?_eq_none h] at ho
      have ho' : l[i]? = some o := by simpa using ho
      have hLi : L i = false := by rw [← (hL i hlt).1]; exact hu
      have hdep' : ∀ e ∈ o.after, bindsAny e = true → L e.on = true := fun e he hb => by
        have h1 := hdep e he hb
        have hlt2 := backB_spec l 0 hback i o ho' e he hb
        rw [← (hL e.on (by omega)).2]; exact h1
      have hs := step i o ho' L σ w hI hLi hdep'
      have hL' : ∀ k, k < l.length → (listed.setIfInBounds i true).getD k true = setL L i k ∧ (listed.setIfInBounds i true).getD k false = setL L i k := by
        intro k hk
        unfold setL
        by_cases hki : k = i
        · subst hki; simp [hsz, hk]
        · rw [if_neg hki, getD_set_ne true (Ne.symm hki), getD_set_ne false (Ne.symm hki)]; exact hL k hk
      have hf' : fuel = ((List.range l.length).filter fun k => !setL L i k).length := by
        have : ((List.range l.length).filter fun k => !L k).length = ((List.range l.length).filter fun k => !setL L i k).length + 1 := by
          clear hs hL' hL ih hI hf hdep' hdep hready hmin hu0 hi0
          generalize l.length = n at hlt
          induction n with
          | zero => omega
          | succ n ih2 =>
            rw [List.range_succ, List.filter_append, List.filter_append, List.length_append, List.length_append]
            by_cases hin : i = n
            · subst hin
              have e1 : (List.range i).filter (fun k => !setL L i k) = (List.range i).filter (fun k => !L k) := by
                apply List.filter_congr
                intro k hk
                have := List.mem_range.1 hk
                simp [setL, Nat.ne_of_lt this]
              rw [e1]
              simp [hLi, setL]
            · have := ih2 (by omega)
              have e1 : setL L i n = L n := by simp [setL, Ne.symm hin]
              simp only [List.filter_cons, e1, List.filter_nil]
              omega
        omega
      unfold wpOp
      simp only [ho]
      have hdo : ∀ d, o.dst = some d → d < N := hdd o (List.mem_of_getElem? ho')
      split
      · rename_i hw
        rw [wanted_eq ha] at hw
        rw [if_pos hw] at hs
        left
        unfold Oper.wp
        rw [ha.eval]
        generalize (execOp (ev σ) o).run P w = r at hs
        cases r with
        | halt x w' => exact hs.elim
        | ok nx w' =>
          cases nx <;> first | exact hs.elim | skip
          case value v => exact ih _ (setL L i) _ _ _ (by simpa using hsz) hL' hf' (ha.puto hdo v) hs
          case skip => exact ih _ (setL L i) _ _ _ (by simpa using hsz) hL' hf' (ha.puto hdo undef) hs
          case enter f args =>
            refine Calls.mono (R := fun e w' => ∃ v, e = .returned v ∧ I (setL L i) (updo σ o.dst v) w') hs fun e w'' ⟨v, he, hk⟩ => ?_
            subst he
            exact ih _ (setL L i) _ _ _ (by simpa using hsz) hL' hf' (ha.puto hdo v) hk
      · rename_i hw
        rw [wanted_eq ha] at hw
        rw [if_neg hw] at hs
        exact ih _ (setL L i) _ _ _ (by simpa using hsz) hL' hf' (ha.puto hdo undef) hs
  have h2 := key l.length (Array.replicate l.length false) (fun _ => false) a σ { w with drawn := w.drawn + 1 } (by simp) (fun i hi => by simp [hi]) (by
    rw [List.filter_eq_self.2 (by simp), List.length_range]) ha h0
  simpa using h2
end

/-! ### Each operation's value is known; one of them, c, turns the world -/
def IV (dsts : List Nat) (vals : List Value) (B : Env → Prop) (W : Bool → World → Prop) (c : Nat) (L : Nat → Bool) (σ : Env) (w : World) : Prop :=
  (∀ k d v, dsts[k]? = some d → vals[k]? = some v → L k = true → σ d = v) ∧ B σ ∧ W (L c) w
def depsB (o : Oper) (l : List Nat) : Bool := l.all fun j => o.after.toList.any fun e => bindsAny e && Nat.beq e.on j
def lone (dsts : List Nat) (i d : Nat) : Bool := (List.range dsts.length).all fun k => k == i || !(dsts[k]? == some d)
section
variable {P : Program} {l : List Oper} {dsts : List Nat} {vals : List Value} {B : Env → Prop} {W : Bool → World → Prop} {c i d : Nat} {o : Oper} {v : Value}
theorem lone_spec (h : lone dsts i d = true) {k e : Nat} (hk : dsts[k]? = some e) (hki : k ≠ i) : e ≠ d := by
  have hlt : k < dsts.length := by
    rcases Nat.lt_or_ge k dsts.length with h' | h'
    · exact h'
    · rw [List.getElem?_eq_none h'] at hk; cases hk
  have := List.all_eq_true.1 h k (List.mem_range.2 hlt)
  simp only [Bool.or_eq_true, beq_iff_eq, hki, false_or, Bool.not_eq_true'] at this
  intro hed
  rw [hk, hed] at this
  simp at this
theorem depsB_spec {dl : List Nat} (h : depsB o dl = true) {L : Nat → Bool} (hdep : ∀ e ∈ o.after, bindsAny e = true → L e.on = true) : ∀ j ∈ dl, L j = true := by
  intro j hj
  have := List.all_eq_true.1 h j hj
  rw [List.any_eq_true] at this
  obtain ⟨e, he, hb⟩ := this
  simp only [Bool.and_eq_true] at hb
  rw [← Nat.eq_of_beq_eq_true hb.2]; exact hdep e (Array.mem_toList_iff.1 he) hb.1
theorem IV_set (hdi : dsts[i]? = some d) (hvi : vals[i]? = some v) (hl : lone dsts i d = true) {L : Nat → Bool} {σ : Env} (h : ∀ k d v, dsts[k]? = some d → vals[k]? = some v → L k = true → σ d = v) :
    ∀ k d' v', dsts[k]? = some d' → vals[k]? = some v' → setL L i k = true → upd σ d v d' = v' := by
  intro k d' v' hd' hv' hL
  by_cases hki : k = i
  · subst hki
    rw [hdi] at hd'; cases hd'
    rw [hvi] at hv'; cases hv'
    exact upd_same _ _ _
  · rw [upd_ne _ _ _ _ (lone_spec hl hd' hki)]
    simp only [setL, hki, if_false] at hL
    exact h k d' v' hd' hv' hL
theorem IV_pure (dl : List Nat) (hg : o.guard = none) (hd : o.dst = some d) (hdi : dsts[i]? = some d) (hvi : vals[i]? = some v) (hl : lone dsts i d = true) (hB : ∀ σ v, B σ → B (upd σ d v)) (hic : i ≠ c)
    (hdl : depsB o dl = true) (hy : ∀ σ w b, (∀ j, j ∈ dl → ∀ d v, dsts[j]? = some d → vals[j]? = some v → σ d = v) → B σ → W b w → Yd P o σ w v) : StepAny P l (IV dsts vals B W c) i o := by
  intro L σ w ⟨h1, h2, h3⟩ hLi hdep
  have hdp := depsB_spec hdl hdep
  rw [if_pos (wantedE_none hg), hy σ w (L c) (fun j hj d v hd hv => h1 j d v hd hv (hdp j hj)) h2 h3, hd]
  refine ⟨IV_set hdi hvi hl h1, hB _ _ h2, ?_⟩
  simp only [setL, Ne.symm hic, if_false]; exact h3
theorem IV_eff (dl : List Nat) (hg : o.guard = none) (hd : o.dst = some d) (hdi : dsts[c]? = some d) (hvi : vals[c]? = some v) (hl : lone dsts c d = true) (hB : ∀ σ v, B σ → B (upd σ d v))
    (hdl : depsB o dl = true) (hy : ∀ σ w, (∀ j, j ∈ dl → ∀ d v, dsts[j]? = some d → vals[j]? = some v → σ d = v) → B σ → W false w →
      ∃ f args, (execOp (ev σ) o).run P w = .ok (.enter f args) w ∧ Calls P f args w (fun e w' => e = .returned v ∧ W true w')) : StepAny P l (IV dsts vals B W c) c o := by
  intro L σ w ⟨h1, h2, h3⟩ hLi hdep
  have hdp := depsB_spec hdl hdep
  rw [hLi] at h3
  obtain ⟨f, args, hr, hc⟩ := hy σ w (fun j hj d v hd hv => h1 j d v hd hv (hdp j hj)) h2 h3
  rw [if_pos (wantedE_none hg), hr, hd]
  refine hc.mono fun e w' ⟨he, hw'⟩ => ⟨v, he, IV_set hdi hvi hl h1, hB _ _ h2, ?_⟩
  simp only [setL, if_true]; exact hw'
end
def StepsFrom (P : Program) (l : List Oper) (I : (Nat → Bool) → Env → World → Prop) : Nat → List Oper → Prop
  | _, [] => True
  | k, o :: r => StepAny P l I k o ∧ StepsFrom P l I (k + 1) r
theorem StepsFrom.get {P : Program} {l : List Oper} {I : (Nat → Bool) → Env → World → Prop} : ∀ (r : List Oper) (k : Nat), StepsFrom P l I k r → ∀ i o, r[i]? = some o → StepAny P l I (k + i) o
  | [], k, h, i, o, hi => by simp at hi
  | o' :: r, k, h, 0, o, hi => by simp at hi; subst hi; exact h.1
  | o' :: r, k, h, i + 1, o, hi => by
    have := StepsFrom.get r (k + 1) h.2 i o (by simpa using hi)
    rwa [show k + (i + 1) = k + 1 + i by omega]
theorem StepsFrom.all {P : Program} {l : List Oper} {I : (Nat → Bool) → Env → World → Prop} (h : StepsFrom P l I 0 l) (i : Nat) (o : Oper) (hi : l[i]? = some o) : StepAny P l I i o := by
  have := StepsFrom.get l 0 h i o hi
  rwa [Nat.zero_add] at this
end Go.Proofs.YtdjilplpbaackaaDoor.Eng
