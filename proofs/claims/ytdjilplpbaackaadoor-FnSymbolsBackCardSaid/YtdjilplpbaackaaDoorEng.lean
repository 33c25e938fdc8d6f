/- The engine: a run of a function's code over an environment of slots, one rule for each form of code and one lemma for each operation. -/
import Derived.Test.YtdjilplpbaackaaDoorProg
import Derived.Calls
import Derived.Tactics
import Derived.StillTail
import Derived.ScopeJumps
import Derived.Below
import Derived.KernelRfl
import Derived.Laws.Sem
import Derived.Laws.World
set_option linter.unusedVariables false
set_option linter.unusedSimpArgs false
namespace Go.Proofs.YtdjilplpbaackaaDoor.Eng
open Go

abbrev Env := Nat → Value
def upd (σ : Env) (d : Nat) (v : Value) : Env := fun t => cond (Nat.beq t d) v (σ t)
def updo (σ : Env) (d : Option Nat) (v : Value) : Env := match d with | some d => upd σ d v | none => σ
def ev (σ : Env) : Operand → Value
  | .tmp t => σ t
  | .const v => v
  | .global g => .pointer (some ⟨g, 0, none⟩)
  | .func f => .func (.func f) #[] #[]
structure Has (N : Nat) (a : Act) (σ : Env) : Prop where
  size : a.tmps.size = N
  defers : a.defers = []
  get : ∀ t, a.tmps.getD t undef = σ t

theorem upd_same (σ : Env) (d : Nat) (v : Value) : upd σ d v d = v := by simp [upd, Nat.beq_refl]
theorem upd_ne (σ : Env) (d t : Nat) (v : Value) (h : t ≠ d) : upd σ d v t = σ t := by
  have : Nat.beq t d = false := by
    rw [← Bool.not_eq_true]; intro e; exact h (Nat.eq_of_beq_eq_true e)
  simp [upd, this]

theorem Has.eval {N : Nat} {a : Act} {σ : Env} (h : Has N a σ) : a.eval = ev σ := by
  funext x
  cases x with
  | tmp t => exact h.get t
  | _ => rfl
theorem Has.put {N : Nat} {a : Act} {σ : Env} (h : Has N a σ) {d : Nat} (hd : d < N) (v : Value) : Has N (a.put (some d) v) (upd σ d v) := by
  refine ⟨by simpa [Act.put] using h.size, by simpa [Act.put] using h.defers, fun t => ?_⟩
  have hs := h.size
  by_cases ht : t = d
  · subst ht
    rw [upd_same]
    simp [Act.put, Array.getD, hs, hd]
  · rw [upd_ne _ _ _ _ ht]
    rw [← h.get t]
    simp [Act.put, Array.getD_eq_getD_getElem?, Array.getElem?_setIfInBounds, Ne.symm ht]
theorem Has.puto {N : Nat} {a : Act} {σ : Env} (h : Has N a σ) {d : Option Nat} (hd : ∀ x, d = some x → x < N) (v : Value) : Has N (a.put d v) (updo σ d v) := by
  cases d with
  | none => exact h
  | some d => exact h.put (hd d rfl) v

/-- What the guard's operation has yielded. -/
def gb (ops : List Oper) (σ : Env) (j : Nat) : Option Bool :=
  match (ops[j]?).bind (·.dst) with
  | some t => (match σ t with | .bool b => some b | _ => none)
  | none => none
def wantedE (ops : List Oper) (o : Oper) (σ : Env) : Bool :=
  match o.guard with
  | none => true
  | some (j, want) => match gb ops σ j with | some b => (match b, want with | true, true => true | false, false => true | _, _ => false) | none => false

theorem wanted_eq {N : Nat} {a : Act} {σ : Env} (h : Has N a σ) (ops : List Oper) (o : Oper) :
    Region.wanted o (yielded ops.toArray a.tmps) = wantedE ops o σ := by
  unfold Region.wanted wantedE
  cases ho : o.guard with
  | none => rfl
  | some g =>
    obtain ⟨j, want⟩ := g
    simp only
    have e : yielded ops.toArray a.tmps j = gb ops σ j := by
      unfold yielded gb
      simp only [List.getElem?_toArray]
      cases hj : (ops[j]?).bind (·.dst) with
      | none => simp
      | some t =>
        simp only [Option.bind_some]
        have ht := h.get t
        rw [Array.getD_eq_getD_getElem?] at ht
        cases hx : a.tmps[t]? with
        | none => rw [hx] at ht; simp only [Option.getD_none] at ht; rw [← ht]; rfl
        | some v => rw [hx] at ht; simp only [Option.getD_some] at ht; rw [← ht]; cases v <;> rfl
    rw [e]
    cases gb ops σ j with
    | none => cases want <;> rfl
    | some b => cases b <;> cases want <;> rfl

/-- What is asked of one operation's outcome. -/
def UP (P : Program) (k : Value → World → Prop) : Result Next → Prop
  | .ok (.value v) w => k v w
  | .ok .skip w => k undef w
  | .ok (.enter f args) w => Calls P f args w (fun e w' => ∃ v, e = .returned v ∧ k v w')
  | _ => False
def RL (P : Program) (ops : List Oper) : List Oper → Env → World → (Env → World → Prop) → Prop
  | [], σ, w, K => K σ w
  | o :: rest, σ, w, K =>
    if wantedE ops o σ = true then UP P (fun v w' => RL P ops rest (updo σ o.dst v) w' K) ((execOp (ev σ) o).run P w)
    else RL P ops rest (updo σ o.dst undef) w K

theorem RL_sound {P : Program} {ops : List Oper} {N : Nat} {K : Env → World → Prop} {Q : Exit → Act → World → Prop}
    (hK : ∀ a σ w, Has N a σ → K σ w → Q .normal a w) :
    ∀ (l : List Oper) (σ : Env) (w : World) (a : Act), (∀ o ∈ l, ∀ d, o.dst = some d → d < N) → Has N a σ → RL P ops l σ w K → wpList P ops.toArray Q l a w
  | [], σ, w, a, _, h, hr => hK a σ w h hr
  | o :: l, σ, w, a, hd, h, hr => by
    have hdo := hd o (List.mem_cons_self ..)
    have hdl : ∀ o ∈ l, ∀ d, o.dst = some d → d < N := fun o' ho' => hd o' (List.mem_cons_of_mem _ ho')
    unfold wpList
    rw [wanted_eq h]
    unfold RL at hr
    split at hr
    · rename_i hw
      rw [if_pos hw]
      left
      unfold Oper.wp
      rw [h.eval]
      generalize (execOp (ev σ) o).run P w = r at *
      cases r with
      | halt x w' => exact hr.elim
      | ok n w' =>
        cases n <;> first | exact hr.elim | skip
        case value v => exact RL_sound hK l _ _ _ hdl (h.puto hdo v) hr
        case skip => exact RL_sound hK l _ _ _ hdl (h.puto hdo undef) hr
        case enter f args =>
          refine Calls.mono (R := fun e w' => ∃ v, e = .returned v ∧ RL P ops l (updo σ o.dst v) w' K) hr fun e w'' ⟨v, he, hk⟩ => ?_
          subst he
          exact RL_sound hK l _ _ _ hdl (h.puto hdo v) hk
    · rename_i hw
      rw [if_neg hw]
      exact RL_sound hK l _ _ _ hdl (h.puto hdo undef) hr

/-- A run that leaves the world alone: for the head of a region that draws its order. -/
def RS (P : Program) (ops : List Oper) (w : World) : List Oper → Env → (Env → Prop) → Prop
  | [], σ, K => K σ
  | o :: rest, σ, K =>
    if wantedE ops o σ = true then ∃ v, (execOp (ev σ) o).run P w = .ok (.value v) w ∧ RS P ops w rest (updo σ o.dst v) K
    else RS P ops w rest (updo σ o.dst undef) K
theorem RS_sound {P : Program} {ops : List Oper} {N : Nat} {w : World} {K : Env → Prop} {Q : Act → Prop}
    (hK : ∀ a σ, Has N a σ → K σ → Q a) :
    ∀ (l : List Oper) (σ : Env) (a : Act), (∀ o ∈ l, ∀ d, o.dst = some d → d < N) → Has N a σ → RS P ops w l σ K → wpStill P ops.toArray w Q l a
  | [], σ, a, _, h, hr => hK a σ h hr
  | o :: l, σ, a, hd, h, hr => by
    have hdo := hd o (List.mem_cons_self ..)
    have hdl : ∀ o ∈ l, ∀ d, o.dst = some d → d < N := fun o' ho' => hd o' (List.mem_cons_of_mem _ ho')
    unfold wpStill
    rw [wanted_eq h]
    unfold RS at hr
    split at hr
    · rename_i hw
      obtain ⟨v, hv, hr⟩ := hr
      rw [if_pos hw]
      unfold Oper.still
      rw [h.eval, hv]
      exact ⟨rfl, RS_sound hK l _ _ hdl (h.puto hdo v) hr⟩
    · rename_i hw
      rw [if_neg hw]
      exact RS_sound hK l _ _ hdl (h.puto hdo undef) hr

/-- The head of n operations leaves the world alone, the rest is walked. -/
def RD (P : Program) (ops : List Oper) (w : World) : Nat → List Oper → Env → (Env → World → Prop) → Prop
  | 0, l, σ, K => RL P ops l σ w K
  | _ + 1, [], _, _ => False
  | n + 1, o :: rest, σ, K =>
    if wantedE ops o σ = true then ∃ v, (execOp (ev σ) o).run P w = .ok (.value v) w ∧ RD P ops w n rest (updo σ o.dst v) K
    else RD P ops w n rest (updo σ o.dst undef) K
theorem RD_split {P : Program} {ops : List Oper} {w : World} {K : Env → World → Prop} : ∀ (n : Nat) (l : List Oper) (σ : Env), RD P ops w n l σ K →
    RS P ops w (l.take n) σ (fun σ => RL P ops (l.drop n) σ w K)
  | 0, l, σ, h => h
  | n + 1, [], σ, h => h.elim
  | n + 1, o :: rest, σ, h => by
    unfold RD at h
    simp only [List.take_succ_cons, List.drop_succ_cons]
    unfold RS
    split at h
    · rename_i hw
      rw [if_pos hw]
      obtain ⟨v, h1, h2⟩ := h
      exact ⟨v, h1, RD_split n rest _ h2⟩
    · rename_i hw
      rw [if_neg hw]
      exact RD_split n rest _ h
/-! ### Code -/
abbrev Kont := Env → World → Prop
def asc (l : List (Nat × Kont)) (i : Nat) : Option Kont :=
  match l with
  | [] => none
  | (j, K) :: r => cond (Nat.beq i j) (some K) (asc r i)
def ExQ (N : Nat) (Kn Kr : Kont) (Kx Kg : List (Nat × Kont)) : Exit → Act → World → Prop
  | .normal, a, w => ∃ σ, Has N a σ ∧ Kn σ w
  | .ret, a, w => ∃ σ, Has N a σ ∧ Kr σ w
  | .exit i, a, w => ∃ σ K, Has N a σ ∧ asc Kx i = some K ∧ K σ w
  | .goto i, a, w => ∃ σ K, Has N a σ ∧ asc Kg i = some K ∧ K σ w
  | _, _, _ => False
def CW (P : Program) (N : Nat) (c : Code) (Kn Kr : Kont) (Kx Kg : List (Nat × Kont)) (σ : Env) (w : World) : Prop :=
  ∀ a, Has N a σ → c.wp P (ExQ N Kn Kr Kx Kg) a w
section rules
variable {P : Program} {N : Nat} {Kn Kr : Kont} {Kx Kg : List (Nat × Kont)} {σ : Env} {w : World}
theorem CW.mono {c : Code} {Kn' : Kont} (hn : ∀ σ w, Kn σ w → Kn' σ w) (h : CW P N c Kn Kr Kx Kg σ w) : CW P N c Kn' Kr Kx Kg σ w := by
  intro a ha
  refine Go.wp_mono (h a ha) fun e a w hq => ?_
  cases e <;> first | exact hq | skip
  obtain ⟨σ, h1, h2⟩ := hq
  exact ⟨σ, h1, hn _ _ h2⟩
theorem CW_seq {x y : Code} (h : ∀ K : Kont, (∀ σ w, CW P N y Kn Kr Kx Kg σ w → K σ w) → CW P N x K Kr Kx Kg σ w) : CW P N (.seq x y) Kn Kr Kx Kg σ w := by
  intro a ha
  refine wp_seq (Go.wp_mono (h _ (fun _ _ h => h) a ha) fun e a w hq => ?_)
  cases e with
  | normal => obtain ⟨σ, h1, h2⟩ := hq; exact h2 a h1
  | _ => exact hq
/-- A cut: what holds between the two parts, said once. -/
theorem CW_cut {x y : Code} (R : Kont) (h : CW P N x R Kr Kx Kg σ w) (hy : ∀ σ w, R σ w → CW P N y Kn Kr Kx Kg σ w) : CW P N (.seq x y) Kn Kr Kx Kg σ w :=
  CW_seq fun _ hK => h.mono fun σ w hr => hK σ w (hy σ w hr)
theorem CW_skip (h : Kn σ w) : CW P N .skip Kn Kr Kx Kg σ w := fun a ha => wp_skip ⟨σ, ha, h⟩
theorem CW_label {l : Nat} (h : Kn σ w) : CW P N (.label l) Kn Kr Kx Kg σ w := fun a ha => wp_label ⟨σ, ha, h⟩
theorem CW_ret (h : Kr σ w) : CW P N .ret Kn Kr Kx Kg σ w := fun a ha => wp_ret ⟨σ, ha, h⟩
theorem CW_exit {i : Nat} {K : Kont} (hi : asc Kx i = some K) (h : K σ w) : CW P N (.exit i) Kn Kr Kx Kg σ w := fun a ha => wp_exit ⟨σ, K, ha, hi, h⟩
theorem CW_goto {i : Nat} {K : Kont} (hi : asc Kg i = some K) (h : K σ w) : CW P N (.goto i) Kn Kr Kx Kg σ w := fun a ha => wp_goto ⟨σ, K, ha, hi, h⟩
theorem CW_t {c : Operand} {x y : Code} (hc : ev σ c = .bool true) (h : CW P N x Kn Kr Kx Kg σ w) : CW P N (.cond c x y) Kn Kr Kx Kg σ w :=
  fun a ha => wp_cond_true (by rw [ha.eval]; exact hc) (h a ha)
theorem CW_f {c : Operand} {x y : Code} (hc : ev σ c = .bool false) (h : CW P N y Kn Kr Kx Kg σ w) : CW P N (.cond c x y) Kn Kr Kx Kg σ w :=
  fun a ha => wp_cond_false (by rw [ha.eval]; exact hc) (h a ha)
theorem CW_block {i : Nat} {c : Code} (h : CW P N c Kn Kr ((i, Kn) :: Kx) Kg σ w) : CW P N (.block i c) Kn Kr Kx Kg σ w := by
  intro a ha
  refine wp_block (Go.wp_mono (h a ha) fun e a w hq => ?_)
  cases e <;> first | exact hq | skip
  rename_i j
  obtain ⟨σ, K, h1, h2, h3⟩ := hq
  simp only [asc] at h2
  simp only [Exit.inBlock]
  by_cases hj : j = i
  · subst hj
    rw [Nat.beq_refl] at h2
    simp only [cond_true] at h2
    cases h2
    rw [if_pos rfl]
    exact ⟨σ, h1, h3⟩
  · have : Nat.beq j i = false := by
      rw [← Bool.not_eq_true]; intro e; exact hj (Nat.eq_of_beq_eq_true e)
    rw [this] at h2
    rw [if_neg hj]
    exact ⟨σ, K, h1, h2, h3⟩
theorem least {p : Nat → Prop} (h : ∃ n, p n) : ∃ n, p n ∧ ∀ m, p m → n ≤ m := by
  obtain ⟨n, hn⟩ := h
  induction n using Nat.strongRecOn with
  | _ n ih =>
    by_cases hm : ∃ m, m < n ∧ p m
    · obtain ⟨m, hlt, hp⟩ := hm; exact ih m hlt hp
    · exact ⟨n, hn, fun m hp => by
        rcases Nat.lt_or_ge m n with h | h
        · exact (hm ⟨m, h, hp⟩).elim
        · exact h⟩
open Classical in
theorem CW_loop {c : Code} (I : Env → World → Nat → Prop) {n : Nat} (h0 : I σ w n)
    (round : ∀ σ w n, I σ w n → ∀ K : Kont, (∀ σ w, (∃ m, m < n ∧ I σ w m) → K σ w) → CW P N c K Kr Kx Kg σ w) : CW P N (.loop c) Kn Kr Kx Kg σ w := by
  intro a ha
  let p (a : Act) (w : World) (n : Nat) : Prop := ∃ σ, Has N a σ ∧ I σ w n
  let μ (a : Act) (w : World) : Nat := if h : ∃ n, p a w n then Classical.choose (least h) else 0
  have hμ : ∀ a w m, p a w m → p a w (μ a w) ∧ μ a w ≤ m := by
    intro a w m hm
    have h : ∃ n, p a w n := ⟨m, hm⟩
    have hs := Classical.choose_spec (least h)
    have e : μ a w = Classical.choose (least h) := dif_pos h
    rw [e]
    exact ⟨hs.1, hs.2 m hm⟩
  refine wp_loop (fun a w => ∃ n, p a w n) μ ⟨n, σ, ha, h0⟩ ?_
  intro a w ⟨m, hm⟩
  obtain ⟨hp, _⟩ := hμ a w m hm
  obtain ⟨σ, ha, hI⟩ := hp
  refine Go.wp_mono (round σ w _ hI _ (fun _ _ h => h) a ha) fun e a' w' hq => ?_
  cases e <;> first | exact hq | skip
  obtain ⟨σ', h1, m', hlt, hI'⟩ := hq
  have hp' : p a' w' m' := ⟨σ', h1, hI'⟩
  exact ⟨⟨m', hp'⟩, Nat.lt_of_le_of_lt (hμ a' w' m' hp').2 hlt⟩
/-- A scope with one label that is jumped to forward. -/
theorem CW_scope {c rest : Code} (l : Nat) (J : Kont) (hf : findLabel c l = some rest)
    (first : CW P N c Kn Kr Kx [(l, J)] σ w) (pass : ∀ σ w, J σ w → CW P N rest Kn Kr Kx [] σ w) : CW P N (.scope c) Kn Kr Kx Kg σ w := by
  intro a ha
  refine wp_scope_jumps l (fun a w => ∃ σ, Has N a σ ∧ J σ w) (fun _ _ => 0) hf (Go.wp_mono (first a ha) fun e a w hq => ?_) fun a w ⟨σ, ha, hJ⟩ => Go.wp_mono (pass σ w hJ a ha) fun e a w hq => ?_
  · cases e <;> first | exact hq | skip
    rename_i j
    obtain ⟨σ, K, h1, h2, h3⟩ := hq
    simp only [asc] at h2
    by_cases hj : j = l
    · subst hj
      rw [Nat.beq_refl] at h2
      simp only [cond_true] at h2
      cases h2
      simp only [Exit.jump]
      exact ⟨trivial, σ, h1, h3⟩
    · have : Nat.beq j l = false := by
        rw [← Bool.not_eq_true]; intro e; exact hj (Nat.eq_of_beq_eq_true e)
      rw [this] at h2
      simp at h2
  · cases e <;> first | exact hq | skip
    obtain ⟨σ, K, h1, h2, h3⟩ := hq
    simp [asc] at h2
def dstOk (N : Nat) (ops : List Oper) : Bool := ops.all fun o => match o.dst with | some d => Nat.blt d N | none => true
theorem dstOk_spec {ops : List Oper} (h : dstOk N ops = true) : ∀ o ∈ ops, ∀ d, o.dst = some d → d < N := by
  intro o ho d hd
  have := List.all_eq_true.1 h o ho
  rw [hd] at this
  simpa [Nat.blt_eq] using this
theorem CW_region {id : Nat} {l : List Oper} (hd : dstOk N l = true) (h : RL P l l σ w Kn) : CW P N (.region id l.toArray false) Kn Kr Kx Kg σ w :=
  fun a ha => wp_region_lit (RL_sound (fun a σ w h1 h2 => ⟨σ, h1, h2⟩) l σ w a (dstOk_spec hd) ha h)
/-- A region that draws its order: all before operation n leaves the world alone. -/
theorem CW_draw {id : Nat} {l : List Oper} (n : Nat) (hm : P.follows .mixedOrders = true) (hB : Region.lexTailB .any l.toArray n = true) (hd : dstOk N l = true)
    (h : RD P l { w with drawn := w.drawn + 1 } n l σ Kn) : CW P N (.region id l.toArray true) Kn Kr Kx Kg σ w := by
  intro a ha
  have hdd := dstOk_spec hd
  refine wp_region_still_tail n hm hB (RS_sound (fun a σ h1 h2 => ?_) _ σ a (fun o ho => hdd o (List.mem_of_mem_take ho)) ha (RD_split n l σ h))
  exact RL_sound (fun a σ w h1 h2 => ⟨σ, h1, h2⟩) _ σ _ a (fun o ho => hdd o (List.mem_of_mem_drop ho)) h1 h2
/-- The same for a region that only reads. -/
theorem CW_quiet {id : Nat} {l : List Oper} (hm : P.follows .mixedOrders = true) (hB : Region.lexB .any l.toArray = true) (hd : dstOk N l = true)
    (h : RS P l { w with drawn := w.drawn + 1 } l σ (fun σ => Kn σ { w with drawn := w.drawn + 1 })) : CW P N (.region id l.toArray true) Kn Kr Kx Kg σ w := by
  intro a ha
  exact wp_region_still_lit hm hB (RS_sound (fun a σ h1 h2 => ⟨σ, h1, h2⟩) _ σ a (dstOk_spec hd) ha h)
theorem CW_gen {c : Code} {σ' : Env} (h : CW P N c Kn Kr Kx Kg σ' w) (he : σ = σ') : CW P N c Kn Kr Kx Kg σ w := he ▸ h
theorem K_seq {y : Code} {K : Kont} (hK : ∀ σ w, CW P N y Kn Kr Kx Kg σ w → K σ w) (h : CW P N y Kn Kr Kx Kg σ w) : K σ w := hK σ w h
end rules
end Go.Proofs.YtdjilplpbaackaaDoor.Eng
