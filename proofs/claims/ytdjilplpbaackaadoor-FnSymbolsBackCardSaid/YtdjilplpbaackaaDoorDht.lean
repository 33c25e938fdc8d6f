/- Huffman tables as a segment lays them, plainly; the decoder's cells behind each step. -/
import Derived.Test.YtdjilplpbaackaaDoorFull
import Derived.Test.YtdjilplpbaackaaDoorDecLem
import Derived.Test.YtdjilplpbaackaaDoorEngAgg
set_option linter.unusedVariables false
set_option linter.unusedSimpArgs false
namespace Go.Proofs.YtdjilplpbaackaaDoor.Eng
open Go

namespace Tab
def Kraft (T : Tab) : Prop := ∀ i, i < 16 → T.first i + T.counts i < 2 ^ (i + 1)
theorem first_ge (T : Tab) (m : Nat) : ∀ d, (T.first m + T.counts m) * 2 ^ (d + 1) ≤ T.first (m + (d + 1))
  | 0 => by show _ ≤ (T.first m + T.counts m) * 2; omega
  | d + 1 => by
    have := first_ge T m d
    show _ ≤ (T.first (m + (d + 1)) + T.counts (m + (d + 1))) * 2
    rw [Nat.pow_succ, ← Nat.mul_assoc]
    omega
theorem sym_code {T : Tab} {i j : Nat} (hi : i < 16) (hj : j < T.counts i) (tl : List Bool) :
    ∀ d m, m + d = i → T.symGo (16 - m) m ((T.first i + j) / 2 ^ (d + 1)) (bitsN (T.first i + j) (d + 1) ++ tl) = some (T.syms.getD (T.idx i + j) 0, tl) := by
  intro d
  induction d with
  | zero =>
    intro m hm
    obtain rfl : m = i := by omega
    obtain ⟨f, hf⟩ : ∃ f, 16 - m = f + 1 := ⟨15 - m, by omega⟩
    have hb : 2 * ((T.first m + j) / 2 ^ (0 + 1)) + ((T.first m + j).testBit 0).toNat = T.first m + j := by
      rw [Nat.testBit_zero]
      rcases Nat.mod_two_eq_zero_or_one (T.first m + j) with h | h <;> simp [h] <;> omega
    rw [hf, show bitsN (T.first m + j) (0 + 1) = [(T.first m + j).testBit 0] from rfl, List.singleton_append, symGo, if_pos (by rw [hb]; omega), hb]
    congr 3; omega
  | succ d ih =>
    intro m hm
    obtain ⟨f, hf⟩ : ∃ f, 16 - m = f + 1 := ⟨15 - m, by omega⟩
    have hb : 2 * ((T.first i + j) / 2 ^ (d + 1 + 1)) + ((T.first i + j).testBit (d + 1)).toNat = (T.first i + j) / 2 ^ (d + 1) := by
      rw [Nat.testBit_eq_decide_div_mod_eq, Nat.pow_succ 2 (d + 1), ← Nat.div_div_eq_div_mul]
      generalize (T.first i + j) / 2 ^ (d + 1) = z
      rcases Nat.mod_two_eq_zero_or_one z with h | h <;> simp [h] <;> omega
    have hge := first_ge T m d
    rw [show m + (d + 1) = i by omega] at hge
    have hlt : T.first m + T.counts m ≤ (T.first i + j) / 2 ^ (d + 1) := (Nat.le_div_iff_mul_le (Nat.pow_pos (by decide))).2 (by omega)
    rw [hf, show bitsN (T.first i + j) (d + 1 + 1) = (T.first i + j).testBit (d + 1) :: bitsN (T.first i + j) (d + 1) from rfl, List.cons_append, symGo, if_neg (by rw [hb]; omega), hb]
    have := ih (m + 1) (by omega)
    rwa [show 16 - (m + 1) = f by omega] at this
theorem sym_code' {T : Tab} (hk : T.Kraft) {i j : Nat} (hi : i < 16) (hj : j < T.counts i) (tl : List Bool) :
    T.sym (bitsN (T.first i + j) (i + 1) ++ tl) = some (T.syms.getD (T.idx i + j) 0, tl) := by
  have h1 := sym_code hi hj tl i 0 (by omega)
  have h2 := hk i hi
  rw [Nat.div_eq_of_lt (by omega)] at h1
  exact h1
theorem lut_ok {T : Tab} (hk : T.Kraft) {i j k s : Nat} (hi : i < 8) (hj : j < T.counts i) (hkk : k < 2 ^ (7 - i)) (hs : T.syms[T.idx i + j]? = some s) (h256 : s < 256) :
    T.LutOK ((T.first i + j) * 2 ^ (7 - i) + k) (s * 256 + (i + 2)) := by
  refine ⟨by omega, fun _ => ⟨i + 1, s, by omega, by omega, h256, rfl, fun tl => ?_⟩⟩
  have h1 := bitsN_add ((T.first i + j) * 2 ^ (7 - i) + k) (7 - i) (i + 1)
  rw [show i + 1 + (7 - i) = 8 by omega, Nat.shiftRight_eq_div_pow, Nat.mul_comm, Nat.mul_add_div (Nat.pow_pos (by decide)), Nat.div_eq_of_lt hkk, Nat.add_zero] at h1
  rw [Nat.mul_comm, h1, List.append_assoc, sym_code' hk (by omega) hj]
  congr 2
  · rw [List.getD_eq_getElem?_getD, hs]; rfl
  · rw [List.drop_append, bitsN_length, Nat.sub_self, List.drop_zero, List.drop_eq_nil_of_le (by rw [bitsN_length]; exact Nat.le_refl _)]; rfl
end Tab

/-- The parts of a segment. -/
structure GoodHd (hd : List Nat) (tc th : Nat) (T : Tab) : Prop where
  len : hd.length = 17
  h0 : hd[0]? = some (tc * 16 + th)
  tc : tc ≤ 1
  th : th ≤ 3
  cnt : ∀ i, i < 16 → hd[i + 1]? = some (T.counts i)
  by_ : ∀ i, i < 16 → T.counts i < 256
  kraft : T.Kraft
  ok : T.OK
abbrev TabM := Nat → Nat → Option Tab
def updM (M : TabM) (tc th : Nat) (T : Tab) : TabM := fun a b => if a = tc ∧ b = th then some T else M a b
inductive Dht : List Nat → TabM → TabM → Prop
  | nil (M : TabM) : Dht [] M M
  | cons {hd : List Nat} {tc th : Nat} {T : Tab} {rest : List Nat} {M M' : TabM} : GoodHd hd tc th T → Dht rest (updM M tc th T) M' → Dht (hd ++ (T.syms ++ rest)) M M'
theorem Dht.inv {xs : List Nat} {M M' : TabM} (h : Dht xs M M') (hp : 0 < xs.length) : ∃ hd tc th T rest, GoodHd hd tc th T ∧ Dht rest (updM M tc th T) M' ∧ xs = hd ++ (T.syms ++ rest) := by
  cases h with
  | nil => simp at hp
  | cons h1 h2 => exact ⟨_, _, _, _, _, h1, h2, rfl⟩
theorem Dht.inv0 {xs : List Nat} {M M' : TabM} (h : Dht xs M M') (hp : ¬ 0 < xs.length) : xs = [] ∧ M = M' := by
  cases h with
  | nil => exact ⟨rfl, rfl⟩
  | cons h1 h2 => rw [List.length_append, h1.len] at hp; omega

/-! ### The decoder's cells -/
structure XOK (X : Nat → Option Value) : Prop where
  all : ∀ k, 4103 ≤ k → k < 9020 → (X k).isSome = true
  base : X 4114 = some (.bool false)
def MX (M : TabM) (X : Nat → Option Value) : Prop := ∀ tc th T, tc ≤ 1 → th ≤ 3 → M tc th = some T → T.HufX X (4148 + tc * 2244 + th * 561)
structure WX (X0 X : Nat → Option Value) (hh : Nat) : Prop where
  ok : XOK X
  kp : ∀ k, 4103 ≤ k → k < 8892 → (k < hh ∨ hh + 561 ≤ k) → X k = X0 k
def TmpX (X : Nat → Option Value) (hd : List Nat) : Prop := ∀ k y, hd[k]? = some y → X (8892 + k) = some (u8v y)
def HN (X : Nat → Option Value) (hh n : Nat) : Prop := X hh = some (.int .i32 (n : Nat))
def HL (X : Nat → Option Value) (hh : Nat) (T : Tab) : Prop := ∀ x, x < 256 → ∃ v, X (hh + 1 + x) = some (.int .u16 (v : Nat)) ∧ T.LutOK x v
def HV (X : Nat → Option Value) (hh : Nat) (T : Tab) : Prop := ∀ k s, T.syms[k]? = some s → X (hh + 257 + k) = some (u8v s)
def HC (X : Nat → Option Value) (hh : Nat) (T : Tab) (n : Nat) : Prop := ∀ i, i < n → ∃ mn mx ix : Int, X (hh + 513 + i) = some (.int .i32 mn) ∧ X (hh + 529 + i) = some (.int .i32 mx) ∧ X (hh + 545 + i) = some (.int .i32 ix) ∧
    (T.counts i = 0 → mx = -1) ∧ (0 < T.counts i → mn = T.first i ∧ mx = T.first i + T.counts i - 1 ∧ ix = T.idx i)
section
variable {X X0 : Nat → Option Value} {hh q : Nat} {v : Value} {vs : List Value} {T : Tab} {hd : List Nat} {n : Nat}
theorem updX_ne {k : Nat} (h : k ≠ q) : updX X q v k = X k := if_neg h
theorem updX_same : updX X q v q = some v := if_pos rfl
theorem putRow_ne {k : Nat} (h : k < q ∨ q + vs.length ≤ k) : putRow X q vs k = X k := if_neg (by omega)
theorem putRow_at {k : Nat} (h : k < vs.length) : putRow X q vs (q + k) = vs[k]? := by
  unfold putRow; rw [if_pos (by omega), show q + k - q = k by omega]
theorem XOK.upd (h : XOK X) (hq : q ≠ 4114) : XOK (updX X q v) :=
  ⟨fun k h1 h2 => by
    unfold updX; split
    · rfl
    · exact h.all k h1 h2, (updX_ne (Ne.symm hq)).trans h.base⟩
theorem XOK.row (h : XOK X) (hq : 4114 < q) : XOK (putRow X q vs) :=
  ⟨fun k h1 h2 => putRow_some (h.all k h1 h2), (putRow_ne (by omega)).trans h.base⟩
theorem WX.refl (h : XOK X) : WX X X hh := ⟨h, fun _ _ _ _ => rfl⟩
theorem WX.upd (h : WX X0 X hh) (hq : (4114 < hh ∧ hh ≤ q ∧ q < hh + 561) ∨ 8892 ≤ q) : WX X0 (updX X q v) hh :=
  ⟨h.ok.upd (by omega), fun k h1 h2 h3 => (updX_ne (by omega)).trans (h.kp k h1 h2 h3)⟩
theorem WX.row (h : WX X0 X hh) (hq : (4114 < hh ∧ hh ≤ q ∧ q + vs.length ≤ hh + 561) ∨ (4114 < q ∧ 8892 ≤ q)) : WX X0 (putRow X q vs) hh :=
  ⟨h.ok.row (by omega), fun k h1 h2 h3 => (putRow_ne (by omega)).trans (h.kp k h1 h2 h3)⟩
theorem TmpX.mk' : TmpX (putRow X 8892 (hd.map u8v)) hd := fun k y hk => by
  have hlt : k < hd.length := by
    rcases Nat.lt_or_ge k hd.length with h | h
    · exact h
    · rw [List.getElem?_eq_none h] at hk; cases hk
  rw [putRow_at (by rw [List.length_map]; exact hlt), List.getElem?_map, hk]; rfl
theorem TmpX.upd (h : TmpX X hd) (hq : q < 8892) : TmpX (updX X q v) hd := fun k y hk => (updX_ne (by omega)).trans (h k y hk)
theorem HN.row (h : HN X hh n) (hq : hh < q) : HN (putRow X q vs) hh n := (putRow_ne (.inl hq)).trans h
theorem HN.upd (h : HN X hh n) (hq : hh < q) : HN (updX X q v) hh n := (updX_ne (by omega)).trans h
theorem HV.mk' : HV (putRow X (hh + 257) (T.syms.map u8v)) hh T := fun k y hk => by
  have hlt : k < T.syms.length := by
    rcases Nat.lt_or_ge k T.syms.length with h | h
    · exact h
    · rw [List.getElem?_eq_none h] at hk; cases hk
  rw [putRow_at (by rw [List.length_map]; exact hlt), List.getElem?_map, hk]; rfl
theorem HV.row (h : HV X hh T) (hq : q + vs.length ≤ hh + 257) : HV (putRow X q vs) hh T := fun k y hk => (putRow_ne (.inr (by omega))).trans (h k y hk)
theorem HV.upd (h : HV X hh T) (ok : T.OK) (hq : q < hh + 257 ∨ hh + 513 ≤ q) : HV (updX X q v) hh T := fun k y hk => by
  have hlt : k < T.syms.length := by
    rcases Nat.lt_or_ge k T.syms.length with h | h
    · exact h
    · rw [List.getElem?_eq_none h] at hk; cases hk
  have := ok.le
  exact (updX_ne (by omega)).trans (h k y hk)
theorem HL.mk' : HL (putRow X (hh + 1) (List.replicate 256 (.int .u16 0))) hh T := fun x hx =>
  ⟨0, by rw [putRow_at (by rw [List.length_replicate]; exact hx), List.getElem?_replicate, if_pos hx]; rfl, by decide, fun h => (h rfl).elim⟩
theorem HL.upd (h : HL X hh T) (hq : q ≤ hh ∨ hh + 257 ≤ q) : HL (updX X q v) hh T := fun x hx => by
  obtain ⟨v, h1, h2⟩ := h x hx
  exact ⟨v, (updX_ne (by omega)).trans h1, h2⟩
theorem HL.put (h : HL X hh T) {x y : Nat} (hl : T.LutOK x y) : HL (updX X (hh + 1 + x) (.int .u16 (y : Nat))) hh T := fun x' hx => by
  by_cases he : x' = x
  · subst he; exact ⟨y, updX_same, hl⟩
  · obtain ⟨v, h1, h2⟩ := h x' hx
    exact ⟨v, (updX_ne (by omega)).trans h1, h2⟩
theorem HC.zero : HC X hh T 0 := fun i hi => absurd hi (Nat.not_lt_zero i)
theorem HC.succ {i : Nat} (h : HC X hh T i) (hi : i < 16) {mn mx ix : Int} (h1 : T.counts i = 0 → mx = -1) (h2 : 0 < T.counts i → mn = T.first i ∧ mx = T.first i + T.counts i - 1 ∧ ix = T.idx i) :
    HC (updX (updX (updX X (hh + 513 + i) (.int .i32 mn)) (hh + 529 + i) (.int .i32 mx)) (hh + 545 + i) (.int .i32 ix)) hh T (i + 1) := fun j hj => by
  by_cases he : j = i
  · subst he
    refine ⟨mn, mx, ix, ?_, ?_, updX_same, h1, h2⟩
    · rw [updX_ne (by omega), updX_ne (by omega)]; exact updX_same
    · rw [updX_ne (by omega)]; exact updX_same
  · obtain ⟨mn', mx', ix', a, b, c, d⟩ := h j (by omega)
    refine ⟨mn', mx', ix', ?_, ?_, ?_, d⟩
    · rw [updX_ne (by omega), updX_ne (by omega), updX_ne (by omega)]; exact a
    · rw [updX_ne (by omega), updX_ne (by omega), updX_ne (by omega)]; exact b
    · rw [updX_ne (by omega), updX_ne (by omega), updX_ne (by omega)]; exact c
theorem HufX.mk'' (ok : T.OK) (h1 : HN X hh (T.idx 16)) (h2 : HL X hh T) (h3 : HV X hh T) (h4 : HC X hh T 16) : T.HufX X hh :=
  ⟨ok, by rw [ok.len]; exact h1, h2, h3, h4⟩
theorem HufX.congr (h : T.HufX X0 hh) (hX : ∀ k, hh ≤ k → k < hh + 561 → X k = X0 k) : T.HufX X hh := by
  have hle := h.ok.le
  refine ⟨h.ok, (hX _ (by omega) (by omega)).trans h.n, fun x hx => ?_, fun k s hk => ?_, fun i hi => ?_⟩
  · obtain ⟨v, a, b⟩ := h.lut x hx
    exact ⟨v, (hX _ (by omega) (by omega)).trans a, b⟩
  · have hlt : k < T.syms.length := by
      rcases Nat.lt_or_ge k T.syms.length with h | h
      · exact h
      · rw [List.getElem?_eq_none h] at hk; cases hk
    exact (hX _ (by omega) (by omega)).trans (h.vals k s hk)
  · obtain ⟨mn, mx, ix, a, b, c, d⟩ := h.codes i hi
    exact ⟨mn, mx, ix, (hX _ (by omega) (by omega)).trans a, (hX _ (by omega) (by omega)).trans b, (hX _ (by omega) (by omega)).trans c, d⟩
theorem MX.upd {M : TabM} {tc th : Nat} (h : MX M X0) (htc : tc ≤ 1) (hth : th ≤ 3) (hW : WX X0 X (4148 + tc * 2244 + th * 561)) (hT : T.HufX X (4148 + tc * 2244 + th * 561)) : MX (updM M tc th T) X := by
  intro a b T' ha hb hm
  unfold updM at hm
  split at hm
  · rename_i he; cases hm; rw [he.1, he.2]; exact hT
  · rename_i hne
    refine HufX.congr (h a b T' ha hb hm) fun k h1 h2 => hW.kp k (by omega) (by omega) ?_
    rcases Nat.lt_trichotomy a tc with h3 | h3 | h3
    · left; omega
    · rcases Nat.lt_trichotomy b th with h4 | h4 | h4
      · left; omega
      · exact (hne ⟨h3, h4⟩).elim
      · right; omega
    · right; omega
end

section
variable {w : World} {D R : Nat} {e1 e2 : Addr} {S Hs : List Nat} {u : Nat} {a m n av : Nat} {X : Nat → Option Value}
theorem Strm.setx (h : Strm w.heap D R e1 e2 S Hs u av a m n X) {q : Nat} {v : Value} (hq : 4103 ≤ q) (hx : (X q).isSome = true) : Strm (w.setCell ⟨D, q, none⟩ v).heap D R e1 e2 S Hs u av a m n (updX X q v) := by
  obtain ⟨y, hy⟩ := Option.isSome_iff_exists.1 hx
  obtain ⟨i, j, buf, xs, pos, h, hj⟩ := h; exact ⟨i, j, buf, xs, pos, h.put (h.dec.setx hq hy) h.ij h.sE h.hl h.hi h.hb h.uh, hj⟩
theorem Strm.cellx (h : Strm w.heap D R e1 e2 S Hs u av a m n X) {q : Nat} (hq : 4103 ≤ q) (hx : (X q).isSome = true) : w.cell? ⟨D, q, none⟩ = some ((X q).get hx) :=
  (h.ldx hq).trans (Option.some_get hx).symm
theorem Strm.dlt {H : Array Obj} (h : Strm H D R e1 e2 S Hs u av a m n X) : D < H.size := by
  obtain ⟨i, j, buf, xs, pos, h, hj⟩ := h; obtain ⟨c, hc, _⟩ := h.dec; exact blk_lt hc
theorem Strm.rlt {H : Array Obj} (h : Strm H D R e1 e2 S Hs u av a m n X) : R < H.size := by
  obtain ⟨i, j, buf, xs, pos, h, hj⟩ := h; obtain ⟨_, _, _, hB, _⟩ := h.rdr; exact blk_lt hB
theorem Strm.dlo {H : Array Obj} (h : Strm H D R e1 e2 S Hs u av a m n X) : 2 < D := by obtain ⟨i, j, buf, xs, pos, h, hj⟩ := h; exact h.dlo
theorem Strm.rlo {H : Array Obj} (h : Strm H D R e1 e2 S Hs u av a m n X) : 2 < R := by obtain ⟨i, j, buf, xs, pos, h, hj⟩ := h; exact h.rlo
theorem Strm.keep {H H' : Array Obj} (h : Strm H D R e1 e2 S Hs u av a m n X) (hk : ∀ k, k < H.size → (k ≤ D ∨ k = R) → H'[k]? = H[k]?) : Strm H' D R e1 e2 S Hs u av a m n X := by
  have hd := h.dlt
  have hr := h.rlt
  obtain ⟨i, j, buf, xs, pos, h, hj⟩ := h
  have := h.dlo
  refine ⟨i, j, buf, xs, pos, ⟨h.dec.of_eq (hk D hd (.inl (Nat.le_refl _))), ?_, h.glob.keep (hk 1 (by omega) (.inl (by omega))) (hk 2 (by omega) (.inl (by omega))), h.ne, h.dlo, h.rlo, h.ij, h.jb, h.pb, h.xb, h.sE, h.hl, h.hi, h.hb, h.uh⟩, hj⟩
  obtain ⟨sa, cap, prev, hB, hS, hne, hc⟩ := h.rdr
  exact ⟨sa, cap, prev, (hk R hr (.inr rfl)).trans hB, hS.keep (fun hx b p o e hb => hk b (blk_lt hb) (.inl (Nat.le_of_lt (hne hx b p e).1))), hne, hc⟩
theorem Strm.alloc (h : Strm w.heap D R e1 e2 S Hs u av a m n X) (o : Obj) : Strm (w.alloc o).heap D R e1 e2 S Hs u av a m n X := h.keep fun k hk _ => alloc_old hk
theorem Strm.own (h : Strm w.heap D R e1 e2 S Hs u av a m n X) {B p : Nat} {v : Value} (h1 : D < B) (h2 : R ≠ B) : Strm (w.setCell ⟨B, p, none⟩ v).heap D R e1 e2 S Hs u av a m n X :=
  h.keep fun k hk ho => set_blk_ne (by omega) _
theorem Strm.rowx (h : Strm w.heap D R e1 e2 S Hs u av a m n X) {q : Nat} {vs : List Value} (hq : 4103 ≤ q) (hx : ∀ k, k < vs.length → (X (q + k)).isSome = true) :
    Strm (setCells w D q vs).heap D R e1 e2 S Hs u av a m n (putRow X q vs) := by
  obtain ⟨i, j, buf, xs, pos, h, hj⟩ := h; exact ⟨i, j, buf, xs, pos, h.cpyx hq hx, hj⟩
theorem Strm.fit (h : Strm w.heap D R e1 e2 S Hs u av a m n X) {q l : Nat} (hq : 4103 ≤ q) (hl : 0 < l) (hx : (X (q + (l - 1))).isSome = true) : ∃ cs, w.heap[D]? = some (.cells cs 100 (0, 0)) ∧ q + l ≤ cs.size := by
  obtain ⟨i, j, buf, xs, pos, h, hj⟩ := h
  obtain ⟨cD, hcD, hlay⟩ := h.dec
  refine ⟨cD, hcD, ?_⟩
  rcases Nat.lt_or_ge (q + (l - 1)) cD.size with h | h
  · omega
  · have h2 := hlay (q + (l - 1))
    rw [Array.getElem?_eq_none h] at h2
    unfold lay at h2
    rw [if_neg (by omega), if_neg (by omega), if_neg (by omega)] at h2
    rw [← h2] at hx; cases hx
end
/-! ### A local array of counts -/
def cnt (T : Tab) : Nat → Value := fun j => .int .i32 (T.counts j : Nat)
def cntF (T : Tab) (i : Nat) : Nat → Value := fun j => .int .i32 ((if j < i then T.counts j else 0 : Nat) : Int)
theorem cntF_self (T : Tab) (i : Nat) : cntF T (i + 1) i = .int .i32 (T.counts i : Nat) := by unfold cntF; rw [if_pos (by omega)]
theorem cntF_ne (T : Tab) {i j : Nat} (h : j ≠ i) : cntF T (i + 1) j = cntF T i j := by
  unfold cntF
  by_cases h1 : j < i
  · rw [if_pos h1, if_pos (by omega)]
  · rw [if_neg h1, if_neg (by omega)]
theorem cntF_all (T : Tab) {j : Nat} (h : j < 16) : cntF T 16 j = cnt T j := by unfold cntF cnt; rw [if_pos h]
section
variable {w : World} {B : Nat} {T : TypeId} {n : Nat} {f : Nat → Value}
theorem ArrP.ld0 (h : ArrP w.heap B T n f) {i : Nat} (hi : i < n) {v : Value} (hv : f i = v) : w.cell? ⟨B, 0 + i, none⟩ = some v := by rw [Nat.zero_add, h.ld hi, hv]
theorem ArrP.set0 (h : ArrP w.heap B T n f) {i : Nat} (hi : i < n) {v : Value} {g : Nat → Value} (hv : g i = v) (hg : ∀ j, j < n → j ≠ i → g j = f j) : ArrP (w.setCell ⟨B, 0 + i, none⟩ v).heap B T n g := by
  rw [Nat.zero_add]; exact h.set hi hv hg
end
/-! ### The machine's operations -/
theorem and15_u8 (v : Nat) (hv : v < 256) : IntKind.u8.wrap ((BitVec.ofInt IntKind.u8.bits (v : Int) &&& BitVec.ofInt IntKind.u8.bits (15 : Int)).toNat : Int) = ((v % 16 : Nat) : Int) := by
  have h1 : (BitVec.ofInt IntKind.u8.bits (v : Int)).toNat = v := by
    show (BitVec.ofInt 8 (v : Int)).toNat = v
    rw [BitVec.ofInt_natCast, BitVec.toNat_ofNat]; omega
  have h2 : (BitVec.ofInt IntKind.u8.bits (15 : Int)).toNat = 15 := rfl
  rw [BitVec.toNat_and, h1, h2, wrap_u8, show (15 : Nat) = 2 ^ 4 - 1 from rfl, Nat.and_two_pow_sub_one_eq_mod]
  congr 1; omega
theorem or_add {x k e : Nat} (hk : k < 2 ^ e) : (x * 2 ^ e) ||| k = x * 2 ^ e + k := by
  have := Nat.shiftLeft_add_eq_or_of_lt (a := x) (b := k) (i := e) hk
  rw [Nat.shiftLeft_eq] at this
  exact this.symm
theorem or_u8 (x k e : Nat) (hk : k < 2 ^ e) (hx : x * 2 ^ e + k < 256) : IntKind.u8.wrap ((BitVec.ofInt IntKind.u8.bits ((x * 2 ^ e : Nat) : Int) ||| BitVec.ofInt IntKind.u8.bits (k : Int)).toNat : Int) = ((x * 2 ^ e + k : Nat) : Int) := by
  have h1 : ∀ v : Nat, v < 256 → (BitVec.ofInt IntKind.u8.bits (v : Int)).toNat = v := by
    intro v hv
    show (BitVec.ofInt 8 (v : Int)).toNat = v
    rw [BitVec.ofInt_natCast, BitVec.toNat_ofNat]; omega
  rw [BitVec.toNat_or, h1 _ (by omega), h1 _ (by omega), or_add hk, wrap_u8, Nat.mod_eq_of_lt hx]
theorem or_u16 (x k : Nat) (hk : k < 256) (hx : x < 256) : IntKind.u16.wrap ((BitVec.ofInt IntKind.u16.bits ((x * 256 : Nat) : Int) ||| BitVec.ofInt IntKind.u16.bits (k : Int)).toNat : Int) = ((x * 256 + k : Nat) : Int) := by
  have h1 : ∀ v : Nat, v < 65536 → (BitVec.ofInt IntKind.u16.bits (v : Int)).toNat = v := by
    intro v hv
    show (BitVec.ofInt 16 (v : Int)).toNat = v
    rw [BitVec.ofInt_natCast, BitVec.toNat_ofNat]; omega
  rw [BitVec.toNat_or, h1 _ (by omega), h1 _ (by omega), or_low _ _ hk, wrap_u16, Nat.mod_eq_of_lt (by omega)]
theorem shl8_u16 (x : Nat) (hx : x < 256) : IntKind.u16.wrap ((x : Int) * 2 ^ (min ((8 : Int)).toNat IntKind.u16.bits)) = ((x * 256 : Nat) : Int) := by
  rw [show (2 : Int) ^ (min ((8 : Int)).toNat IntKind.u16.bits) = 256 from rfl, show (x : Int) * 256 = ((x * 256 : Nat) : Int) by omega, wrap_u16, Nat.mod_eq_of_lt (by omega)]
theorem shl1_u8 : ∀ e : Nat, e < 8 → IntKind.u8.wrap ((1 : Int) * 2 ^ (min ((e : Int)).toNat IntKind.u8.bits)) = ((2 ^ e : Nat) : Int) := by decide
end Go.Proofs.YtdjilplpbaackaaDoor.Eng
