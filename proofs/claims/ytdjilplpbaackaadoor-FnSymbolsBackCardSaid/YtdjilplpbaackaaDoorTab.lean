/- Huffman tables and their symbols, plainly; the decoder's cells for a table. -/
import Derived.Test.YtdjilplpbaackaaDoorEns
import Derived.Test.YtdjilplpbaackaaDoorUnread
set_option linter.unusedVariables false
set_option linter.unusedSimpArgs false
namespace Go.Proofs.YtdjilplpbaackaaDoor.Eng
open Go

/-- A table: counts i is the number of codes of i + 1 bits. -/
structure Tab where
  counts : Nat → Nat
  syms : List Nat
namespace Tab
def first (T : Tab) : Nat → Nat
  | 0 => 0
  | i + 1 => (T.first i + T.counts i) * 2
def idx (T : Tab) : Nat → Nat
  | 0 => 0
  | i + 1 => T.idx i + T.counts i
structure OK (T : Tab) : Prop where
  len : T.syms.length = T.idx 16
  le : T.syms.length ≤ 256
  pos : 0 < T.syms.length
  by_ : ∀ s ∈ T.syms, s < 256
theorem idx_mono (T : Tab) {i : Nat} : ∀ {j : Nat}, i ≤ j → T.idx i ≤ T.idx j
  | 0, h => by obtain rfl : i = 0 := by omega
               exact Nat.le_refl _
  | j + 1, h => by
    rcases Nat.lt_or_ge i (j + 1) with h1 | h1
    · have := T.idx_mono (i := i) (j := j) (by omega); simp only [idx]; omega
    · obtain rfl : i = j + 1 := by omega
      exact Nat.le_refl _
def symGo (T : Tab) : Nat → Nat → Nat → List Bool → Option (Nat × List Bool)
  | 0, _, _, _ => none
  | _ + 1, _, _, [] => none
  | f + 1, i, cp, b :: bs =>
    if 2 * cp + b.toNat < T.first i + T.counts i then some (T.syms.getD (T.idx i + (2 * cp + b.toNat - T.first i)) 0, bs)
    else T.symGo f (i + 1) (2 * cp + b.toNat) bs
def sym (T : Tab) (bs : List Bool) : Option (Nat × List Bool) := T.symGo 16 0 0 bs
def LutOK (T : Tab) (x v : Nat) : Prop := v < 65536 ∧ (v ≠ 0 → ∃ L s, 1 ≤ L ∧ L ≤ 8 ∧ s < 256 ∧ v = s * 256 + (L + 1) ∧ ∀ tl, T.sym (bitsN x 8 ++ tl) = some (s, (bitsN x 8).drop L ++ tl))
/-- The cells from hh on hold the decoder's form of the table. -/
structure HufX (X : Nat → Option Value) (hh : Nat) (T : Tab) : Prop where
  ok : T.OK
  n : X hh = some (.int .i32 (T.syms.length : Nat))
  lut : ∀ x, x < 256 → ∃ v, X (hh + 1 + x) = some (.int .u16 (v : Nat)) ∧ T.LutOK x v
  vals : ∀ k s, T.syms[k]? = some s → X (hh + 257 + k) = some (u8v s)
  codes : ∀ i, i < 16 → ∃ mn mx ix : Int, X (hh + 513 + i) = some (.int .i32 mn) ∧ X (hh + 529 + i) = some (.int .i32 mx) ∧ X (hh + 545 + i) = some (.int .i32 ix) ∧
    (T.counts i = 0 → mx = -1) ∧ (0 < T.counts i → mn = T.first i ∧ mx = T.first i + T.counts i - 1 ∧ ix = T.idx i)
end Tab

/-- The decoder has these bits left. -/
def BS (H : Array Obj) (D R : Nat) (e1 e2 : Addr) (X : Nat → Option Value) (bs : List Bool) : Prop :=
  ∃ S Hs u av a m n, Strm H D R e1 e2 S Hs u av a m n X ∧ BitsSt a m n ∧ bitsN a n ++ bitsOf S = bs ∧ ∀ x ∈ S, x < 256

theorem unread_strm {D R : Nat} {e1 e2 : Addr} {S Hs : List Nat} {u av a m n : Nat} {X : Nat → Option Value} {w0 : World} (hs : Strm w0.heap D R e1 e2 S Hs u av a m n X) (hn : n < 8) :
    Calls Tryd.prog 29 #[.pointer (some ⟨D, 0, none⟩)] w0 fun e w' => e = .returned (.tuple #[]) ∧ (∃ Hs' av', Strm w'.heap D R e1 e2 ((Hs.take u).reverse ++ S) Hs' 0 av' a m n X) ∧ Fr (DR D R) w0 w' := by
  obtain ⟨i, j, buf, xs, pos, h, hj⟩ := hs
  have h1 := h.uh
  have h2 := h.hi
  have h3 := h.jb
  have h4 := h.ij
  have h5 := h.hl
  refine (unread_any h.dec hn (by omega) (by omega)).mono fun e w' ⟨he, hD, hF⟩ => ⟨he, ⟨Hs.drop u, j - (i - u), i - u, j, buf, xs, pos, ?_, by omega⟩, hF.mono fun k _ hk => .inl hk⟩
  have hk : ∀ k, k ≠ D → k < w0.heap.size → w'.heap[k]? = w0.heap[k]? := fun k hk hl => hF.block k hl hk
  have hR : R < w0.heap.size := by obtain ⟨_, _, _, hB, _⟩ := h.rdr; exact blk_lt hB
  refine ⟨hD, ?_, ?_, h.ne, h.dlo, h.rlo, by omega, h.jb, h.pb, h.xb, ?_, ?_, ?_, ?_, Nat.zero_le _⟩
  · obtain ⟨sa, cap, prev, hB, hS, hne, hc⟩ := h.rdr
    refine ⟨sa, cap, prev, (hk R (Ne.symm h.ne) hR).trans hB, ?_, hne, hc⟩
    exact hS.keep fun hx b p o e hb => hk b (Nat.ne_of_lt (hne hx b p e).1) (blk_lt hb)
  · have := h.dlo
    exact h.glob.fr hF (by omega) (by omega)
  · rw [h.sE]
    have key : ∀ u, u ≤ Hs.length → u ≤ i → (Hs.take u).reverse ++ (seg buf i (j - i) ++ xs.drop pos) = seg buf (i - u) (j - (i - u)) ++ xs.drop pos := by
      intro u
      induction u with
      | zero => intro _ _; simp
      | succ u ih =>
        intro hu hi
        rw [List.take_add_one, List.reverse_append, List.append_assoc, ih (by omega) (by omega)]
        have hlt : u < Hs.length := by omega
        have hb := h.hb u _ (List.getElem?_eq_getElem hlt)
        rw [List.getElem?_eq_getElem hlt]
        simp only [Option.toList_some, List.reverse_singleton, List.singleton_append]
        rw [show j - (i - (u + 1)) = (j - (i - u)) + 1 by omega, seg_succ, List.cons_append, show i - (u + 1) + 1 = i - u by omega, ← hb]
        rw [show i - 1 - u = i - (u + 1) by omega]
    exact key u h1 (by omega)
  · simp; omega
  · simp; omega
  · intro k x hx
    rw [List.getElem?_drop] at hx
    have := h.hb (u + k) x hx
    rw [← this]; congr 1; omega
end Go.Proofs.YtdjilplpbaackaaDoor.Eng
