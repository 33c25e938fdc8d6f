/- Memory: blocks, frames, and the block of the package's decoder. -/
import Derived.Test.YtdjilplpbaackaaDoorEngOps
set_option linter.unusedVariables false
set_option linter.unusedSimpArgs false
namespace Go.Proofs.YtdjilplpbaackaaDoor.Eng
open Go

theorem cell_of_blk {w : World} {b p : Nat} {c : Array Value} {T : TypeId} {fr : Nat × Nat} (h : w.heap[b]? = some (.cells c T fr)) : w.cell? ⟨b, p, none⟩ = c[p]? := by
  simp [World.cell?, h]
theorem frozen_of_blk {w : World} {b p : Nat} {c : Array Value} {T : TypeId} (h : w.heap[b]? = some (.cells c T (0, 0))) : w.frozen? ⟨b, p, none⟩ = false := by
  simp [World.frozen?, h]
theorem set_blk_same {w : World} {b p : Nat} {c : Array Value} {T : TypeId} {fr : Nat × Nat} (h : w.heap[b]? = some (.cells c T fr)) (v : Value) :
    (w.setCell ⟨b, p, none⟩ v).heap[b]? = some (.cells (c.setIfInBounds p v) T fr) := by
  simp [World.setCell, Array.getElem?_modify, h]
theorem set_blk_ne {w : World} {b p k : Nat} (hk : k ≠ b) (v : Value) : (w.setCell ⟨b, p, none⟩ v).heap[k]? = w.heap[k]? := by
  simp [World.setCell, Array.getElem?_modify, hk.symm]
theorem blk_lt {H : Array Obj} {b : Nat} {o : Obj} (h : H[b]? = some o) : b < H.size := by
  rcases Nat.lt_or_ge b H.size with h' | h'
  · exact h'
  · rw [Array.getElem?_eq_none h'] at h; cases h

/-- What has not turned: all old blocks but those of S. -/
structure Frc (S : Nat → Prop) (w0 : World) (os : Os) (tape : Nat → Question → Nat) (output : Array (Nat × ByteArray)) (heap : Array Obj) : Prop where
  os : os = w0.os
  tape : tape = w0.tape
  output : output = w0.output
  size : w0.heap.size ≤ heap.size
  block : ∀ k, k < w0.heap.size → ¬ S k → heap[k]? = w0.heap[k]?
abbrev Fr (S : Nat → Prop) (w0 w : World) : Prop := Frc S w0 w.os w.tape w.output w.heap
theorem Fr.refl (S : Nat → Prop) (w : World) : Fr S w w := ⟨rfl, rfl, rfl, Nat.le_refl _, fun _ _ _ => rfl⟩
theorem Fr.trans {S : Nat → Prop} {a b c : World} (h : Fr S a b) (k : Fr S b c) : Fr S a c :=
  ⟨k.os.trans h.os, k.tape.trans h.tape, k.output.trans h.output, Nat.le_trans h.size k.size, fun i hi hs => (k.block i (Nat.lt_of_lt_of_le hi h.size) hs).trans (h.block i hi hs)⟩
theorem Fr.trans' {S : Nat → Prop} {a b c : World} (k : Fr S b c) (h : Fr S a b) : Fr S a c := h.trans k
theorem Fr.mono {S S' : Nat → Prop} {a b : World} (h : Fr S a b) (hs : ∀ k, k < a.heap.size → S k → S' k) : Fr S' a b :=
  ⟨h.os, h.tape, h.output, h.size, fun i hi h' => h.block i hi fun h'' => h' (hs i hi h'')⟩
theorem Fr.set {S : Nat → Prop} {a w : World} (h : Fr S a w) {b p : Nat} (hb : b < a.heap.size → S b) (v : Value) : Fr S a (w.setCell ⟨b, p, none⟩ v) :=
  ⟨h.os, h.tape, h.output, by simpa [World.setCell] using h.size, fun k hk hs => by
    have : k ≠ b := fun e => hs (e ▸ hb (e ▸ hk))
    rw [set_blk_ne this]; exact h.block k hk hs⟩
theorem Fr.alloc {S : Nat → Prop} {a w : World} (h : Fr S a w) (o : Obj) : Fr S a (w.alloc o) :=
  ⟨h.os, h.tape, h.output, by
    show a.heap.size ≤ (w.heap.push o).size
    rw [Array.size_push]; exact Nat.le_succ_of_le h.size, fun k hk hs => by
    have := h.size
    show (w.heap.push o)[k]? = _
    rw [Array.getElem?_push, if_neg (by omega)]; exact h.block k hk hs⟩

/-! ### The decoder's block -/
def lay (R a m n i j u : Nat) (buf : Nat → Nat) (X : Nat → Option Value) (k : Nat) : Option Value :=
  if k < 4 then (if k = 0 then some (.iface 72 (.pointer (some ⟨R, 0, none⟩))) else if k = 1 then some (.int .u32 a) else if k = 2 then some (.int .u32 m) else some (.int .i32 n))
  else if k < 4100 then some (.int .u8 (buf (k - 4)))
  else if k < 4103 then (if k = 4100 then some (.int .i64 i) else if k = 4101 then some (.int .i64 j) else some (.int .i64 u))
  else X k
/-- Block D of the heap is a decoder: its reader's block R, its bits a, m, n, its buffer, and all else as X says. -/
def DecP (H : Array Obj) (D R a m n i j u : Nat) (buf : Nat → Nat) (X : Nat → Option Value) : Prop :=
  ∃ c, H[D]? = some (.cells c 100 (0, 0)) ∧ ∀ k, c[k]? = lay R a m n i j u buf X k

section
variable {w : World} {D R a m n i j u : Nat} {buf : Nat → Nat} {X : Nat → Option Value}
theorem DecP.ld (h : DecP w.heap D R a m n i j u buf X) (k : Nat) : w.cell? ⟨D, k, none⟩ = lay R a m n i j u buf X k := by
  obtain ⟨c, hc, hk⟩ := h; rw [cell_of_blk hc, hk]
theorem DecP.fz (h : DecP w.heap D R a m n i j u buf X) {k : Nat} : w.frozen? ⟨D, k, none⟩ = false := by
  obtain ⟨c, hc, hk⟩ := h; exact frozen_of_blk hc
theorem DecP.lt (h : DecP w.heap D R a m n i j u buf X) : D < w.heap.size := by
  obtain ⟨c, hc, hk⟩ := h; exact blk_lt hc
theorem DecP.ldr (h : DecP w.heap D R a m n i j u buf X) : w.cell? ⟨D, 0, none⟩ = some (.iface 72 (.pointer (some ⟨R, 0, none⟩))) := h.ld 0
theorem DecP.lda (h : DecP w.heap D R a m n i j u buf X) : w.cell? ⟨D, 1, none⟩ = some (.int .u32 a) := h.ld 1
theorem DecP.ldm (h : DecP w.heap D R a m n i j u buf X) : w.cell? ⟨D, 2, none⟩ = some (.int .u32 m) := h.ld 2
theorem DecP.ldn (h : DecP w.heap D R a m n i j u buf X) : w.cell? ⟨D, 3, none⟩ = some (.int .i32 n) := h.ld 3
theorem DecP.ldi (h : DecP w.heap D R a m n i j u buf X) : w.cell? ⟨D, 4100, none⟩ = some (.int .i64 i) := h.ld 4100
theorem DecP.ldj (h : DecP w.heap D R a m n i j u buf X) : w.cell? ⟨D, 4101, none⟩ = some (.int .i64 j) := h.ld 4101
theorem DecP.ldu (h : DecP w.heap D R a m n i j u buf X) : w.cell? ⟨D, 4102, none⟩ = some (.int .i64 u) := h.ld 4102
theorem DecP.ldb (h : DecP w.heap D R a m n i j u buf X) {k : Nat} (hk : k < 4096) : w.cell? ⟨D, 4 + k, none⟩ = some (.int .u8 (buf k)) := by
  rw [h.ld]; unfold lay
  rw [if_neg (by omega), if_pos (by omega), show 4 + k - 4 = k by omega]
theorem DecP.ldx (h : DecP w.heap D R a m n i j u buf X) {k : Nat} (hk : 4103 ≤ k) : w.cell? ⟨D, k, none⟩ = X k := by
  rw [h.ld]; unfold lay
  rw [if_neg (by omega), if_neg (by omega), if_neg (by omega)]
theorem DecP.set {R' a' m' n' i' j' u' : Nat} {buf' : Nat → Nat} {X' : Nat → Option Value} (h : DecP w.heap D R a m n i j u buf X) {p : Nat} {v : Value}
    (hp : lay R' a' m' n' i' j' u' buf' X' p = some v) (hs : (lay R a m n i j u buf X p).isSome = true) (hk : ∀ k, k ≠ p → lay R a m n i j u buf X k = lay R' a' m' n' i' j' u' buf' X' k) :
    DecP (w.setCell ⟨D, p, none⟩ v).heap D R' a' m' n' i' j' u' buf' X' := by
  obtain ⟨c, hc, hl⟩ := h
  refine ⟨_, set_blk_same hc v, fun k => ?_⟩
  have hlt : p < c.size := by
    rcases Nat.lt_or_ge p c.size with h' | h'
    · exact h'
    · rw [← hl p, Array.getElem?_eq_none h'] at hs; cases hs
  rw [Array.getElem?_setIfInBounds]
  by_cases hkp : p = k
  · subst hkp; rw [if_pos rfl, if_pos hlt, hp]
  · rw [if_neg hkp, hl k, hk k (Ne.symm hkp)]
theorem DecP.seta (h : DecP w.heap D R a m n i j u buf X) {z : Int} {a' : Nat} (hz : z = (a' : Int)) : DecP (w.setCell ⟨D, 1, none⟩ (.int .u32 z)).heap D R a' m n i j u buf X := by
  subst hz; exact h.set rfl rfl fun k hk => by unfold lay; (repeat' split) <;> first | rfl | omega
theorem DecP.setm (h : DecP w.heap D R a m n i j u buf X) {z : Int} {m' : Nat} (hz : z = (m' : Int)) : DecP (w.setCell ⟨D, 2, none⟩ (.int .u32 z)).heap D R a m' n i j u buf X := by
  subst hz; exact h.set rfl rfl fun k hk => by unfold lay; (repeat' split) <;> first | rfl | omega
theorem DecP.setn (h : DecP w.heap D R a m n i j u buf X) {z : Int} {n' : Nat} (hz : z = (n' : Int)) : DecP (w.setCell ⟨D, 3, none⟩ (.int .i32 z)).heap D R a m n' i j u buf X := by
  subst hz; exact h.set rfl rfl fun k hk => by unfold lay; (repeat' split) <;> first | rfl | omega
theorem DecP.seti (h : DecP w.heap D R a m n i j u buf X) {z : Int} {i' : Nat} (hz : z = (i' : Int)) : DecP (w.setCell ⟨D, 4100, none⟩ (.int .i64 z)).heap D R a m n i' j u buf X := by
  subst hz; exact h.set rfl rfl fun k hk => by unfold lay; (repeat' split) <;> first | rfl | omega
theorem DecP.setj (h : DecP w.heap D R a m n i j u buf X) {z : Int} {j' : Nat} (hz : z = (j' : Int)) : DecP (w.setCell ⟨D, 4101, none⟩ (.int .i64 z)).heap D R a m n i j' u buf X := by
  subst hz; exact h.set rfl rfl fun k hk => by unfold lay; (repeat' split) <;> first | rfl | omega
theorem DecP.setu (h : DecP w.heap D R a m n i j u buf X) {z : Int} {u' : Nat} (hz : z = (u' : Int)) : DecP (w.setCell ⟨D, 4102, none⟩ (.int .i64 z)).heap D R a m n i j u' buf X := by
  subst hz; exact h.set rfl rfl fun k hk => by unfold lay; (repeat' split) <;> first | rfl | omega
theorem DecP.setr (h : DecP w.heap D R a m n i j u buf X) (R' : Nat) : DecP (w.setCell ⟨D, 0, none⟩ (.iface 72 (.pointer (some ⟨R', 0, none⟩)))).heap D R' a m n i j u buf X :=
  h.set rfl rfl fun k hk => by unfold lay; (repeat' split) <;> first | rfl | omega
def updN (f : Nat → Nat) (q x : Nat) : Nat → Nat := fun k => if k = q then x else f k
def updX (f : Nat → Option Value) (q : Nat) (x : Value) : Nat → Option Value := fun k => if k = q then some x else f k
theorem DecP.setb (h : DecP w.heap D R a m n i j u buf X) {z : Int} {q x : Nat} (hq : q < 4096) (hz : z = (x : Int)) : DecP (w.setCell ⟨D, 4 + q, none⟩ (.int .u8 z)).heap D R a m n i j u (updN buf q x) X := by
  subst hz
  refine h.set ?_ ?_ fun k hk => ?_
  · unfold lay; rw [if_neg (by omega), if_pos (by omega)]; simp [updN, show 4 + q - 4 = q by omega]
  · unfold lay; rw [if_neg (by omega), if_pos (by omega)]; rfl
  · unfold lay updN; (repeat' split) <;> first | rfl | omega
theorem DecP.setx (h : DecP w.heap D R a m n i j u buf X) {q : Nat} {x y : Value} (hq : 4103 ≤ q) (hx : X q = some y) : DecP (w.setCell ⟨D, q, none⟩ x).heap D R a m n i j u buf (updX X q x) := by
  refine h.set ?_ ?_ fun k hk => ?_
  · unfold lay; rw [if_neg (by omega), if_neg (by omega), if_neg (by omega)]; simp [updX]
  · unfold lay; rw [if_neg (by omega), if_neg (by omega), if_neg (by omega), hx]; rfl
  · unfold lay updX; (repeat' split) <;> first | rfl | omega
theorem DecP.of_eq {H H' : Array Obj} (h : DecP H D R a m n i j u buf X) (he : H'[D]? = H[D]?) : DecP H' D R a m n i j u buf X := by
  obtain ⟨c, hc, hl⟩ := h; exact ⟨c, he.trans hc, hl⟩
end
end Go.Proofs.YtdjilplpbaackaaDoor.Eng
