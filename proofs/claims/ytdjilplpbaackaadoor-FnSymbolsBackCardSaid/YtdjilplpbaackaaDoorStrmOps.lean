/- Stores into a decoder that has bytes left. -/
import Derived.Test.YtdjilplpbaackaaDoorReadByte
set_option linter.unusedVariables false
set_option linter.unusedSimpArgs false
namespace Go.Proofs.YtdjilplpbaackaaDoor.Eng
open Go

section
variable {w : World} {D R : Nat} {e1 e2 : Addr} {S Hs : List Nat} {i j u : Nat} {buf : Nat → Nat} {xs : List Nat} {pos a m n av : Nat} {X : Nat → Option Value}
theorem Strm0.put {i' u' a' m' n' : Nat} {X' : Nat → Option Value} {S' Hs' : List Nat} {p : Nat} {v : Value} (h : Strm0 w.heap D R e1 e2 S Hs i j u buf xs pos a m n X)
    (hD : DecP (w.setCell ⟨D, p, none⟩ v).heap D R a' m' n' i' j u' buf X') (hij : i' ≤ j) (hS : S' = seg buf i' (j - i') ++ xs.drop pos) (h1 : Hs'.length ≤ 2) (h2 : Hs'.length ≤ i')
    (h3 : ∀ k x, Hs'[k]? = some x → buf (i' - 1 - k) = x) (h4 : u' ≤ Hs'.length) : Strm0 (w.setCell ⟨D, p, none⟩ v).heap D R e1 e2 S' Hs' i' j u' buf xs pos a' m' n' X' :=
  ⟨hD, h.rdr.keep' h.ne (fun k hk => set_blk_ne hk _), h.glob.keep (set_blk_ne (by have := h.dlo; omega) _) (set_blk_ne (by have := h.dlo; omega) _), h.ne, h.dlo, h.rlo, hij, h.jb, h.pb, h.xb, hS, h1, h2, h3, h4⟩
theorem Strm0.adv {x : Nat} (h : Strm0 w.heap D R e1 e2 (x :: S) Hs i j u buf xs pos a m n X) (hij : i < j) :
    buf i = x ∧ ∀ z : Int, z = ((i + 1 : Nat) : Int) → Strm0 (w.setCell ⟨D, 4100, none⟩ (.int .i64 z)).heap D R e1 e2 S (x :: Hs.take 1) (i + 1) j u buf xs pos a m n X := by
  have hs := h.sE
  obtain ⟨d, hd⟩ : ∃ d, j - i = d + 1 := ⟨j - i - 1, by omega⟩
  rw [hd, seg_succ, List.cons_append] at hs
  injection hs with h1 h2
  refine ⟨h1.symm, fun z hz => h.put (h.dec.seti hz) hij ?_ ?_ ?_ ?_ ?_⟩
  · rw [h2, show j - (i + 1) = d by omega]
  · simp; omega
  · have := h.hi; simp; omega
  · intro k y hy
    cases k with
    | zero => simp at hy; rw [← hy, h1]; congr 1
    | succ k =>
      rw [List.getElem?_cons_succ, List.getElem?_take] at hy
      split at hy
      · have := h.hb k y hy; rw [← this]; congr 1; omega
      · cases hy
  · have := h.uh; have := h.hl; simp; omega
theorem Strm0.setu (h : Strm0 w.heap D R e1 e2 S Hs i j u buf xs pos a m n X) {z : Int} {u' : Nat} (hz : z = (u' : Int)) (hu : u' ≤ Hs.length) : Strm0 (w.setCell ⟨D, 4102, none⟩ (.int .i64 z)).heap D R e1 e2 S Hs i j u' buf xs pos a m n X :=
  h.put (h.dec.setu hz) h.ij h.sE h.hl h.hi h.hb hu
theorem Strm.setu (h : Strm w.heap D R e1 e2 S Hs u av a m n X) {z : Int} {u' : Nat} (hz : z = (u' : Int)) (hu : u' ≤ Hs.length) : Strm (w.setCell ⟨D, 4102, none⟩ (.int .i64 z)).heap D R e1 e2 S Hs u' av a m n X := by
  obtain ⟨i, j, buf, xs, pos, h, hj⟩ := h; exact ⟨i, j, buf, xs, pos, h.setu hz hu, hj⟩
theorem Strm.seta (h : Strm w.heap D R e1 e2 S Hs u av a m n X) {z : Int} {a' : Nat} (hz : z = (a' : Int)) : Strm (w.setCell ⟨D, 1, none⟩ (.int .u32 z)).heap D R e1 e2 S Hs u av a' m n X := by
  obtain ⟨i, j, buf, xs, pos, h, hj⟩ := h; exact ⟨i, j, buf, xs, pos, h.put (h.dec.seta hz) h.ij h.sE h.hl h.hi h.hb h.uh, hj⟩
theorem Strm.setm (h : Strm w.heap D R e1 e2 S Hs u av a m n X) {z : Int} {m' : Nat} (hz : z = (m' : Int)) : Strm (w.setCell ⟨D, 2, none⟩ (.int .u32 z)).heap D R e1 e2 S Hs u av a m' n X := by
  obtain ⟨i, j, buf, xs, pos, h, hj⟩ := h; exact ⟨i, j, buf, xs, pos, h.put (h.dec.setm hz) h.ij h.sE h.hl h.hi h.hb h.uh, hj⟩
theorem Strm.setn (h : Strm w.heap D R e1 e2 S Hs u av a m n X) {z : Int} {n' : Nat} (hz : z = (n' : Int)) : Strm (w.setCell ⟨D, 3, none⟩ (.int .i32 z)).heap D R e1 e2 S Hs u av a m n' X := by
  obtain ⟨i, j, buf, xs, pos, h, hj⟩ := h; exact ⟨i, j, buf, xs, pos, h.put (h.dec.setn hz) h.ij h.sE h.hl h.hi h.hb h.uh, hj⟩
theorem Strm.lda (h : Strm w.heap D R e1 e2 S Hs u av a m n X) : w.cell? ⟨D, 1, none⟩ = some (.int .u32 a) := by obtain ⟨i, j, buf, xs, pos, h, hj⟩ := h; exact h.dec.lda
theorem Strm.ldm (h : Strm w.heap D R e1 e2 S Hs u av a m n X) : w.cell? ⟨D, 2, none⟩ = some (.int .u32 m) := by obtain ⟨i, j, buf, xs, pos, h, hj⟩ := h; exact h.dec.ldm
theorem Strm.ldn (h : Strm w.heap D R e1 e2 S Hs u av a m n X) : w.cell? ⟨D, 3, none⟩ = some (.int .i32 n) := by obtain ⟨i, j, buf, xs, pos, h, hj⟩ := h; exact h.dec.ldn
theorem Strm.ldu (h : Strm w.heap D R e1 e2 S Hs u av a m n X) : w.cell? ⟨D, 4102, none⟩ = some (.int .i64 u) := by obtain ⟨i, j, buf, xs, pos, h, hj⟩ := h; exact h.dec.ldu
theorem Strm.ldx (h : Strm w.heap D R e1 e2 S Hs u av a m n X) {k : Nat} (hk : 4103 ≤ k) : w.cell? ⟨D, k, none⟩ = X k := by obtain ⟨i, j, buf, xs, pos, h, hj⟩ := h; exact h.dec.ldx hk
theorem Strm.fz (h : Strm w.heap D R e1 e2 S Hs u av a m n X) {k : Nat} : w.frozen? ⟨D, k, none⟩ = false := by obtain ⟨i, j, buf, xs, pos, h, hj⟩ := h; exact h.dec.fz
theorem Strm.glob (h : Strm w.heap D R e1 e2 S Hs u av a m n X) : GlobP w.heap e1 e2 := by obtain ⟨i, j, buf, xs, pos, h, hj⟩ := h; exact h.glob
end

/-- The next byte of entropy-coded data, and what is behind it. -/
def destuff : List Nat → Option (Nat × List Nat)
  | [] => none
  | x :: S => if x = 255 then (match S with | y :: S' => if y = 0 then some (255, S') else none | [] => none) else some (x, S)
def missing : ByteArray := { data := #[109, 105, 115, 115, 105, 110, 103, 32, 48, 120, 102, 102, 48, 48, 32, 115, 101, 113, 117, 101, 110, 99, 101] }
def short : ByteArray := { data := #[115, 104, 111, 114, 116, 32, 72, 117, 102, 102, 109, 97, 110, 32, 100, 97, 116, 97] }
theorem destuff_ne {x : Nat} {S : List Nat} (h : x ≠ 255) : destuff (x :: S) = some (x, S) := by simp [destuff, h]
end Go.Proofs.YtdjilplpbaackaaDoor.Eng
