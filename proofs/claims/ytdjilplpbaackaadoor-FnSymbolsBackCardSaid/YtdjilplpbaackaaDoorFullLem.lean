/- Bytes handed on out of the decoder's buffer into the decoder's own cells. -/
import Derived.Test.YtdjilplpbaackaaDoorTab
set_option linter.unusedVariables false
set_option linter.unusedSimpArgs false
namespace Go.Proofs.YtdjilplpbaackaaDoor.Eng
open Go

theorem putRow_nil (X : Nat → Option Value) (q : Nat) : putRow X q [] = X := by funext k; simp [putRow]; intro h1 h2; omega
theorem putRow_app (X : Nat → Option Value) (q : Nat) (vs ws : List Value) : putRow (putRow X q vs) (q + vs.length) ws = putRow X q (vs ++ ws) := by
  funext k
  simp only [putRow, List.length_append]
  by_cases h1 : q + vs.length ≤ k ∧ k < q + vs.length + ws.length
  · rw [if_pos h1, if_pos (by omega), List.getElem?_append_right (by omega)]
    congr 1; omega
  · rw [if_neg h1]
    by_cases h2 : q ≤ k ∧ k < q + vs.length
    · rw [if_pos h2, if_pos (by omega), List.getElem?_append_left (by omega)]
    · rw [if_neg h2, if_neg (by omega)]
theorem putRow_some {X : Nat → Option Value} {q k : Nat} {vs : List Value} (h : (X k).isSome = true) : (putRow X q vs k).isSome = true := by
  unfold putRow
  split
  · rename_i h1; rw [List.getElem?_eq_getElem (by omega)]; rfl
  · exact h
section
variable {w : World} {D R : Nat} {e1 e2 : Addr} {S Hs : List Nat} {i j u : Nat} {buf : Nat → Nat} {xs : List Nat} {pos a m n : Nat} {X : Nat → Option Value}
theorem Strm0.cpyx (h : Strm0 w.heap D R e1 e2 S Hs i j u buf xs pos a m n X) {q : Nat} {vs : List Value} (hq : 4103 ≤ q) (hx : ∀ k, k < vs.length → (X (q + k)).isSome = true) :
    Strm0 (setCells w D q vs).heap D R e1 e2 S Hs i j u buf xs pos a m n (putRow X q vs) :=
  ⟨DecP.cpyx vs q w X h.dec hq hx, h.rdr.keep' h.ne (fun k hk => setCells_ne hk _ _ _), h.glob.keep (setCells_ne (by have := h.dlo; omega) _ _ _) (setCells_ne (by have := h.dlo; omega) _ _ _), h.ne, h.dlo, h.rlo, h.ij, h.jb, h.pb, h.xb, h.sE, h.hl, h.hi, h.hb, h.uh⟩
theorem seg_drop (f : Nat → Nat) : ∀ (l i n : Nat), l ≤ n → (seg f i n).drop l = seg f (i + l) (n - l)
  | 0, i, n, h => by simp
  | l + 1, i, n, h => by
    obtain ⟨d, rfl⟩ : ∃ d, n = d + 1 := ⟨n - 1, by omega⟩
    rw [seg_succ, List.drop_succ_cons, seg_drop f l (i + 1) d (by omega)]
    congr 1 <;> omega
theorem Strm0.skip (h : Strm0 w.heap D R e1 e2 S Hs i j 0 buf xs pos a m n X) {l : Nat} (hl : i + l ≤ j) {z : Int} (hz : z = ((i + l : Nat) : Int)) :
    Strm0 (w.setCell ⟨D, 4100, none⟩ (.int .i64 z)).heap D R e1 e2 (S.drop l) [] (i + l) j 0 buf xs pos a m n X := by
  refine h.put (h.dec.seti hz) hl ?_ (by simp) (by simp) (fun k x hx => by simp at hx) (Nat.le_refl _)
  rw [h.sE, List.drop_append, seg_length, seg_drop _ _ _ _ (by omega), show l - (j - i) = 0 by omega, List.drop_zero, show j - (i + l) = j - i - l by omega]
/-- What the buffer's next bytes are. -/
theorem Strm0.head (h : Strm0 w.heap D R e1 e2 S Hs i j u buf xs pos a m n X) {k x : Nat} (hk : i + k < j) (hx : S[k]? = some x) : buf (i + k) = x := by
  rw [h.sE, List.getElem?_append_left (by rw [seg_length]; omega)] at hx
  unfold seg at hx
  rw [List.getElem?_map, List.getElem?_range (by omega)] at hx
  simpa using hx
theorem Strm0.len (h : Strm0 w.heap D R e1 e2 S Hs i j u buf xs pos a m n X) : j - i ≤ S.length := by rw [h.sE, List.length_append, seg_length]; omega
end
end Go.Proofs.YtdjilplpbaackaaDoor.Eng
