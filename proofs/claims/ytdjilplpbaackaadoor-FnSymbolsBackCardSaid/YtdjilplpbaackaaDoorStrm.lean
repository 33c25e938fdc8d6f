/- The bytes that a decoder has not read yet, as a list. -/
import Derived.Test.YtdjilplpbaackaaDoorEngAny
import Derived.Test.YtdjilplpbaackaaDoorStat
set_option linter.unusedVariables false
set_option linter.unusedSimpArgs false
namespace Go.Proofs.YtdjilplpbaackaaDoor.Eng
open Go

def putB (f : Nat → Nat) (q : Nat) (ys : List Nat) : Nat → Nat := fun k => if q ≤ k ∧ k < q + ys.length then ys.getD (k - q) 0 else f k
theorem DecP.cpy {D R a m n i j u : Nat} {X : Nat → Option Value} : ∀ (ys : List Nat) (q : Nat) (w : World) (buf : Nat → Nat), DecP w.heap D R a m n i j u buf X → q + ys.length ≤ 4096 →
    DecP (setCells w D (4 + q) (ys.map u8v)).heap D R a m n i j u (putB buf q ys) X
  | [], q, w, buf, h, hl => by
    have : putB buf q [] = buf := by funext k; simp [putB]; intro h1 h2; omega
    rw [this]; exact h
  | y :: ys, q, w, buf, h, hl => by
    have ih := DecP.cpy ys (q + 1) (w.setCell ⟨D, 4 + q, none⟩ (u8v y)) (updN buf q y) (h.setb (by simp at hl; omega) rfl) (by simp at hl ⊢; omega)
    have : putB (updN buf q y) (q + 1) ys = putB buf q (y :: ys) := by
      funext k
      simp only [putB, updN, List.length_cons]
      by_cases hk : k = q
      · subst hk; rw [if_neg (by omega), if_pos rfl, if_pos (by omega)]; simp
      · by_cases hk2 : q + 1 ≤ k ∧ k < q + 1 + ys.length
        · rw [if_pos hk2, if_pos (by omega), show k - q = (k - (q + 1)) + 1 by omega]; simp
        · rw [if_neg hk2, if_neg hk, if_neg (by omega)]
    rw [← this]; exact ih
theorem DecP.cpyx {D R a m n i j u : Nat} {buf : Nat → Nat} : ∀ (vs : List Value) (q : Nat) (w : World) (X : Nat → Option Value), DecP w.heap D R a m n i j u buf X → 4103 ≤ q → (∀ k, k < vs.length → (X (q + k)).isSome = true) →
    DecP (setCells w D q vs).heap D R a m n i j u buf (putRow X q vs)
  | [], q, w, X, h, hq, hx => by
    have : putRow X q [] = X := by funext k; simp [putRow]; intro h1 h2; omega
    rw [this]; exact h
  | v :: vs, q, w, X, h, hq, hx => by
    obtain ⟨y, hy⟩ := Option.isSome_iff_exists.1 (hx 0 (by simp))
    have ih := DecP.cpyx vs (q + 1) (w.setCell ⟨D, q, none⟩ v) (updX X q v) (h.setx hq hy) (by omega) (fun k hk => by
      have := hx (k + 1) (by simp; omega)
      unfold updX
      rw [if_neg (by omega), show q + 1 + k = q + (k + 1) by omega]; exact this)
    have : putRow (updX X q v) (q + 1) vs = putRow X q (v :: vs) := by
      funext k
      simp only [putRow, updX, List.length_cons]
      by_cases hk : k = q
      · subst hk; rw [if_neg (by omega), if_pos rfl, if_pos (by omega)]; simp
      · by_cases hk2 : q + 1 ≤ k ∧ k < q + 1 + vs.length
        · rw [if_pos hk2, if_pos (by omega), show k - q = (k - (q + 1)) + 1 by omega]; simp
        · rw [if_neg hk2, if_neg hk, if_neg (by omega)]
    rw [← this]; exact ih
theorem SrcH.keep {H H' : Array Obj} {sa : Option Addr} {xs : List Nat} (h : SrcH H sa xs) (hk : xs ≠ [] → ∀ b p o, sa = some ⟨b, p, none⟩ → H[b]? = some o → H'[b]? = H[b]?) : SrcH H' sa xs := by
  by_cases hx : xs = []
  · exact .inl hx
  rcases h with rfl | ⟨b, p, c, T, fr, e, hb, hc⟩
  · exact .inl rfl
  · exact .inr ⟨b, p, c, T, fr, e, (hk hx b p _ e hb).trans hb, hc⟩

/-- A bytes.Reader over xs, at pos. -/
def RdrB (H : Array Obj) (R : Nat) (sa : Option Addr) (n cap pos : Nat) (prev : Int) : Prop := H[R]? = some (.cells #[.slice sa n cap, .int .i64 pos, .int .i64 prev] 134 (0, 0))
def RdrP (H : Array Obj) (D R : Nat) (xs : List Nat) (pos : Nat) : Prop :=
  ∃ sa cap prev, RdrB H R sa xs.length cap pos prev ∧ SrcH H sa xs ∧ (xs ≠ [] → ∀ b p, sa = some ⟨b, p, none⟩ → b < D ∧ b ≠ R) ∧ xs.length ≤ cap
section
variable {w : World} {R n cap pos : Nat} {sa : Option Addr} {prev : Int}
theorem RdrB.ld0 (h : RdrB w.heap R sa n cap pos prev) : w.cell? ⟨R, 0, none⟩ = some (.slice sa n cap) := cell_of_blk h
theorem RdrB.ld1 (h : RdrB w.heap R sa n cap pos prev) : w.cell? ⟨R, 1, none⟩ = some (.int .i64 pos) := cell_of_blk h
theorem RdrB.ld2 (h : RdrB w.heap R sa n cap pos prev) : w.cell? ⟨R, 2, none⟩ = some (.int .i64 prev) := cell_of_blk h
theorem RdrB.fz (h : RdrB w.heap R sa n cap pos prev) {k : Nat} : w.frozen? ⟨R, k, none⟩ = false := frozen_of_blk h
theorem RdrB.set1 (h : RdrB w.heap R sa n cap pos prev) {z : Int} {q : Nat} (hz : z = (q : Int)) : RdrB (w.setCell ⟨R, 1, none⟩ (.int .i64 z)).heap R sa n cap q prev := by
  subst hz; exact set_blk_same h _
theorem RdrB.set2 (h : RdrB w.heap R sa n cap pos prev) (q : Int) : RdrB (w.setCell ⟨R, 2, none⟩ (.int .i64 q)).heap R sa n cap pos q := set_blk_same h _
end
/-- The two sentinels. -/
def cellOf (H : Array Obj) (b p : Nat) : Option Value := match H[b]? with | some (.cells c _ _) => c[p]? | _ => none
def GlobP (H : Array Obj) (e1 e2 : Addr) : Prop := cellOf H 1 0 = some (.iface 175 (.pointer (some e1))) ∧ cellOf H 2 0 = some (.iface 175 (.pointer (some e2)))
theorem RdrP.keep' {H H' : Array Obj} {D R : Nat} {xs : List Nat} {pos : Nat} (h : RdrP H D R xs pos) (hDR : D ≠ R) (hk : ∀ k, k ≠ D → H'[k]? = H[k]?) : RdrP H' D R xs pos := by
  obtain ⟨sa, cap, prev, hB, hS, hne, hc⟩ := h
  exact ⟨sa, cap, prev, (hk R (Ne.symm hDR)).trans hB, hS.keep (fun hx b p o e _ => hk b (Nat.ne_of_lt (hne hx b p e).1)), hne, hc⟩
theorem cellOf_cell {w : World} {b p : Nat} {v : Value} (h : cellOf w.heap b p = some v) : w.cell? ⟨b, p, none⟩ = some v := by
  unfold cellOf at h
  unfold World.cell?
  split at h
  · rename_i c T fr hb; simp [hb, h]
  · cases h
theorem GlobP.keep {H H' : Array Obj} {e1 e2 : Addr} (h : GlobP H e1 e2) (h1 : H'[1]? = H[1]?) (h2 : H'[2]? = H[2]?) : GlobP H' e1 e2 := by
  unfold GlobP cellOf at *; rw [h1, h2]; exact h
theorem GlobP.fr {S : Nat → Prop} {w w' : World} {e1 e2 : Addr} (h : GlobP w.heap e1 e2) (hf : Fr S w w') (h1 : ¬ S 1) (h2 : ¬ S 2) : GlobP w'.heap e1 e2 := by
  have l : ∀ b v, cellOf w.heap b 0 = some v → b < w.heap.size := by
    intro b v hv
    unfold cellOf at hv
    split at hv
    · rename_i hb; exact blk_lt hb
    · cases hv
  exact h.keep (hf.block 1 (l 1 _ h.1) h1) (hf.block 2 (l 2 _ h.2) h2)

def seg (f : Nat → Nat) (i n : Nat) : List Nat := (List.range n).map fun k => f (i + k)
theorem seg_zero (f : Nat → Nat) (i : Nat) : seg f i 0 = [] := rfl
theorem seg_succ (f : Nat → Nat) (i n : Nat) : seg f i (n + 1) = f i :: seg f (i + 1) n := by
  unfold seg
  rw [List.range_succ_eq_map, List.map_cons, List.map_map]
  simp only [Nat.add_zero]
  congr 1
  apply List.map_congr_left
  intro k _
  show f (i + (k + 1)) = f (i + 1 + k)
  congr 1; omega
theorem seg_length (f : Nat → Nat) (i n : Nat) : (seg f i n).length = n := by simp [seg]
theorem seg_congr {f g : Nat → Nat} {i n : Nat} (h : ∀ k, k < n → f (i + k) = g (i + k)) : seg f i n = seg g i n := by
  unfold seg; apply List.map_congr_left; intro k hk; exact h k (List.mem_range.1 hk)
theorem seg_list (f : Nat → Nat) : ∀ (ys : List Nat) (i : Nat), (∀ k x, ys[k]? = some x → f (i + k) = x) → seg f i ys.length = ys
  | [], i, h => rfl
  | y :: ys, i, h => by
    rw [List.length_cons, seg_succ, seg_list f ys (i + 1) (fun k x hx => by
      have := h (k + 1) x (by simpa using hx)
      rw [← this]; congr 1; omega)]
    have := h 0 y rfl
    rw [Nat.add_zero] at this
    rw [this]

theorem meth_read (a : Addr) (w : World) : (method (Tryd.prog.types.size + Made.depth) 72 (.pointer (some a)) "Read").run Tryd.prog w = .ok (62, .pointer (some a)) w := by kernel_rfl
theorem if_65 : ifaceT Tryd.prog 65 = true := by kernel_rfl
theorem cmp_175 : (Tryd.prog.info? 175).map (·.comparable) = some true := by kernel_rfl
theorem sz_212 : sizeT Tryd.prog 212 = some 1 := by kernel_rfl
/-- The decoder at D reads by the reader at R; S: the bytes that are left; Hs: the last ones read, the latest first; u: how many may be given back; av: how many are in the buffer. -/
structure Strm0 (H : Array Obj) (D R : Nat) (e1 e2 : Addr) (S Hs : List Nat) (i j u : Nat) (buf : Nat → Nat) (xs : List Nat) (pos : Nat) (a m n : Nat) (X : Nat → Option Value) : Prop where
  dec : DecP H D R a m n i j u buf X
  rdr : RdrP H D R xs pos
  glob : GlobP H e1 e2
  ne : D ≠ R
  dlo : 2 < D
  rlo : 2 < R
  ij : i ≤ j
  jb : j ≤ 4096
  pb : pos ≤ xs.length
  xb : xs.length ≤ 4611686018427387904
  sE : S = seg buf i (j - i) ++ xs.drop pos
  hl : Hs.length ≤ 2
  hi : Hs.length ≤ i
  hb : ∀ k x, Hs[k]? = some x → buf (i - 1 - k) = x
  uh : u ≤ Hs.length
def Strm (H : Array Obj) (D R : Nat) (e1 e2 : Addr) (S Hs : List Nat) (u av : Nat) (a m n : Nat) (X : Nat → Option Value) : Prop :=
  ∃ i j buf xs pos, Strm0 H D R e1 e2 S Hs i j u buf xs pos a m n X ∧ j = i + av
def DR (D R : Nat) : Nat → Prop := fun k => k = D ∨ k = R
end Go.Proofs.YtdjilplpbaackaaDoor.Eng
