/- bytes.NewReader; a decoder's first cells. -/
import Derived.Test.YtdjilplpbaackaaDoorDhtWalk
import Derived.Test.YtdjilplpbaackaaDoorEngApp
set_option linter.unusedVariables false
set_option linter.unusedSimpArgs false
set_option maxRecDepth 100000
namespace Go.Proofs.YtdjilplpbaackaaDoor.Eng
open Go

theorem b134 {sa : Option Addr} {n cap : Nat} : Tryd.prog.built 134 [(0, .slice sa n cap), (1, .int .i64 0), (2, .int .i64 (-1))] = some #[.slice sa n cap, .int .i64 0, .int .i64 (-1)] := by kernel_rfl
theorem newReader {sa : Option Addr} {n cap : Nat} {w0 : World} :
    Calls Tryd.prog 19 #[.slice sa n cap] w0 fun e w' => e = .returned (.pointer (some ⟨w0.heap.size, 0, none⟩)) ∧ w' = w0.alloc (.cells #[.slice sa n cap, .int .i64 0, .int .i64 (-1)] 134 (0, 0)) := by
  refine calls1 Tryd.func19 rfl rfl rfl rfl (Nat.le_of_ble_eq_true rfl) fun K hK => ?_
  refine CW_seq fun K1 hK1 => ?_
  refine CW_region rfl ?_
  refine RL_v rfl rfl (yd_assign rfl) ?_
  refine RL_nil ?_
  refine hK1 _ _ ?_
  refine CW_seq fun K2 hK2 => ?_
  refine CW_region rfl ?_
  refine RL_v rfl rfl (yd_move rfl) ?_
  refine RL_v rfl rfl (yd_build rfl rfl b134) ?_
  refine RL_box (fun w' => w' = w0.alloc (.cells #[.slice sa n cap, .int .i64 0, .int .i64 (-1)] 134 (0, 0))) rfl rfl rfl rfl rfl ?_
  rintro w rfl
  refine RL_v rfl rfl (yd_assign rfl) ?_
  refine RL_nil ?_
  refine hK2 _ _ ?_
  refine CW_ret ?_
  refine hK _ _ ?_
  exact ⟨rfl, rfl⟩

/-- Cells of a decoder that nobody has written to. -/
def u32z : Value → Bool | .int .u32 (.ofNat n) => Nat.beq n 0 | _ => false
def i32z : Value → Bool | .int .i32 (.ofNat n) => Nat.beq n 0 | _ => false
def u8z : Value → Bool | .int .u8 (.ofNat n) => Nat.beq n 0 | _ => false
def i64z : Value → Bool | .int .i64 (.ofNat n) => Nat.beq n 0 | _ => false
def fals : Value → Bool | .bool b => !b | _ => false
theorem u32z_spec {v : Value} (h : u32z v = true) : v = .int .u32 0 := by
  unfold u32z at h; split at h
  · rename_i n; have := Nat.eq_of_beq_eq_true h; subst this; rfl
  · cases h
theorem i32z_spec {v : Value} (h : i32z v = true) : v = .int .i32 0 := by
  unfold i32z at h; split at h
  · rename_i n; have := Nat.eq_of_beq_eq_true h; subst this; rfl
  · cases h
theorem u8z_spec {v : Value} (h : u8z v = true) : v = .int .u8 0 := by
  unfold u8z at h; split at h
  · rename_i n; have := Nat.eq_of_beq_eq_true h; subst this; rfl
  · cases h
theorem i64z_spec {v : Value} (h : i64z v = true) : v = .int .i64 0 := by
  unfold i64z at h; split at h
  · rename_i n; have := Nat.eq_of_beq_eq_true h; subst this; rfl
  · cases h
theorem fals_spec {v : Value} (h : fals v = true) : v = .bool false := by
  unfold fals at h; split at h
  · rename_i b; cases b
    · rfl
    · cases h
  · cases h
def chkCell (k : Nat) (v : Value) : Bool :=
  if Nat.blt k 1 then true else if Nat.blt k 3 then u32z v else if Nat.blt k 4 then i32z v else if Nat.blt k 4100 then u8z v else if Nat.blt k 4103 then i64z v else if Nat.beq k 4114 then fals v else true
def chkDec : Nat → List Value → Bool
  | k, [] => Nat.beq k 9020
  | k, v :: r => chkCell k v && chkDec (k + 1) r
theorem chkDec_spec : ∀ (l : List Value) (k : Nat), chkDec k l = true → k + l.length = 9020 ∧ ∀ i v, l[i]? = some v →
    ((1 ≤ k + i → k + i < 3 → v = .int .u32 0) ∧ (k + i = 3 → v = .int .i32 0) ∧ (4 ≤ k + i → k + i < 4100 → v = .int .u8 0) ∧ (4100 ≤ k + i → k + i < 4103 → v = .int .i64 0) ∧ (k + i = 4114 → v = .bool false))
  | [], k, h => ⟨by simpa [chkDec] using h, fun i v hi => by simp at hi⟩
  | v :: r, k, h => by
    rw [chkDec, Bool.and_eq_true] at h
    obtain ⟨h1, h2⟩ := h
    obtain ⟨h3, h4⟩ := chkDec_spec r (k + 1) h2
    refine ⟨by rw [List.length_cons]; omega, fun i v' hi => ?_⟩
    cases i with
    | succ i =>
      have := h4 i v' (by simpa using hi)
      rwa [show k + 1 + i = k + (i + 1) by omega] at this
    | zero =>
      simp only [List.getElem?_cons_zero, Option.some.injEq] at hi
      subst hi
      clear h4 h2
      unfold chkCell at h1
      simp only [Nat.blt_eq, show (Nat.beq k 4114 = true) = (k = 4114) from propext ⟨Nat.eq_of_beq_eq_true, fun e => by subst e; rfl⟩] at h1
      rw [Nat.add_zero]
      refine ⟨fun a b => ?_, fun a => ?_, fun a b => ?_, fun a b => ?_, fun a => ?_⟩
      · rw [if_neg (by omega), if_pos (by omega)] at h1; exact u32z_spec h1
      · rw [if_neg (by omega), if_neg (by omega), if_pos (by omega)] at h1; exact i32z_spec h1
      · rw [if_neg (by omega), if_neg (by omega), if_neg (by omega), if_pos (by omega)] at h1; exact u8z_spec h1
      · rw [if_neg (by omega), if_neg (by omega), if_neg (by omega), if_neg (by omega), if_pos (by omega)] at h1; exact i64z_spec h1
      · rw [if_neg (by omega), if_neg (by omega), if_neg (by omega), if_neg (by omega), if_neg (by omega), if_pos (by omega)] at h1; exact fals_spec h1
theorem b100 (R : Nat) : (Tryd.prog.built 100 [(0, .iface 72 (.pointer (some ⟨R, 0, none⟩)))]).map (fun c => chkDec 0 c.toList) = some true := by kernel_rfl
theorem b100' (R : Nat) : (Tryd.prog.built 100 [(0, .iface 72 (.pointer (some ⟨R, 0, none⟩)))]).map (fun c => c[0]?) = some (some (.iface 72 (.pointer (some ⟨R, 0, none⟩)))) := by kernel_rfl
theorem dec_init (R : Nat) : ∃ cells X, Tryd.prog.built 100 [(0, .iface 72 (.pointer (some ⟨R, 0, none⟩)))] = some cells ∧ XOK X ∧ ∀ k, cells[k]? = lay R 0 0 0 0 0 0 (fun _ => 0) X k := by
  have h1 := b100 R
  have h2 := b100' R
  cases hb : Tryd.prog.built 100 [(0, .iface 72 (.pointer (some ⟨R, 0, none⟩)))] with
  | none => rw [hb] at h1; cases h1
  | some cells =>
    rw [hb] at h1 h2
    simp only [Option.map_some, Option.some.injEq] at h1 h2
    obtain ⟨h3, h4⟩ := chkDec_spec _ _ h1
    rw [Nat.zero_add, Array.length_toList] at h3
    have h5 : ∀ k, k < 9020 → ∃ v, cells[k]? = some v ∧ ((1 ≤ k → k < 3 → v = .int .u32 0) ∧ (k = 3 → v = .int .i32 0) ∧ (4 ≤ k → k < 4100 → v = .int .u8 0) ∧ (4100 ≤ k → k < 4103 → v = .int .i64 0) ∧ (k = 4114 → v = .bool false)) := by
      intro k hk
      have hv : cells[k]? = some cells[k] := Array.getElem?_eq_getElem (by omega)
      have := h4 k cells[k] (by simp)
      rw [Nat.zero_add] at this
      exact ⟨_, hv, this⟩
    refine ⟨cells, fun k => cells[k]?, rfl, ⟨fun k _ hk => ?_, ?_⟩, fun k => ?_⟩
    · obtain ⟨v, hv, _⟩ := h5 k hk
      simp only [hv]; rfl
    · obtain ⟨v, hv, _, _, _, _, h⟩ := h5 4114 (by decide)
      show cells[4114]? = _
      rw [hv, h rfl]
    · unfold lay
      by_cases h0 : k = 0
      · subst h0; exact h2
      · split
        · obtain ⟨v, hv, a, b, c, d, e⟩ := h5 k (by omega)
          rw [hv]
          by_cases k1 : k = 1
          · rw [if_pos k1, a (by omega) (by omega)]; rfl
          · rw [if_neg k1]
            by_cases k2 : k = 2
            · rw [if_pos k2, a (by omega) (by omega)]; rfl
            · rw [if_neg k2, b (by omega)]; rfl
        · split
          · obtain ⟨v, hv, a, b, c, d, e⟩ := h5 k (by omega)
            rw [hv, c (by omega) (by omega)]; rfl
          · split
            · obtain ⟨v, hv, a, b, c, d, e⟩ := h5 k (by omega)
              rw [hv, d (by omega) (by omega)]
              (repeat' split) <;> rfl
            · rfl

abbrev NO : Nat → Prop := fun _ => False
theorem newReader' {sa : Option Addr} {n cap R : Nat} {w0 : World} (hR : R = w0.heap.size) :
    Calls Tryd.prog 19 #[.slice sa n cap] w0 fun e w' => e = .returned (.pointer (some ⟨R, 0, none⟩)) ∧ RdrB w'.heap R sa n cap 0 (-1) ∧ Fr NO w0 w' :=
  newReader.mono fun e w' ⟨he, hw⟩ => ⟨by rw [hR]; exact he, by rw [hR, hw]; exact alloc_get, by rw [hw]; exact (Fr.refl _ _).alloc _⟩
theorem Fr.up {S : Nat → Prop} {w0 w w' : World} (h : Fr NO w0 w) (hF : Fr S w w') (hS : ∀ k, S k → w0.heap.size ≤ k) : Fr NO w0 w' :=
  ⟨hF.os.trans h.os, hF.tape.trans h.tape, hF.output.trans h.output, Nat.le_trans h.size hF.size, fun k hk _ => (hF.block k (Nat.lt_of_lt_of_le hk h.size) (fun hs => by have := hS k hs; omega)).trans (h.block k hk id)⟩
theorem SrcH.lt {H : Array Obj} {sa : Option Addr} {xs : List Nat} (h : SrcH H sa xs) (hx : xs ≠ []) {b p : Nat} (e : sa = some ⟨b, p, none⟩) : b < H.size := by
  rcases h with rfl | ⟨b', p', c, T, fr, e', hb, _⟩
  · exact (hx rfl).elim
  · rw [e] at e'; cases e'; exact blk_lt hb
theorem SrcH.fr {w w' : World} {sa : Option Addr} {xs : List Nat} (h : SrcH w.heap sa xs) (hF : Fr NO w w') : SrcH w'.heap sa xs := h.keep fun _ b p o _ hb => hF.block b (blk_lt hb) id
theorem GlobP.no {w w' : World} {e1 e2 : Addr} (h : GlobP w.heap e1 e2) (hF : Fr NO w w') : GlobP w'.heap e1 e2 := h.fr hF id id
theorem Strm.init {H : Array Obj} {D R cap : Nat} {e1 e2 : Addr} {sa : Option Addr} {prev : Int} {xs : List Nat} {buf : Nat → Nat} {X : Nat → Option Value} (hD : DecP H D R 0 0 0 0 0 0 buf X) (hB : RdrB H R sa xs.length cap 0 prev)
    (hS : SrcH H sa xs) (hne : xs ≠ [] → ∀ b p, sa = some ⟨b, p, none⟩ → b < D ∧ b ≠ R) (hc : xs.length ≤ cap) (hG : GlobP H e1 e2) (ne : D ≠ R) (dlo : 2 < D) (rlo : 2 < R) (xb : xs.length ≤ 4611686018427387904) :
    Strm H D R e1 e2 xs [] 0 0 0 0 0 X :=
  ⟨0, 0, buf, xs, 0, ⟨hD, ⟨sa, cap, prev, hB, hS, hne, hc⟩, hG, ne, dlo, rlo, Nat.le_refl _, by decide, Nat.zero_le _, xb, rfl, by decide, by decide, fun k x hx => by simp at hx, Nat.le_refl _⟩, rfl⟩
theorem BS.keep {H H' : Array Obj} {D R : Nat} {e1 e2 : Addr} {X : Nat → Option Value} {bs : List Bool} (h : BS H D R e1 e2 X bs) (hk : ∀ k, k < H.size → (k ≤ D ∨ k = R) → H'[k]? = H[k]?) : BS H' D R e1 e2 X bs := by
  obtain ⟨S, Hs, u, av, a, m, n, hs, r⟩ := h
  exact ⟨S, Hs, u, av, a, m, n, hs.keep hk, r⟩
def decN (T : Tab) : Nat → List Bool → List Nat × Bool
  | 0, _ => ([], true)
  | n + 1, bs => match T.sym bs with
    | some (s, rest) => (s :: (decN T n rest).1, (decN T n rest).2)
    | none => ([], false)
theorem decN_some {T : Tab} {n s : Nat} {bs rest : List Bool} (h : T.sym bs = some (s, rest)) : decN T (n + 1) bs = (s :: (decN T n rest).1, (decN T n rest).2) := by simp only [decN, h]
theorem decN_none {T : Tab} {n : Nat} {bs : List Bool} (h : T.sym bs = none) : decN T (n + 1) bs = ([], false) := by simp only [decN, h]
def ErrOf : Bool → Value → Prop
  | true, er => er = .nilIface
  | false, er => ∃ s, er = .iface 105 (.string s)
theorem Own.mono {w : World} {base base' : Nat} {e : TypeId} {v : Value} {xs : List Value} (h : Own w base e v xs) (hb : base' ≤ base) : Own w base' e v xs := by
  refine ⟨h.1, ?_⟩
  rcases h.2 with hn | ⟨g, cap, cur, rfl, hb', rest⟩
  · exact .inl hn
  · exact .inr ⟨g, cap, cur, rfl, Nat.le_trans hb hb', rest⟩
theorem zr_5 : zeroT Tryd.prog 5 = some (.int .u8 0) := by kernel_rfl
theorem si_5 : sizedT Tryd.prog 5 = some (1, 1) := by kernel_rfl

end Go.Proofs.YtdjilplpbaackaaDoor.Eng
