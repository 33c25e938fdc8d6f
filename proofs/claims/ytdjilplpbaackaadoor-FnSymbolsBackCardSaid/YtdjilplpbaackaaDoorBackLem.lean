/- Codes that are written, and what is read of them, plainly. -/
import Derived.Test.YtdjilplpbaackaaDoorDht
import Derived.Test.YtdjilplpbaackaaDoorNewR
set_option linter.unusedVariables false
set_option linter.unusedSimpArgs false
namespace Go.Proofs.YtdjilplpbaackaaDoor.Eng
open Go

/-- The bytes os are the bits B, whatever follows. -/
def Out (os : List Nat) (B : List Bool) : Prop := (∀ zs, bitsOf (os ++ zs) = B ++ bitsOf zs) ∧ ∀ o ∈ os, o < 256
theorem Out.nil : Out [] [] := ⟨fun zs => rfl, fun o h => by cases h⟩
theorem destuff_ff (zs : List Nat) : destuff (255 :: 0 :: zs) = some (255, zs) := by simp [destuff]
theorem Out.ne {os : List Nat} {B : List Bool} (h : Out os B) {c : Nat} (hc : c < 256) (h255 : c ≠ 255) : Out (os ++ [c]) (B ++ bitsN c 8) := by
  refine ⟨fun zs => ?_, fun o ho => ?_⟩
  · rw [List.append_assoc, h.1, List.singleton_append, bitsOf_some (destuff_ne h255), List.append_assoc]
  · rcases List.mem_append.1 ho with h1 | h1
    · exact h.2 o h1
    · simp at h1; omega
theorem Out.ff {os : List Nat} {B : List Bool} (h : Out os B) : Out (os ++ [255] ++ [0]) (B ++ bitsN 255 8) := by
  refine ⟨fun zs => ?_, fun o ho => ?_⟩
  · rw [List.append_assoc, List.append_assoc, h.1, List.singleton_append, List.singleton_append, bitsOf_some (destuff_ff zs), List.append_assoc]
  · rcases List.mem_append.1 ho with h1 | h1
    · rcases List.mem_append.1 h1 with h2 | h2
      · exact h.2 o h2
      · simp at h2; omega
    · simp at h1; omega
theorem Out.bits {os : List Nat} {B : List Bool} (h : Out os B) : bitsOf os = B := by
  have := h.1 []
  rw [List.append_nil, bitsOf_none (S := []) rfl, List.append_nil] at this
  exact this
/-- One byte leaves the encoder. -/
theorem bits_out {V N : Nat} (h8 : 8 ≤ N) (hV : V < 2 ^ N) : V / 2 ^ (N - 8) < 256 ∧ V % 2 ^ (N - 8) < 2 ^ (N - 8) ∧ bitsN V N = bitsN (V / 2 ^ (N - 8)) 8 ++ bitsN (V % 2 ^ (N - 8)) (N - 8) := by
  refine ⟨?_, Nat.mod_lt _ (Nat.pow_pos (by decide)), ?_⟩
  · rw [Nat.div_lt_iff_lt_mul (Nat.pow_pos (by decide)), show (256 : Nat) = 2 ^ 8 from rfl, ← Nat.pow_add, show 8 + (N - 8) = N by omega]
    exact hV
  · have h1 := bitsN_add V (N - 8) 8
    rw [show 8 + (N - 8) = N by omega, Nat.shiftRight_eq_div_pow] at h1
    rw [h1, bitsN_mod V (N - 8) (N - 8) (Nat.le_refl _)]
theorem shr24 {V N : Nat} (h8 : 8 ≤ N) (h32 : N ≤ 32) : V * 2 ^ (32 - N) / 2 ^ 24 = V / 2 ^ (N - 8) := by
  have e : (2 : Nat) ^ 24 = 2 ^ (N - 8) * 2 ^ (32 - N) := by rw [← Nat.pow_add]; congr 1; omega
  rw [e, Nat.mul_div_mul_right _ _ (Nat.pow_pos (by decide))]
theorem shl8 {V N : Nat} (h8 : 8 ≤ N) (h32 : N ≤ 32) : V * 2 ^ (32 - N) * 256 % 4294967296 = V % 2 ^ (N - 8) * 2 ^ (32 - (N - 8)) := by
  have e : (4294967296 : Nat) = 2 ^ (N - 8) * 2 ^ (32 - (N - 8)) := by rw [← Nat.pow_add, show N - 8 + (32 - (N - 8)) = 32 by omega]
  have e2 : V * 2 ^ (32 - N) * 256 = V * 2 ^ (32 - (N - 8)) := by
    rw [show 32 - (N - 8) = 32 - N + 8 by omega, Nat.pow_add, Nat.mul_assoc]
  rw [e2, e, Nat.mul_mod_mul_right]
theorem or_addB {v c n l : Nat} (hv : v < 2 ^ n) (hc : c < 2 ^ l) (hn : n + l ≤ 32) : (c * 2 ^ (32 - (n + l))) ||| (v * 2 ^ (32 - n)) = (v * 2 ^ l + c) * 2 ^ (32 - (n + l)) := by
  have h1 : c * 2 ^ (32 - (n + l)) < 2 ^ (32 - n) := by
    have e : (2 : Nat) ^ (32 - n) = 2 ^ l * 2 ^ (32 - (n + l)) := by rw [← Nat.pow_add]; congr 1; omega
    rw [e]
    exact Nat.mul_lt_mul_of_pos_right hc (Nat.pow_pos (by decide))
  have h2 := Nat.two_pow_add_eq_or_of_lt h1 v
  rw [Nat.or_comm, Nat.mul_comm v, ← h2, Nat.add_mul, Nat.mul_assoc, ← Nat.pow_add, show l + (32 - (n + l)) = 32 - n by omega, Nat.mul_comm]
theorem bits_join {v c n l : Nat} (hc : c < 2 ^ l) : bitsN (v * 2 ^ l + c) (n + l) = bitsN v n ++ bitsN c l := by
  rw [bitsN_add, Nat.shiftRight_eq_div_pow, Nat.mul_comm, Nat.mul_add_div (Nat.pow_pos (by decide)), Nat.div_eq_of_lt hc, Nat.add_zero]
  congr 1
  rw [← bitsN_mod (2 ^ l * v + c) l l (Nat.le_refl _), Nat.mul_add_mod, Nat.mod_eq_of_lt hc]
theorem join_lt {v c n l : Nat} (hv : v < 2 ^ n) (hc : c < 2 ^ l) : v * 2 ^ l + c < 2 ^ (n + l) := by
  rw [Nat.pow_add]
  have : (v + 1) * 2 ^ l ≤ 2 ^ n * 2 ^ l := Nat.mul_le_mul_right _ hv
  rw [Nat.add_mul] at this
  omega
theorem bits_ones : bitsN 127 7 = List.replicate 7 true := by decide
/-- What is left of seven ones. -/
theorem pad_ones {B' p B : List Bool} (h : B' ++ p = B ++ List.replicate 7 true) (hp : p.length < 8) : ∃ k, B' = B ++ List.replicate k true := by
  have hl := congrArg List.length h
  rw [List.length_append, List.length_append, List.length_replicate] at hl
  have h1 := congrArg (List.take B'.length) h
  rw [List.take_left, List.take_append, List.take_of_length_le (by omega), List.take_replicate] at h1
  exact ⟨_, h1⟩
namespace Tab
/-- A symbol's code. -/
def Cd (T : Tab) (s c n : Nat) : Prop := ∃ i j, i < 16 ∧ j < T.counts i ∧ c = T.first i + j ∧ n = i + 1 ∧ T.syms.getD (T.idx i + j) 0 = s
theorem Cd.lt {T : Tab} {s c n : Nat} (hk : T.Kraft) (h : T.Cd s c n) : c < 2 ^ n ∧ 1 ≤ n ∧ n ≤ 16 := by
  obtain ⟨i, j, hi, hj, rfl, rfl, _⟩ := h
  have := hk i hi
  exact ⟨by omega, by omega, by omega⟩
theorem Cd.sym {T : Tab} {s c n : Nat} (hk : T.Kraft) (h : T.Cd s c n) (tl : List Bool) : T.sym (bitsN c n ++ tl) = some (s, tl) := by
  obtain ⟨i, j, hi, hj, rfl, rfl, rfl⟩ := h
  exact sym_code' hk hi hj tl
theorem sym_ones {T : Tab} (hk : T.Kraft) (k : Nat) : T.sym (List.replicate k true) = none := by
  have key : ∀ f i k, f + i = 16 → T.symGo f i (2 ^ i - 1) (List.replicate k true) = none := by
    intro f
    induction f with
    | zero => intro i k _; rfl
    | succ f ih =>
      intro i k hi
      cases k with
      | zero => rfl
      | succ k =>
        have h1 := hk i (by omega)
        have h2 : 2 * (2 ^ i - 1) + true.toNat = 2 ^ (i + 1) - 1 := by
          have : 0 < 2 ^ i := Nat.pow_pos (by decide)
          rw [Nat.pow_succ]
          simp only [Bool.toNat_true]
          omega
        rw [List.replicate_succ, symGo, h2, if_neg (by omega)]
        exact ih (i + 1) k (by omega)
  exact key 16 0 k rfl
def tbits (tl : List (Nat × Nat × Nat)) : List Bool := tl.flatMap fun t => bitsN t.2.1 t.2.2
theorem dec_back {T : Tab} (hk : T.Kraft) (k : Nat) : ∀ tl : List (Nat × Nat × Nat), (∀ t ∈ tl, T.Cd t.1 t.2.1 t.2.2) → decN T (tl.length + 1) (tbits tl ++ List.replicate k true) = (tl.map (·.1), false)
  | [], _ => by
    show decN T (0 + 1) ([] ++ List.replicate k true) = _
    rw [List.nil_append, decN_none (sym_ones hk k)]; rfl
  | t :: tl, h => by
    have h1 := dec_back hk k tl fun t ht => h t (List.mem_cons_of_mem _ ht)
    have h2 := (h t (List.mem_cons_self ..)).sym hk (tbits tl ++ List.replicate k true)
    rw [show tbits (t :: tl) = bitsN t.2.1 t.2.2 ++ tbits tl from List.flatMap_cons, List.append_assoc, List.length_cons, decN_some h2, h1]
    rfl
/-- The segment of one table. -/
theorem seg_dht {T : Tab} {cs : List Nat} (hl : cs.length = 16) (hc : ∀ i, i < 16 → cs[i]? = some (T.counts i)) (h256 : ∀ c ∈ cs, c < 256) (hk : T.Kraft) (ok : T.OK) (M : TabM) : Dht ([17] ++ cs ++ T.syms) M (updM M 1 1 T) := by
  have h : GoodHd ([17] ++ cs) 1 1 T := {
    len := by simp [hl]
    h0 := rfl
    tc := by decide
    th := by decide
    cnt := fun i hi => by rw [List.singleton_append, List.getElem?_cons_succ, hc i hi]
    by_ := fun i hi => h256 _ (List.mem_of_getElem? (hc i hi))
    kraft := hk
    ok := ok }
  have := Dht.cons h (Dht.nil (updM M 1 1 T))
  rwa [List.append_nil] at this
theorem class_of (T : Tab) : ∀ n p, p < T.idx n → ∃ i j, i < n ∧ j < T.counts i ∧ p = T.idx i + j
  | 0, p, h => by simp [idx] at h
  | n + 1, p, h => by
    by_cases h1 : p < T.idx n
    · obtain ⟨i, j, a, b, c⟩ := class_of T n p h1
      exact ⟨i, j, by omega, b, c⟩
    · simp only [idx] at h
      exact ⟨n, p - T.idx n, by omega, by omega, by omega⟩
end Tab
end Go.Proofs.YtdjilplpbaackaaDoor.Eng
