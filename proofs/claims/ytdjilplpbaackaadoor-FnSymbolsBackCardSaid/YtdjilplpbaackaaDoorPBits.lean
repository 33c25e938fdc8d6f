/- Bits of numbers as lists, the highest first; the machine's arithmetic on them. -/
import Derived.Test.YtdjilplpbaackaaDoorStrmOps
set_option linter.unusedVariables false
set_option linter.unusedSimpArgs false
namespace Go.Proofs.YtdjilplpbaackaaDoor.Eng
open Go

/-- The n low bits of v, the highest first. -/
def bitsN (v : Nat) : Nat → List Bool
  | 0 => []
  | n + 1 => v.testBit n :: bitsN v n
theorem bitsN_length (v : Nat) : ∀ n, (bitsN v n).length = n
  | 0 => rfl
  | n + 1 => by rw [bitsN, List.length_cons, bitsN_length v n]
theorem bitsN_congr {v v' : Nat} : ∀ n, (∀ k, k < n → v.testBit k = v'.testBit k) → bitsN v n = bitsN v' n
  | 0, _ => rfl
  | n + 1, h => by rw [bitsN, bitsN, h n (by omega), bitsN_congr n fun k hk => h k (by omega)]
/-- n + l bits: the high n, then the low l. -/
theorem bitsN_add (v l : Nat) : ∀ n, bitsN v (n + l) = bitsN (v >>> l) n ++ bitsN v l
  | 0 => by simp [bitsN]
  | n + 1 => by
    rw [show n + 1 + l = (n + l) + 1 by omega, bitsN, bitsN_add v l n, bitsN, List.cons_append, Nat.testBit_shiftRight, Nat.add_comm l n]
theorem bitsN_drop (v n l : Nat) (h : l ≤ n) : (bitsN v n).drop l = bitsN v (n - l) := by
  obtain ⟨d, rfl⟩ : ∃ d, n = l + d := ⟨n - l, by omega⟩
  rw [bitsN_add v d l, List.drop_append, bitsN_length, List.drop_eq_nil_of_le (by rw [bitsN_length]; exact Nat.le_refl _)]
  simp
theorem bitsN_mod (v n k : Nat) (h : n ≤ k) : bitsN (v % 2 ^ k) n = bitsN v n :=
  bitsN_congr n fun i hi => by rw [Nat.testBit_mod_two_pow]; simp; omega
/-- The state of the bits that were taken: a's low n bits are the unread ones, m marks the highest of them. -/
def BitsSt (a m n : Nat) : Prop := a < 4294967296 ∧ n ≤ 15 ∧ m = (if n = 0 then 0 else 2 ^ (n - 1))
theorem or_low (x c : Nat) (hc : c < 256) : (x * 256) ||| c = x * 256 + c := by
  have := Nat.shiftLeft_add_eq_or_of_lt (a := x) (b := c) (i := 8) (by simpa using hc)
  rw [Nat.shiftLeft_eq] at this
  exact this.symm
theorem mul256_mod (a : Nat) : a * 256 % 4294967296 = (a % 16777216) * 256 := by omega
theorem bits_push (a c n : Nat) (hc : c < 256) (hn : n ≤ 8) : bitsN ((a * 256 % 4294967296) ||| c) (n + 8) = bitsN a n ++ bitsN c 8 := by
  rw [bitsN_add _ 8 n, mul256_mod, or_low _ _ hc]
  congr 1
  · have e : ((a % 16777216) * 256 + c) >>> 8 = a % 2 ^ 24 := by rw [Nat.shiftRight_eq_div_pow]; omega
    rw [e, bitsN_mod _ _ _ (by omega)]
  · have e : bitsN ((a % 16777216) * 256 + c) 8 = bitsN (((a % 16777216) * 256 + c) % 2 ^ 8) 8 := (bitsN_mod _ _ _ (by omega)).symm
    rw [e, show ((a % 16777216) * 256 + c) % 2 ^ 8 = c by omega]

/-! the machine's operations -/
theorem wrap_u32 (n : Nat) : IntKind.u32.wrap (n : Int) = ((n % 4294967296 : Nat) : Int) := by rw [IntKind.wrap_u32]; omega
theorem wrap_u8 (n : Nat) : IntKind.u8.wrap (n : Int) = ((n % 256 : Nat) : Int) := by rw [IntKind.wrap_u8]; omega
theorem shl_u32 (a k : Nat) (hk : k ≤ 32) : IntKind.u32.wrap ((a : Int) * 2 ^ (min ((k : Int)).toNat IntKind.u32.bits)) = ((a * 2 ^ k % 4294967296 : Nat) : Int) := by
  rw [show min ((k : Int)).toNat IntKind.u32.bits = k by simp [IntKind.bits]; omega]
  rw [← wrap_u32]; congr 1
theorem fdiv_nat (a b : Nat) : ((a : Int)).fdiv (b : Int) = ((a / b : Nat) : Int) := by
  rw [Int.fdiv_eq_ediv_of_nonneg _ (Int.natCast_nonneg _)]; rfl
theorem shr_nat (k : IntKind) (a n : Nat) (hn : n ≤ k.bits) : ((a : Int)).fdiv (2 ^ (min ((n : Int)).toNat k.bits)) = ((a / 2 ^ n : Nat) : Int) := by
  rw [show min ((n : Int)).toNat k.bits = n by simp; omega, ← fdiv_nat]; congr 1
theorem or_u32 (x y : Nat) (hx : x < 4294967296) (hy : y < 4294967296) : IntKind.u32.wrap ((BitVec.ofInt IntKind.u32.bits (x : Int) ||| BitVec.ofInt IntKind.u32.bits (y : Int)).toNat : Int) = ((x ||| y : Nat) : Int) := by
  have h1 : (BitVec.ofInt IntKind.u32.bits (x : Int)).toNat = x := by
    show (BitVec.ofInt 32 (x : Int)).toNat = x
    rw [BitVec.ofInt_natCast, BitVec.toNat_ofNat]; omega
  have h2 : (BitVec.ofInt IntKind.u32.bits (y : Int)).toNat = y := by
    show (BitVec.ofInt 32 (y : Int)).toNat = y
    rw [BitVec.ofInt_natCast, BitVec.toNat_ofNat]; omega
  rw [BitVec.toNat_or, h1, h2, wrap_u32]
  have : x ||| y < 2 ^ 32 := Nat.or_lt_two_pow hx hy
  omega
theorem and_u32 (x y : Nat) (hx : x < 4294967296) (hy : y < 4294967296) : IntKind.u32.wrap ((BitVec.ofInt IntKind.u32.bits (x : Int) &&& BitVec.ofInt IntKind.u32.bits (y : Int)).toNat : Int) = ((x &&& y : Nat) : Int) := by
  have h1 : (BitVec.ofInt IntKind.u32.bits (x : Int)).toNat = x := by
    show (BitVec.ofInt 32 (x : Int)).toNat = x
    rw [BitVec.ofInt_natCast, BitVec.toNat_ofNat]; omega
  have h2 : (BitVec.ofInt IntKind.u32.bits (y : Int)).toNat = y := by
    show (BitVec.ofInt 32 (y : Int)).toNat = y
    rw [BitVec.ofInt_natCast, BitVec.toNat_ofNat]; omega
  rw [BitVec.toNat_and, h1, h2, wrap_u32]
  have : x &&& y < 2 ^ 32 := Nat.and_lt_two_pow x hy
  omega
theorem and_pow (a n : Nat) : (a &&& 2 ^ n = 0) ↔ a.testBit n = false := by
  constructor
  · intro h
    have := congrArg (fun x => x.testBit n) h
    simpa [Nat.testBit_and, Nat.testBit_two_pow_self] using this
  · intro h
    apply Nat.eq_of_testBit_eq
    intro i
    rw [Nat.testBit_and, Nat.testBit_two_pow, Nat.zero_testBit]
    by_cases hi : n = i
    · subst hi; simp [h]
    · simp [hi]

/-! ### The bits of entropy-coded data -/
theorem destuff_length {S S' : List Nat} {c : Nat} (h : destuff S = some (c, S')) : S'.length < S.length := by
  unfold destuff at h
  split at h
  · cases h
  · split at h
    · split at h
      · split at h
        · cases h; simp; omega
        · cases h
      · cases h
    · cases h; simp
theorem destuff_lt {S S' : List Nat} {c : Nat} (h : destuff S = some (c, S')) (hb : ∀ x ∈ S, x < 256) : c < 256 ∧ ∀ x ∈ S', x < 256 := by
  unfold destuff at h
  split at h
  · cases h
  · rename_i x S1
    split at h
    · split at h
      · rename_i y S2
        split at h
        · cases h; exact ⟨by omega, fun z hz => hb z (by simp [hz])⟩
        · cases h
      · cases h
    · cases h; exact ⟨hb _ (by simp), fun z hz => hb z (by simp [hz])⟩
def bitsOf (S : List Nat) : List Bool :=
  match h : destuff S with
  | none => []
  | some (c, S') => bitsN c 8 ++ bitsOf S'
termination_by S.length
decreasing_by exact destuff_length h
theorem bitsOf_none {S : List Nat} (h : destuff S = none) : bitsOf S = [] := by
  unfold bitsOf; split
  · rfl
  · rename_i h'; rw [h] at h'; cases h'
theorem bitsOf_some {S S' : List Nat} {c : Nat} (h : destuff S = some (c, S')) : bitsOf S = bitsN c 8 ++ bitsOf S' := by
  rw [bitsOf]; split
  · rename_i h'; rw [h] at h'; cases h'
  · rename_i c1 S1 h'
    rw [h] at h'
    injection h' with h'
    injection h' with h1 h2
    rw [h1, h2]
end Go.Proofs.YtdjilplpbaackaaDoor.Eng
