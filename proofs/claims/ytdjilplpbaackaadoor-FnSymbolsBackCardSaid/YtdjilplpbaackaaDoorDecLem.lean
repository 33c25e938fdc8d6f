/- Arithmetic for decodeHuffman. -/
import Derived.Test.YtdjilplpbaackaaDoorTab
set_option linter.unusedVariables false
set_option linter.unusedSimpArgs false
namespace Go.Proofs.YtdjilplpbaackaaDoor.Eng
open Go

theorem equalIn_str' {P : Program} {w : World} {t : TypeId} {a b : ByteArray} {r : Bool} (hu : P.underlying t = some .string) (h : (a == b) = r) (dd : Nat) : (Op.equalIn (dd + 1) t (.string a) (.string b)).run P w = .ok r w := by
  rw [← h]; exact equalIn_str hu dd
theorem miss_miss : (missing == missing) = true := by decide
theorem short_miss : (short == missing) = false := by decide
theorem short_short : (short == short) = true := by decide
theorem cmp_105 : (Tryd.prog.info? 105).map (·.comparable) = some true := by kernel_rfl
theorem BitsSt.drop {a m n L : Nat} (h : BitsSt a m n) (hL : L ≤ n) (hn : 0 < n) : BitsSt a (m / 2 ^ L) (n - L) := by
  obtain ⟨h1, h2, h3⟩ := h
  refine ⟨h1, by omega, ?_⟩
  rw [h3, if_neg (by omega)]
  by_cases hz : n - L = 0
  · rw [if_pos hz]
    have : (2 : Nat) ^ (n - 1) < 2 ^ L := Nat.pow_lt_pow_right (by omega) (by omega)
    exact Nat.div_eq_of_lt this
  · rw [if_neg hz, Nat.pow_div (by omega) (by omega)]
    congr 1; omega
theorem shr_k (k : IntKind) (a n : Nat) (hn : n ≤ k.bits) : ((a : Int)).fdiv (2 ^ (min ((n : Int)).toNat k.bits)) = ((a / 2 ^ n : Nat) : Int) := shr_nat k a n hn
theorem and255 (a n : Nat) (ha : a < 4294967296) : IntKind.u32.wrap ((BitVec.ofInt IntKind.u32.bits ((a / 2 ^ n : Nat) : Int) &&& BitVec.ofInt IntKind.u32.bits (255 : Int)).toNat : Int) = ((a / 2 ^ n % 256 : Nat) : Int) := by
  have h1 : a / 2 ^ n ≤ a := Nat.div_le_self _ _
  have := and_u32 (a / 2 ^ n) 255 (by omega) (by omega)
  rw [show ((255 : Nat) : Int) = 255 from rfl] at this
  rw [this, show (255 : Nat) = 2 ^ 8 - 1 from rfl, Nat.and_two_pow_sub_one_eq_mod]
theorem wrap_u16 (n : Nat) : IntKind.u16.wrap (n : Int) = ((n % 65536 : Nat) : Int) := by simp [IntKind.wrap, IntKind.bits, IntKind.signed]
theorem and255_16 (v : Nat) (hv : v < 65536) : IntKind.u16.wrap ((BitVec.ofInt IntKind.u16.bits (v : Int) &&& BitVec.ofInt IntKind.u16.bits (255 : Int)).toNat : Int) = ((v % 256 : Nat) : Int) := by
  have h1 : (BitVec.ofInt IntKind.u16.bits (v : Int)).toNat = v := by
    show (BitVec.ofInt 16 (v : Int)).toNat = v
    rw [BitVec.ofInt_natCast, BitVec.toNat_ofNat]; omega
  have h2 : (BitVec.ofInt IntKind.u16.bits (255 : Int)).toNat = 255 := rfl
  rw [BitVec.toNat_and, h1, h2, wrap_u16, show (255 : Nat) = 2 ^ 8 - 1 from rfl, Nat.and_two_pow_sub_one_eq_mod]
  congr 1; omega
theorem or1_i32 (x : Nat) (hx : x < 65536) : IntKind.i32.wrap ((BitVec.ofInt IntKind.i32.bits ((2 * x : Nat) : Int) ||| BitVec.ofInt IntKind.i32.bits (1 : Int)).toNat : Int) = ((2 * x + 1 : Nat) : Int) := by
  have h1 : (BitVec.ofInt IntKind.i32.bits ((2 * x : Nat) : Int)).toNat = 2 * x := by
    show (BitVec.ofInt 32 ((2 * x : Nat) : Int)).toNat = _
    rw [BitVec.ofInt_natCast, BitVec.toNat_ofNat]; omega
  have h2 : (BitVec.ofInt IntKind.i32.bits (1 : Int)).toNat = 1 := rfl
  rw [BitVec.toNat_or, h1, h2]
  have h3 := Nat.shiftLeft_add_eq_or_of_lt (a := x) (b := 1) (i := 1) (by omega)
  rw [Nat.shiftLeft_eq, Nat.mul_comm] at h3
  rw [show (2 ^ 1 : Nat) = 2 from rfl] at h3
  rw [← h3]
  exact IntWalk.i32_in _ (by omega)
theorem shl1_i32 (x : Nat) (hx : x < 1073741824) : IntKind.i32.wrap ((x : Int) * 2 ^ (min ((1 : Int)).toNat IntKind.i32.bits)) = ((2 * x : Nat) : Int) := by
  rw [show (2 : Int) ^ (min ((1 : Int)).toNat IntKind.i32.bits) = 2 from rfl, IntWalk.i32_in _ (by omega)]
  omega
theorem lut_bits (a n : Nat) (hn : 8 ≤ n) : bitsN a n = bitsN (a / 2 ^ (n - 8) % 256) 8 ++ bitsN a (n - 8) := by
  have h1 := bitsN_add a (n - 8) 8
  rw [show 8 + (n - 8) = n by omega] at h1
  rw [h1, Nat.shiftRight_eq_div_pow, ← bitsN_mod (a / 2 ^ (n - 8)) 8 8 (Nat.le_refl _)]
/-- The state behind the table's look-up. -/
theorem lut_step {a n L s : Nat} {bs : List Bool} {T : Tab} {tl : List Bool} (hn : 8 ≤ n) (hL : L ≤ 8) (hbs : bitsN a n ++ tl = bs)
    (h : ∀ tl, T.sym (bitsN (a / 2 ^ (n - 8) % 256) 8 ++ tl) = some (s, (bitsN (a / 2 ^ (n - 8) % 256) 8).drop L ++ tl)) : T.sym bs = some (s, bitsN a (n - L) ++ tl) := by
  rw [← hbs, lut_bits a n hn, List.append_assoc, h]
  congr 2
  rw [bitsN_drop _ _ _ hL]
  have h2 := bitsN_add a (n - 8) (8 - L)
  rw [show 8 - L + (n - 8) = n - L by omega] at h2
  rw [h2, Nat.shiftRight_eq_div_pow, List.append_assoc]
  congr 1
  rw [← bitsN_mod (a / 2 ^ (n - 8)) (8 - L) 8 (by omega)]
theorem and_m {a m n : Nat} (h : BitsSt a m n) (hn : 0 < n) : IntKind.u32.wrap ((BitVec.ofInt IntKind.u32.bits (a : Int) &&& BitVec.ofInt IntKind.u32.bits (m : Int)).toNat : Int) = ((a &&& m : Nat) : Int) ∧ (a &&& m = 0 ↔ a.testBit (n - 1) = false) := by
  obtain ⟨h1, h2, h3⟩ := h
  rw [if_neg (by omega)] at h3
  have h4 : (2 : Nat) ^ (n - 1) < 2 ^ 16 := Nat.pow_lt_pow_right (by omega) (by omega)
  exact ⟨and_u32 a m h1 (by omega), by rw [h3]; exact and_pow a (n - 1)⟩
namespace Tab
theorem symGo_take {T : Tab} {f i cp : Nat} {b : Bool} {bs : List Bool} (h : 2 * cp + b.toNat < T.first i + T.counts i) : T.symGo (f + 1) i cp (b :: bs) = some (T.syms.getD (T.idx i + (2 * cp + b.toNat - T.first i)) 0, bs) := by
  rw [symGo, if_pos h]
theorem symGo_pass {T : Tab} {f i cp : Nat} {b : Bool} {bs : List Bool} (h : ¬ 2 * cp + b.toNat < T.first i + T.counts i) : T.symGo (f + 1) i cp (b :: bs) = T.symGo f (i + 1) (2 * cp + b.toNat) bs := by
  rw [symGo, if_neg h]
end Tab
end Go.Proofs.YtdjilplpbaackaaDoor.Eng
