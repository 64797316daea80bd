/- Whole numbers by seven bits: plain lemmas on bits. -/
import Derived.WalkKit
namespace Go.Proofs.YtdedkoahfailcaaGreatDoor
open Go Go.RowKit

theorem nat_and_hi (n k X : Nat) (hk : k ≤ n) (hX : X < 2 ^ n) : X &&& (2 ^ n - 2 ^ k) = X / 2 ^ k * 2 ^ k := by
  apply Nat.eq_of_testBit_eq
  intro i
  have h2 : 2 ^ n - 2 ^ k = 2 ^ n - ((2 ^ k - 1) + 1) := by have := Nat.two_pow_pos k; omega
  have hlt : 2 ^ k - 1 < 2 ^ n := by have := Nat.pow_le_pow_right (show 0 < 2 by decide) hk; have := Nat.two_pow_pos k; omega
  rw [Nat.testBit_and, h2, Nat.testBit_two_pow_sub_succ hlt, Nat.testBit_two_pow_sub_one, Nat.testBit_mul_two_pow, Nat.testBit_div_two_pow]
  by_cases hi : i < n
  · by_cases hik : i < k
    · simp [hi, hik]; omega
    · simp [hi, hik]
      have : k ≤ i := by omega
      simp [this, Nat.sub_add_cancel this]
  · have hf : X.testBit i = false := Nat.testBit_lt_two_pow (Nat.lt_of_lt_of_le hX (Nat.pow_le_pow_right (by decide) (by omega)))
    have : k ≤ i := by omega
    simp [hf, this, Nat.sub_add_cancel this]

theorem i32_and_hi (n : Int) : bits .and .i32 n (-128) = IntKind.i32.wrap ((((n % 4294967296).toNat / 128 * 128 : Nat)) : Int) := by
  have hc : (BitVec.ofInt 32 (-128)).toNat = 2 ^ 32 - 2 ^ 7 := by decide
  have key : (BitVec.ofInt 32 n &&& BitVec.ofInt 32 (-128)).toNat = (n % 4294967296).toNat / 128 * 128 := by
    rw [BitVec.toNat_and, BitVec.toNat_ofInt, hc, nat_and_hi 32 7 _ (by decide) (by omega)]
    rfl
  show IntKind.i32.wrap ((BitVec.ofInt 32 n &&& BitVec.ofInt 32 (-128)).toNat : Nat) = _
  rw [key]
theorem i64_and_hi (n : Int) : bits .and .i64 n (-128) = IntKind.i64.wrap ((((n % 18446744073709551616).toNat / 128 * 128 : Nat)) : Int) := by
  have hc : (BitVec.ofInt 64 (-128)).toNat = 2 ^ 64 - 2 ^ 7 := by decide
  have key : (BitVec.ofInt 64 n &&& BitVec.ofInt 64 (-128)).toNat = (n % 18446744073709551616).toNat / 128 * 128 := by
    rw [BitVec.toNat_and, BitVec.toNat_ofInt, hc, nat_and_hi 64 7 _ (by decide) (by omega)]
    rfl
  show IntKind.i64.wrap ((BitVec.ofInt 64 n &&& BitVec.ofInt 64 (-128)).toNat : Nat) = _
  rw [key]
theorem wrap_i32' (n : Int) : IntKind.i32.wrap n = (n + 2147483648) % 4294967296 - 2147483648 := by
  simp [IntKind.wrap, IntKind.bits, IntKind.signed]; omega

/-- 'n & ^0x7F == 0'. -/
theorem i32_small (n : Int) : (bits .and .i32 n (-128) == 0) = decide ((n % 4294967296).toNat < 128) := by
  rw [i32_and_hi, wrap_i32', Bool.eq_iff_iff, beq_iff_eq, decide_eq_true_eq]
  omega
theorem i64_small (n : Int) : (bits .and .i64 n (-128) == 0) = decide ((n % 18446744073709551616).toNat < 128) := by
  rw [i64_and_hi, IntKind.wrap_i64, Bool.eq_iff_iff, beq_iff_eq, decide_eq_true_eq]
  omega
theorem i32_and127 (n : Int) : bits .and .i32 n 127 = n % 128 := by
  have h127 : (BitVec.ofInt 32 127).toNat = 2 ^ 7 - 1 := by decide
  have key : (BitVec.ofInt 32 n &&& BitVec.ofInt 32 127).toNat = (n % ((2 ^ 32 : Nat) : Int)).toNat % 2 ^ 7 := by
    rw [BitVec.toNat_and, BitVec.toNat_ofInt, h127, Nat.and_two_pow_sub_one_eq_mod]
  show IntKind.i32.wrap ((BitVec.ofInt 32 n &&& BitVec.ofInt 32 127).toNat : Nat) = n % 128
  rw [key, wrap_i32']
  omega
theorem nat_or128 (y : Nat) (h : y < 128) : y ||| 128 = y + 128 := by
  rw [Nat.or_comm, nat_join 7 128 y (by decide) (by omega)]; omega
theorem i32_or128 (y : Int) (h0 : 0 ≤ y) (h1 : y < 128) : bits .or .i32 y 128 = y + 128 := by
  have hc : (BitVec.ofInt 32 128).toNat = 128 := by decide
  have key : (BitVec.ofInt 32 y ||| BitVec.ofInt 32 128).toNat = y.toNat + 128 := by
    rw [BitVec.toNat_or, BitVec.toNat_ofInt, hc, show (y % ((2 ^ 32 : Nat) : Int)).toNat = y.toNat by omega, nat_or128 _ (by omega)]
  show IntKind.i32.wrap ((BitVec.ofInt 32 y ||| BitVec.ofInt 32 128).toNat : Nat) = y + 128
  rw [key, wrap_i32']
  omega
theorem i64_or128 (y : Int) (h0 : 0 ≤ y) (h1 : y < 128) : bits .or .i64 y 128 = y + 128 := by
  have hc : (BitVec.ofInt 64 128).toNat = 128 := by decide
  have key : (BitVec.ofInt 64 y ||| BitVec.ofInt 64 128).toNat = y.toNat + 128 := by
    rw [BitVec.toNat_or, BitVec.toNat_ofInt, hc, show (y % ((2 ^ 64 : Nat) : Int)).toNat = y.toNat by omega, nat_or128 _ (by omega)]
  show IntKind.i64.wrap ((BitVec.ofInt 64 y ||| BitVec.ofInt 64 128).toNat : Nat) = y + 128
  rw [key, IntKind.wrap_i64]
  omega

/-- A number by groups of seven bits. -/
def vint (n : Nat) : List UInt8 := if n < 128 then [n.toUInt8] else (n % 128 + 128).toUInt8 :: vint (n / 128)
theorem vint_small {n : Nat} (h : n < 128) : vint n = [n.toUInt8] := by rw [vint, if_pos h]
theorem vint_big {n : Nat} (h : ¬ n < 128) : vint n = (n % 128 + 128).toUInt8 :: vint (n / 128) := by rw [vint, if_neg h]
theorem vint_length (n : Nat) : ∀ k, n < 128 ^ k → 1 ≤ k → (vint n).length ≤ k := by
  induction n using Nat.strongRecOn with
  | _ n ih =>
    intro k hk h1
    by_cases h : n < 128
    · rw [vint_small h]; simpa using h1
    · rw [vint_big h, List.length_cons]
      obtain ⟨j, rfl⟩ : ∃ j, k = j + 1 := ⟨k - 1, by omega⟩
      have hj : 1 ≤ j := by
        rcases Nat.eq_zero_or_pos j with rfl | h'
        · simp at hk; omega
        · exact h'
      have := ih (n / 128) (by omega) j (by rw [Nat.div_lt_iff_lt_mul (by decide)]; rw [Nat.pow_succ] at hk; exact hk) hj
      omega
theorem vint_pos (n : Nat) : 1 ≤ (vint n).length := by
  by_cases h : n < 128
  · rw [vint_small h]; simp
  · rw [vint_big h]; simp
theorem u8_nat (n : Nat) (h : n < 256) : (n.toUInt8.toNat : Int) = (n : Int) := by
  rw [show n.toUInt8.toNat = n % 256 by simp [Nat.toUInt8, UInt8.toNat_ofNat']]; omega
end Go.Proofs.YtdedkoahfailcaaGreatDoor
