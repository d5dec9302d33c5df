/-
  Masks: the low 32 bits of a uint64; an int masked by 2^q - 1; n &&& (n - 1) = 0 says that n is a power of two.
-/
import Derived.WalkKit
import Derived.Laws.BitsAllLaws
import Derived.Laws.Bits128
namespace Go.Proofs.Qxb6616132a
open Go.RowKit

theorem low32 (z : Int) (h1 : 0 ≤ z) (h2 : z < 18446744073709551616) : bits .and .u64 z 4294967295 = z % 4294967296 := by
  rw [u64_and z 4294967295 h1 h2 (by decide) (by decide)]
  have e : (4294967295 : Int).toNat = 2 ^ 32 - 1 := by decide
  rw [e, Nat.and_two_pow_sub_one_eq_mod]
  omega

/-- 'x & (2^q - 1)' on an int, whatever its sign. -/
theorem i64_mask (x : Int) (q : Nat) (hq : q ≤ 62) : bits .and .i64 x ((2 ^ q : Nat) - 1 : Int) = x % (2 ^ q : Nat) := by
  have hp : 0 < 2 ^ q := Nat.two_pow_pos q
  have hp' : 2 ^ q ≤ 2 ^ 62 := Nat.pow_le_pow_right (by decide) hq
  have e1 : ((2 ^ q : Nat) - 1 : Int) = ((2 ^ q - 1 : Nat) : Int) := by omega
  rw [e1]
  show IntKind.i64.wrap ((BitVec.ofInt 64 x &&& BitVec.ofInt 64 ((2 ^ q - 1 : Nat) : Int)).toNat : Int) = _
  rw [BitVec.toNat_and]
  have e2 : (BitVec.ofInt 64 ((2 ^ q - 1 : Nat) : Int)).toNat = 2 ^ q - 1 := by
    rw [BitVec.ofInt_natCast, BitVec.toNat_ofNat]; exact Nat.mod_eq_of_lt (by omega)
  rw [e2, Nat.and_two_pow_sub_one_eq_mod, BitVec.toNat_ofInt, IntKind.wrap_i64]
  have hd : ((2 ^ q : Nat) : Int) ∣ ((2 ^ 64 : Nat) : Int) := by
    exact Int.natCast_dvd_natCast.2 (Nat.pow_dvd_pow 2 (by omega))
  have e3 : (((x % ((2 ^ 64 : Nat) : Int)).toNat % 2 ^ q : Nat) : Int) = x % ((2 ^ q : Nat) : Int) := by
    rw [Int.natCast_emod, Int.toNat_of_nonneg (Int.emod_nonneg _ (by decide)), Int.emod_emod_of_dvd _ hd]
  rw [e3]
  have h1 := Int.emod_nonneg x (show ((2 ^ q : Nat) : Int) ≠ 0 by omega)
  have h2 := Int.emod_lt_of_pos x (show (0 : Int) < ((2 ^ q : Nat) : Int) by omega)
  omega

theorem wrap64_mod (x : Int) (q : Nat) (hq : q ≤ 62) : wrap64 x % (2 ^ q : Nat) = x % (2 ^ q : Nat) := by
  unfold wrap64
  have hd : ((2 ^ q : Nat) : Int) ∣ 18446744073709551616 := by
    have := Int.natCast_dvd_natCast.2 (Nat.pow_dvd_pow 2 (show q ≤ 64 by omega))
    simpa using this
  have hd2 : ((2 ^ q : Nat) : Int) ∣ 9223372036854775808 := by
    have := Int.natCast_dvd_natCast.2 (Nat.pow_dvd_pow 2 (show q ≤ 63 by omega))
    simpa using this
  rw [Int.sub_emod, Int.emod_emod_of_dvd _ hd, ← Int.sub_emod]
  congr 1
  omega

theorem pow2_of_and (n : Nat) (h0 : 0 < n) (h : n &&& (n - 1) = 0) : ∃ q, n = 2 ^ q := by
  induction n using Nat.strongRecOn with
  | ind n ih =>
    by_cases h1 : n = 1
    · exact ⟨0, by simp [h1]⟩
    · have hev : n % 2 = 0 := by
        rcases Nat.mod_two_eq_zero_or_one n with e | e
        · exact e
        · exfalso
          have hb : (n &&& (n - 1)) / 2 = n / 2 := by
            rw [Nat.and_div_two, show (n - 1) / 2 = n / 2 by omega, Nat.and_self]
          rw [h] at hb
          omega
      have hb : n / 2 &&& (n / 2 - 1) = 0 := by
        have : (n &&& (n - 1)) / 2 = n / 2 &&& (n - 1) / 2 := Nat.and_div_two
        rw [h, show (n - 1) / 2 = n / 2 - 1 by omega] at this
        omega
      obtain ⟨q, hq⟩ := ih (n / 2) (by omega) (by omega) hb
      exact ⟨q + 1, by rw [Nat.pow_succ, ← hq]; omega⟩
theorem i64_and_nat (a b : Nat) (ha : a < 9223372036854775808) (hb : b < 9223372036854775808) : bits .and .i64 (a : Int) (b : Int) = ((a &&& b : Nat) : Int) := by
  have hx : a &&& b < 2 ^ 63 := Nat.and_lt_two_pow _ (by omega)
  show IntKind.i64.wrap ((BitVec.ofInt 64 (a : Int) &&& BitVec.ofInt 64 (b : Int)).toNat : Int) = _
  rw [BitVec.toNat_and, ofInt_u64 a (by omega), ofInt_u64 b (by omega), IntKind.wrap_i64]
  omega
end Go.Proofs.Qxb6616132a
