/-
  PLAIN LAWS ON 64 BITS: no Go in sight. Own work.
-/
import Derived.Laws.BitsLemmas
namespace Go.Proofs.Qxb6615041aMods.Bits
open Go

theorem wrap_u64 (n : Int) : IntKind.u64.wrap n = n % 18446744073709551616 := by simp [IntKind.wrap, IntKind.bits, IntKind.signed]
theorem wraps_u64 (n : Int) (h₀ : 0 ≤ n) (h₁ : n < 2 ^ 64) : IntKind.u64.wrap n = n := by rw [wrap_u64]; omega

/-- The low thirty bits of a number of nanoseconds below a second are the number. -/
theorem and_nsec (n : Int) (h0 : 0 ≤ n) (h1 : n < 1000000000) : bits .and .u64 n 1073741823 = n :=
  (bits_mask .u64 64 (by decide) wraps_u64 30 (by decide) n h0 (by omega)).trans (by omega)

/-- Its top bit is clear. -/
theorem and_mono (n : Int) (h0 : 0 ≤ n) (h1 : n < 1000000000) : bits .and .u64 n 9223372036854775808 = 0 := by
  obtain ⟨a, rfl⟩ := Int.eq_ofNat_of_zero_le h0
  have h := (bits_nat .u64 64 (by decide) wraps_u64 a 9223372036854775808 (by omega) (by omega)).1
  have hz : a &&& 9223372036854775808 = 0 := by
    have hm : (a &&& 9223372036854775808) % 2 ^ 63 = 0 := by
      rw [Nat.and_mod_two_pow]; simp
    have hd : (a &&& 9223372036854775808) / 2 ^ 63 = 0 := by
      rw [Nat.and_div_two_pow, show a / 2 ^ 63 = 0 from by omega]; simp
    omega
  rw [hz] at h
  exact h

/-- The marks of two such words, taken together, are clear. -/
theorem and_mono2 (n m : Int) (h0 : 0 ≤ n) (h1 : n < 1000000000) (g0 : 0 ≤ m) (g1 : m < 1000000000) : bits .and .u64 (bits .and .u64 n m) 9223372036854775808 = 0 := by
  obtain ⟨a, rfl⟩ := Int.eq_ofNat_of_zero_le h0
  obtain ⟨b, rfl⟩ := Int.eq_ofNat_of_zero_le g0
  have h := (bits_nat .u64 64 (by decide) wraps_u64 a b (by omega) (by omega)).1
  rw [h]
  exact and_mono _ (Int.natCast_nonneg _) (by have := @Nat.and_le_left a b; omega)

theorem or_zero (n : Int) (h0 : 0 ≤ n) (h1 : n < 1000000000) : bits .or .u64 0 n = n := by
  obtain ⟨a, rfl⟩ := Int.eq_ofNat_of_zero_le h0
  have h := (bits_nat .u64 64 (by decide) wraps_u64 0 a (by omega) (by omega)).2
  simpa using h
end Go.Proofs.Qxb6615041aMods.Bits
