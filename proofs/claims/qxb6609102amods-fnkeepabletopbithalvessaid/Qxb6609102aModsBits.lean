/-
  PLAIN LAWS ON 32 BITS: no Go in sight. Own work.
-/
import Derived.Laws.BitsLemmas
namespace Go.Proofs.Qxb6609102aMods.Keep
open Go

theorem wraps_u32 (n : Int) (h₀ : 0 ≤ n) (h₁ : n < 2 ^ 32) : IntKind.u32.wrap n = n := by rw [IntKind.wrap_u32]; omega

theorem and_low (a : Int) (h0 : 0 ≤ a) (h1 : a < 4294967296) : bits .and .u32 a 2147483647 = a % 2147483648 :=
  bits_mask .u32 32 (by decide) wraps_u32 31 (by decide) a h0 h1

theorem xor_nat (a b : Nat) (ha : a < 4294967296) (hb : b < 4294967296) : bits .xor .u32 (a : Int) (b : Int) = ((a ^^^ b : Nat) : Int) := by
  have hx : a ^^^ b < 2 ^ 32 := Nat.xor_lt_two_pow (by omega) (by omega)
  have h1 : (BitVec.ofInt 32 (a : Int)).toNat = a := by
    rw [BitVec.ofInt_natCast, BitVec.toNat_ofNat]; exact Nat.mod_eq_of_lt (by omega)
  have h2 : (BitVec.ofInt 32 (b : Int)).toNat = b := by
    rw [BitVec.ofInt_natCast, BitVec.toNat_ofNat]; exact Nat.mod_eq_of_lt (by omega)
  show IntKind.u32.wrap ((BitVec.ofInt 32 (a : Int) ^^^ BitVec.ofInt 32 (b : Int)).toNat : Int) = _
  rw [BitVec.toNat_xor, h1, h2, IntKind.wrap_u32]
  omega

theorem xor_top (a : Nat) (ha : a < 4294967296) : a ^^^ 2147483648 = if a < 2147483648 then a + 2147483648 else a - 2147483648 := by
  have hm : (a ^^^ 2147483648) % 2 ^ 31 = a % 2 ^ 31 := by
    rw [Nat.xor_mod_two_pow]; simp
  have hd : (a ^^^ 2147483648) / 2 ^ 31 = (a / 2 ^ 31) ^^^ 1 := by
    rw [Nat.xor_div_two_pow]
  have hq : a / 2 ^ 31 = 0 ∨ a / 2 ^ 31 = 1 := by omega
  rcases hq with hq | hq
  · rw [hq] at hd
    have hd' : (a ^^^ 2147483648) / 2 ^ 31 = 1 := hd
    rw [if_pos (by omega)]
    omega
  · rw [hq] at hd
    have hd' : (a ^^^ 2147483648) / 2 ^ 31 = 0 := hd
    rw [if_neg (by omega)]
    omega

theorem xor_lo (a : Int) (h0 : 0 ≤ a) (h1 : a ≤ 2147483647) : bits .xor .u32 a 2147483648 = a + 2147483648 := by
  obtain ⟨a, rfl⟩ := Int.eq_ofNat_of_zero_le h0
  have h := xor_nat a 2147483648 (by omega) (by omega)
  rw [xor_top a (by omega), if_pos (by omega)] at h
  exact h.trans (by simp)

theorem xor_hi (a : Int) (h0 : 2147483647 < a) (h1 : a < 4294967296) : bits .xor .u32 a 2147483648 = a - 2147483648 := by
  obtain ⟨a, rfl⟩ := Int.eq_ofNat_of_zero_le (by omega : 0 ≤ a)
  have h := xor_nat a 2147483648 (by omega) (by omega)
  rw [xor_top a (by omega), if_neg (by omega)] at h
  exact h.trans (by omega)
end Go.Proofs.Qxb6609102aMods.Keep
