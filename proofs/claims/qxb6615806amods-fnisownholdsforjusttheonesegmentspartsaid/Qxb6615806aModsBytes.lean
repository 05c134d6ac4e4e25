/-
  THE CONTRACTS OF THE TWO GUARDS OF TOTAL LENGTH (5, 9): each answers yes or no, and leaves the world as it was. Own work.
-/
import Derived.Test.Qxb6615806aModsSegs
import Derived.WalkKit
import Derived.ProofKit
import Derived.Below
namespace Go.Proofs.Qxb6615806aMods.Bytes
open Go.RowKit Segs
set_option linter.unusedSimpArgs false
set_option linter.unusedVariables false

/-- The call answers yes or no, and the world is as it was. -/
def Says (w : World) (e : Ending) (w' : World) : Prop := ∃ b : Bool, e = .returned (.bool b) ∧ w' = w
theorem says (w : World) (b : Bool) : Says w (.returned (.bool b)) w := ⟨b, rfl, rfl⟩

theorem bytes5 (a : Option Addr) (len cap : Nat) (part : Nat → Int) (text : Nat → ByteArray) (x y : Int) (hm : len ≤ maxLen) (w : World) (hr : Row w a len part text) :
    Calls Trym.prog 5 #[.slice a len cap, .int .i64 x, .int .i64 y] w fun e w' => Says w e w' := by
  unfold maxLen at hm
  by_cases hl : (1048576 : Int) < len
  · go_enter Trym.func5, Trym.ntmps5
    go_wp2
    go_ret
    exact says _ _
  · go_enter Trym.func5, Trym.ntmps5
    go_wp2
    go_loopw [7, 8] (fun tot i wr => ∃ j : Nat, j ≤ len ∧ i = .int .i64 j ∧ wr = w ∧ ∃ r : Int, 0 ≤ r ∧ r ≤ 1048576 ∧ tot = .int .i64 r) (fun _ i _ => len - (intOf i).toNat)
    case atStart => exact ⟨0, Nat.zero_le _, rfl, rfl, len, by omega, by omega, rfl⟩
    case round =>
      obtain ⟨j, hj, rfl, rfl, r, r0, r1, rfl⟩ := hrel
      by_cases hlt : j < len
      · obtain ⟨b, off, rfl, hcell⟩ : ∃ b off, a = some ⟨b, off, none⟩ ∧ ∀ i, i < len → wr.cell? ⟨b, off + i * 2, none⟩ = some (.int .i64 (part i)) ∧ wr.cell? ⟨b, off + i * 2 + 1, none⟩ = some (.string (text i)) ∧
            (text i).size ≤ maxLen ∧ -9223372036854775808 ≤ part i ∧ part i ≤ 9223372036854775807 := by
          rcases hr with h0 | h1
          · omega
          · exact h1
        obtain ⟨c0, c1, hs, p0, p1⟩ := hcell j hlt
        clear hcell hr
        unfold maxLen at hs
        by_cases ht : (1048576 : Int) < (text j).size
        · go_wp2
          go_ret
          exact says _ _
        · by_cases hov : (1048576 : Int) < r + (text j).size
          · go_wp2
            go_ret
            exact says _ _
          · go_wp2
            go_roundw
            case rel => exact ⟨j + 1, by omega, by go_num, by trivial, r + (text j).size, by omega, by omega, rfl⟩
            case measure => simp [intOf]; omega
      · go_wp2
        go_ret
        exact says _ _

theorem bytes9 (a : Option Addr) (len cap : Nat) (part : Nat → Int) (text : Nat → ByteArray) (x y z : Int) (tx : ByteArray) (hm : len ≤ maxLen) (ht : tx.size ≤ maxLen) (w : World) (hr : Row w a len part text) :
    Calls Trym.prog 9 #[.slice a len cap, .int .i64 x, .int .i64 y, .string tx, .int .i64 z] w fun e w' => Says w e w' := by
  unfold maxLen at hm ht
  by_cases hl : (1048576 : Int) < len
  · go_enter Trym.func9, Trym.ntmps9
    go_wp2
    go_ret
    exact says _ _
  · go_enter Trym.func9, Trym.ntmps9
    go_wp2
    go_loopw [11, 12] (fun tot i wr => ∃ j : Nat, j ≤ len ∧ i = .int .i64 j ∧ wr = w ∧ ∃ r : Int, 0 ≤ r ∧ r ≤ 1048576 ∧ tot = .int .i64 r) (fun _ i _ => len - (intOf i).toNat)
    case atStart => exact ⟨0, Nat.zero_le _, rfl, rfl, len, by omega, by omega, rfl⟩
    case round =>
      obtain ⟨j, hj, rfl, rfl, r, r0, r1, rfl⟩ := hrel
      by_cases hlt : j < len
      · obtain ⟨b, off, rfl, hcell⟩ : ∃ b off, a = some ⟨b, off, none⟩ ∧ ∀ i, i < len → wr.cell? ⟨b, off + i * 2, none⟩ = some (.int .i64 (part i)) ∧ wr.cell? ⟨b, off + i * 2 + 1, none⟩ = some (.string (text i)) ∧
            (text i).size ≤ maxLen ∧ -9223372036854775808 ≤ part i ∧ part i ≤ 9223372036854775807 := by
          rcases hr with h0 | h1
          · omega
          · exact h1
        obtain ⟨c0, c1, hs, p0, p1⟩ := hcell j hlt
        clear hcell hr
        unfold maxLen at hs
        by_cases ht : (1048576 : Int) < (text j).size
        · go_wp2
          go_ret
          exact says _ _
        · by_cases hov : (1048576 : Int) < r + (text j).size
          · go_wp2
            go_ret
            exact says _ _
          · go_wp2
            go_roundw
            case rel => exact ⟨j + 1, by omega, by go_num, by trivial, r + (text j).size, by omega, by omega, rfl⟩
            case measure => simp [intOf]; omega
      · by_cases ht : (1048576 : Int) < tx.size
        · go_wp2
          go_ret
          exact says _ _
        · by_cases hov : (1048576 : Int) < r + tx.size
          · go_wp2
            go_ret
            exact says _ _
          · go_wp2
            go_ret
            exact says _ _

end Go.Proofs.Qxb6615806aMods.Bytes
