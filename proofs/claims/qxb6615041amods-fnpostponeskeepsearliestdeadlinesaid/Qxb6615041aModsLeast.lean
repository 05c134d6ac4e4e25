/-
  THE WALK OF 'FnPostponesKeepsEarliestDeadline' (3). Own work.
-/
import Derived.Test.Qxb6615041aModsPost
import Derived.WalkKit
import Derived.ProofKit
import Derived.Below
import Derived.BigQuiet
import Derived.Deep.QuietTactic
namespace Go.Proofs.Qxb6615041aMods.Least
open Go.RowKit Post
set_option linter.unusedSimpArgs false
set_option linter.unusedVariables false

theorem bytes_over (a : Option Addr) (len cap : Nat) (w : World) (hl : len ≤ maxLen) (h : 1048576 < len) :
    Calls Trym.prog 5 #[.slice a len cap] w fun e w' => e = .returned (.bool false) ∧ w' = w := by
  unfold maxLen at hl
  have h' : (1048576 : Int) < len := by omega
  go_enter Trym.func5, Trym.ntmps5
  go_wp2
  go_ret
  exact ⟨rfl, rfl⟩

theorem bytes_fits (a : Option Addr) (len cap : Nat) (w : World) (h : len ≤ 1048576) :
    Calls Trym.prog 5 #[.slice a len cap] w fun e w' => e = .returned (.bool true) ∧ w' = w := by
  have h' : ¬ (1048576 : Int) < len := by omega
  go_enter Trym.func5, Trym.ntmps5
  go_wp2
  go_ret
  exact ⟨rfl, rfl⟩

/-- A slice of pointers that can be read: each of its cells holds a pointer that reads. -/
def Row (w : World) (a : Option Addr) (len : Nat) : Prop :=
  len = 0 ∨ ∃ b off, a = some ⟨b, off, none⟩ ∧ ∀ i, i < len → ∃ v x, w.cell? ⟨b, off + i, none⟩ = some v ∧ Reads w v x

/-- What stands in 'least' and 'seen' where 'kept' reads as x. -/
def leastOf : Option Int → Int | none => 0 | some n => n

theorem walk_loop (a : Option Addr) (len cap : Nat) (w : World) (hr : Row w a len) (h : len ≤ 65536) :
    Calls Trym.prog 3 #[.slice a len cap] w fun e w' => e = .returned (.bool true) ∧ Below w.heap.size w w' := by
  have h' : ¬ (65536 : Int) < len := by omega
  go_enter Trym.func3, Trym.ntmps3
  go_wp2_with fail
  refine (bytes_fits a len cap _ (by omega)).mono ?_
  rintro e w1 ⟨rfl, rfl⟩
  go_wp2_with fail
  go_loopw [3, 4, 5, 6] (fun kept least seen i wr => ∃ k : Nat, k ≤ len ∧ i = .int .i64 k ∧ Below w1.heap.size w1 wr ∧ ∃ x : Option Int, Reads wr kept x ∧ least = .int .i64 (leastOf x) ∧ seen = .bool x.isSome) (fun _ _ _ i _ => len - (intOf i).toNat)
  case atStart => exact ⟨0, Nat.zero_le _, rfl, Below.refl _ _, none, rfl, rfl, rfl⟩
  case round =>
    obtain ⟨k, hk, rfl, hb, x, hx, rfl, rfl⟩ := hrel
    by_cases hlt : k < len
    · obtain ⟨b, off, rfl, hcell⟩ : ∃ b off, a = some ⟨b, off, none⟩ ∧ ∀ i, i < len → ∃ v x, w1.cell? ⟨b, off + i, none⟩ = some v ∧ Reads w1 v x := by
        rcases hr with h0 | h1
        · omega
        · exact h1
      obtain ⟨v, y, hv, hy⟩ := hcell k hlt
      have hv' := keep hb hv
      have hy' := hy.keep hb
      clear hcell hr
      go_wp2_with fail
      refine (zzpostpones _ _ y x _ hy' hx).mono ?_
      rintro e w2 ⟨rfl, g2⟩
      have f2 := hb.trans (g2.mono hb.size)
      have hx2 := hx.keep g2
      have hy2 := hy'.keep g2
      cases x with
      | none =>
        obtain rfl : u3 = .pointer none := hx
        have e0 : leastOf none = 0 := rfl
        cases y with
        | none =>
          obtain rfl : v = .pointer none := hy
          have e1 : post none none = false := rfl
          go_wp2
          go_roundw
          case rel => exact ⟨k + 1, by omega, by go_num, f2, none, rfl, rfl, rfl⟩
          case measure => simp [intOf]; omega
        | some m =>
          obtain ⟨b2, o2, rfl, c2, l2, r2⟩ := hy2
          have e1 : post (some m) none = false := rfl
          go_wp2
          go_roundw
          case rel => exact ⟨k + 1, by omega, by go_num, f2, some m, ⟨b2, o2, rfl, c2, l2, r2⟩, rfl, rfl⟩
          case measure => simp [intOf]; omega
      | some n =>
        obtain ⟨b1, o1, rfl, c1, l1, r1⟩ := hx2
        have e0 : leastOf (some n) = n := rfl
        cases y with
        | none =>
          obtain rfl : v = .pointer none := hy
          have e1 : post none (some n) = true := rfl
          go_wp2
          go_roundw
          case rel => exact ⟨k + 1, by omega, by go_num, f2, some n, ⟨b1, o1, rfl, c1, l1, r1⟩, rfl, rfl⟩
          case measure => simp [intOf]; omega
        | some m =>
          obtain ⟨b2, o2, rfl, c2, l2, r2⟩ := hy2
          by_cases hgt : n < m
          · have e1 : post (some m) (some n) = true := by simpa [post] using hgt
            have e2 : decide (m < n) = false := by simp; omega
            go_wp2
            go_roundw
            case rel => exact ⟨k + 1, by omega, by go_num, f2, some n, ⟨b1, o1, rfl, c1, l1, r1⟩, rfl, rfl⟩
            case measure => simp [intOf]; omega
          · have e1 : post (some m) (some n) = false := by simpa [post] using hgt
            by_cases hml : m < n
            · go_wp2
              go_roundw
              case rel => exact ⟨k + 1, by omega, by go_num, f2, some m, ⟨b2, o2, rfl, c2, l2, r2⟩, rfl, rfl⟩
              case measure => simp [intOf]; omega
            · obtain rfl : m = n := by omega
              go_wp2
              go_roundw
              case rel => exact ⟨k + 1, by omega, by go_num, f2, some m, ⟨b2, o2, rfl, c2, l2, r2⟩, rfl, rfl⟩
              case measure => simp [intOf]; omega
    · go_wp2
      go_ret
      exact ⟨rfl, hb⟩

theorem walk_over (a : Option Addr) (len cap : Nat) (w : World) (hl : len ≤ maxLen) (h : 1048576 < len) :
    Calls Trym.prog 3 #[.slice a len cap] w fun e w' => e = .returned (.bool true) ∧ Below w.heap.size w w' := by
  go_enter Trym.func3, Trym.ntmps3
  go_wp2_with fail
  refine (bytes_over a len cap _ hl h).mono ?_
  rintro e w1 ⟨rfl, rfl⟩
  go_wp2_with fail
  go_ret
  exact ⟨rfl, Below.refl _ _⟩

theorem walk_long (a : Option Addr) (len cap : Nat) (w : World) (h0 : 65536 < len) (h : len ≤ 1048576) :
    Calls Trym.prog 3 #[.slice a len cap] w fun e w' => e = .returned (.bool true) ∧ Below w.heap.size w w' := by
  have h' : (65536 : Int) < len := by omega
  go_enter Trym.func3, Trym.ntmps3
  go_wp2_with fail
  refine (bytes_fits a len cap _ h).mono ?_
  rintro e w1 ⟨rfl, rfl⟩
  go_wp2_with fail
  go_ret
  exact ⟨rfl, Below.refl _ _⟩

theorem walk (a : Option Addr) (len cap : Nat) (w : World) (hl : len ≤ maxLen) (hr : Row w a len) :
    Calls Trym.prog 3 #[.slice a len cap] w fun e w' => e = .returned (.bool true) ∧ Below w.heap.size w w' := by
  by_cases h1 : 1048576 < len
  · exact walk_over a len cap w hl h1
  · by_cases h2 : 65536 < len
    · exact walk_long a len cap w h2 (by omega)
    · exact walk_loop a len cap w hr (by omega)

end Go.Proofs.Qxb6615041aMods.Least
