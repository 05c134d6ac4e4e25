/-
  THE CONTRACTS OF 'addBytes' (12), 'segsBytes' (10), 'segsFit' (6), 'isOwn' (11), 'ZZisOwn' (8). Own work.
-/
import Derived.Test.Qxb6615806aModsRows
import Derived.WalkKit
import Derived.ProofKit
import Derived.Below
namespace Go.Proofs.Qxb6615806aMods.Segs
open Go.RowKit
set_option linter.unusedSimpArgs false
set_option linter.unusedVariables false

/-- A slice of segments that can be read: nil, or each element two cells: a number and a string. -/
def Row (w : World) (a : Option Addr) (len : Nat) (part : Nat → Int) (text : Nat → ByteArray) : Prop :=
  len = 0 ∨ ∃ b off, a = some ⟨b, off, none⟩ ∧ ∀ i, i < len → w.cell? ⟨b, off + i * 2, none⟩ = some (.int .i64 (part i)) ∧ w.cell? ⟨b, off + i * 2 + 1, none⟩ = some (.string (text i)) ∧
    (text i).size ≤ maxLen ∧ -9223372036854775808 ≤ part i ∧ part i ≤ 9223372036854775807

theorem addBytes_over (t n : Int) (h : 1048576 < n) (w : World) :
    Calls Trym.prog 12 #[.int .i64 t, .int .i64 n] w fun e w' => e = .returned (.int .i64 1048577) ∧ w' = w := by
  go_enter Trym.func12, Trym.ntmps12
  go_wp2
  go_ret
  exact ⟨rfl, rfl⟩

theorem addBytes_fits (t n : Int) (t0 : 0 ≤ t) (t1 : t ≤ 2000000) (n0 : 0 ≤ n) (h : n ≤ 1048576) (w : World) :
    Calls Trym.prog 12 #[.int .i64 t, .int .i64 n] w fun e w' => e = .returned (.int .i64 (t + n)) ∧ w' = w := by
  have h' : ¬ 1048576 < n := by omega
  go_enter Trym.func12, Trym.ntmps12
  go_wp2
  go_ret
  exact ⟨rfl, rfl⟩

/-- However it comes out: a number that is not negative and not large. -/
theorem addBytes_any (t n : Int) (t0 : 0 ≤ t) (t1 : t ≤ 2000000) (n0 : 0 ≤ n) (w : World) :
    Calls Trym.prog 12 #[.int .i64 t, .int .i64 n] w fun e w' => ∃ r : Int, 0 ≤ r ∧ r ≤ 4000000 ∧ e = .returned (.int .i64 r) ∧ w' = w := by
  by_cases h : 1048576 < n
  · exact (addBytes_over t n h w).mono fun e w' hh => ⟨1048577, by omega, by omega, hh.1, hh.2⟩
  · exact (addBytes_fits t n t0 t1 n0 (by omega) w).mono fun e w' hh => ⟨t + n, by omega, by omega, hh.1, hh.2⟩

theorem segsBytes_any (a : Option Addr) (len cap : Nat) (part : Nat → Int) (text : Nat → ByteArray) (t : Int) (t0 : 0 ≤ t) (t1 : t ≤ 1048576) (hl : len ≤ 4096) (w : World) (hr : Row w a len part text) :
    Calls Trym.prog 10 #[.slice a len cap, .int .i64 t] w fun e w' => ∃ r : Int, e = .returned (.int .i64 r) ∧ w' = w := by
  go_enter Trym.func10, Trym.ntmps10
  go_wp2
  go_loopw [1, 8] (fun tot i wr => ∃ j : Nat, j ≤ len ∧ i = .int .i64 j ∧ wr = w ∧ ∃ r : Int, 0 ≤ r ∧ r ≤ 1048576 ∧ tot = .int .i64 r) (fun _ i _ => len - (intOf i).toNat)
  case atStart => exact ⟨0, Nat.zero_le _, rfl, rfl, t, t0, t1, rfl⟩
  case round =>
    obtain ⟨j, hj, rfl, rfl, r, r0, r1, rfl⟩ := hrel
    by_cases hlt : j < len
    · obtain ⟨b, off, rfl, hcell⟩ : ∃ b off, a = some ⟨b, off, none⟩ ∧ ∀ i, i < len → wr.cell? ⟨b, off + i * 2, none⟩ = some (.int .i64 (part i)) ∧ wr.cell? ⟨b, off + i * 2 + 1, none⟩ = some (.string (text i)) ∧
          (text i).size ≤ maxLen ∧ -9223372036854775808 ≤ part i ∧ part i ≤ 9223372036854775807 := by
        rcases hr with h0 | h1
        · omega
        · exact h1
      obtain ⟨c0, c1, hs, p0, p1⟩ := hcell j hlt
      clear hcell hr
      go_wp2_with fail
      refine (addBytes_fits r 40 r0 (by omega) (by omega) (by omega) _).mono ?_
      rintro e w1 ⟨rfl, rfl⟩
      go_wp2_with fail
      refine (addBytes_any (r + 40) _ (by omega) (by omega) (by omega) _).mono ?_
      rintro e w2 ⟨r', r0', r1', rfl, rfl⟩
      by_cases hov : 1048576 < r'
      · go_wp2
        go_ret
        exact ⟨r', rfl, rfl⟩
      · go_wp2
        go_roundw
        case rel => exact ⟨j + 1, by omega, by go_num, by trivial, r', r0', by omega, rfl⟩
        case measure => simp [intOf]; omega
    · go_wp2
      go_ret
      exact ⟨r, rfl, rfl⟩

theorem segsFit_over (a : Option Addr) (len cap : Nat) (t : Int) (hm : len ≤ maxLen) (hl : 4096 < len) (w : World) :
    Calls Trym.prog 6 #[.slice a len cap, .int .i64 t] w fun e w' => e = .returned (.bool false) ∧ w' = w := by
  unfold maxLen at hm
  have h' : (4096 : Int) < len := by omega
  go_enter Trym.func6, Trym.ntmps6
  go_wp2
  go_ret
  exact ⟨rfl, rfl⟩

theorem segsFit_any (a : Option Addr) (len cap : Nat) (part : Nat → Int) (text : Nat → ByteArray) (t : Int) (t0 : 0 ≤ t) (t1 : t ≤ 1048576) (hl : len ≤ 4096) (w : World) (hr : Row w a len part text) :
    Calls Trym.prog 6 #[.slice a len cap, .int .i64 t] w fun e w' => ∃ b : Bool, e = .returned (.bool b) ∧ w' = w := by
  have h' : ¬ (4096 : Int) < len := by omega
  go_enter Trym.func6, Trym.ntmps6
  go_wp2_with fail
  refine (segsBytes_any a len cap part text t t0 t1 hl _ hr).mono ?_
  rintro e w1 ⟨r, rfl, rfl⟩
  go_wp2
  go_ret
  exact ⟨_, rfl, rfl⟩

/-- 'segsFit': whatever it answers, at yes there are no more than 4,096 segments. -/
theorem segsFit (a : Option Addr) (len cap : Nat) (part : Nat → Int) (text : Nat → ByteArray) (t : Int) (t0 : 0 ≤ t) (t1 : t ≤ 1048576) (hm : len ≤ maxLen) (w : World) (hr : Row w a len part text) :
    Calls Trym.prog 6 #[.slice a len cap, .int .i64 t] w fun e w' => ∃ b : Bool, e = .returned (.bool b) ∧ (b = true → len ≤ 4096) ∧ w' = w := by
  by_cases hl : len ≤ 4096
  · exact (segsFit_any a len cap part text t t0 t1 hl w hr).mono fun e w' ⟨b, h1, h2⟩ => ⟨b, h1, fun _ => hl, h2⟩
  · exact (segsFit_over a len cap t hm (by omega) w).mono fun e w' ⟨h1, h2⟩ => ⟨false, h1, (fun h => by cases h), h2⟩

/-! ### 'isOwn' -/
theorem isOwn_ne (a : Option Addr) (len cap : Nat) (own : Int) (h : len ≠ 1) (w : World) :
    Calls Trym.prog 11 #[.slice a len cap, .int .i64 own] w fun e w' => e = .returned (.bool false) ∧ w' = w := by
  have h' : ((len : Int) == 1) = false := by rw [beq_eq_false_iff_ne]; omega
  go_enter Trym.func11, Trym.ntmps11
  go_wp2
  go_ret
  exact ⟨rfl, rfl⟩

theorem isOwn_one (b off cap : Nat) (own n : Int) (w : World) (hc : w.cell? ⟨b, off, none⟩ = some (.int .i64 n)) :
    Calls Trym.prog 11 #[.slice (some ⟨b, off, none⟩) 1 cap, .int .i64 own] w fun e w' => e = .returned (.bool (n == own)) ∧ w' = w := by
  go_enter Trym.func11, Trym.ntmps11
  go_wp2
  go_ret
  exact ⟨rfl, rfl⟩

theorem zzisOwn_ne (a : Option Addr) (len cap : Nat) (own : Int) (h : len ≠ 1) (w : World) :
    Calls Trym.prog 8 #[.slice a len cap, .int .i64 own] w fun e w' => e = .returned (.bool false) ∧ w' = w := by
  go_enter Trym.func8, Trym.ntmps8
  go_wp2_with fail
  refine (isOwn_ne a len cap own h _).mono ?_
  rintro e w1 ⟨rfl, rfl⟩
  go_wp2_with fail
  go_ret
  exact ⟨rfl, rfl⟩

theorem zzisOwn_one (b off cap : Nat) (own n : Int) (w : World) (hc : w.cell? ⟨b, off, none⟩ = some (.int .i64 n)) :
    Calls Trym.prog 8 #[.slice (some ⟨b, off, none⟩) 1 cap, .int .i64 own] w fun e w' => e = .returned (.bool (n == own)) ∧ w' = w := by
  go_enter Trym.func8, Trym.ntmps8
  go_wp2_with fail
  refine (isOwn_one b off cap own n _ hc).mono ?_
  rintro e w1 ⟨rfl, rfl⟩
  go_wp2_with fail
  go_ret
  exact ⟨rfl, rfl⟩

end Go.Proofs.Qxb6615806aMods.Segs
