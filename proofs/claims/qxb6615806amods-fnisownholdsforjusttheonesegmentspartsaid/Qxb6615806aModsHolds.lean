/-
  THE WALK OF 'FnIsOwnHoldsForJustTheOneSegmentsPart' (3). Own work.
-/
import Derived.Test.Qxb6615806aModsBytes
import Derived.Test.Qxb6615806aModsBuild
import Derived.WalkKit
import Derived.ProofKit
import Derived.Below
namespace Go.Proofs.Qxb6615806aMods.Holds
open Go.RowKit Segs
set_option linter.unusedSimpArgs false
set_option linter.unusedVariables false

/-- The template v holds one segment, of part n ('some n'), or not one segment ('none'). -/
def IsTpl (w : World) (v : Value) : Option Int → Prop
  | none => ∃ a len cap, v = .slice a len cap ∧ len ≠ 1
  | some n => ∃ b off cap, v = .slice (some ⟨b, off, none⟩) 1 cap ∧ w.cell? ⟨b, off, none⟩ = some (.int .i64 n)

def one (len : Nat) (part : Nat → Int) : Option Int := if len = 1 then some (part 0) else none

/-- 'isOwn', in plain words. -/
def ownB (o : Option Int) (p : Int) : Bool :=
  match o with
  | none => false
  | some n => n == p

theorem zzisOwn (v : Value) (o : Option Int) (p : Int) (w : World) (h : IsTpl w v o) :
    Calls Trym.prog 8 #[v, .int .i64 p] w fun e w' => e = .returned (.bool (ownB o p)) ∧ w' = w := by
  cases o with
  | none =>
    obtain ⟨a, len, cap, rfl, hne⟩ := h
    exact zzisOwn_ne a len cap p hne w
  | some n =>
    obtain ⟨b, off, cap, rfl, hc⟩ := h
    exact zzisOwn_one b off cap p n w hc

theorem build (a : Option Addr) (len cap : Nat) (part : Nat → Int) (text : Nat → ByteArray) (hl : len ≤ 4096) (hn : a = none → len = 0 ∧ cap = 0) (w : World) (hr : Row w a len part text) :
    Calls Trym.prog 7 #[.slice a len cap] w fun e w' => ∃ v, e = .returned v ∧ IsTpl w' v (one len part) ∧ Below w.heap.size w w' := by
  cases a with
  | none =>
    obtain ⟨rfl, rfl⟩ := hn rfl
    refine (Build.build_nil 0 w).mono ?_
    rintro e w' ⟨rfl, rfl⟩
    exact ⟨_, rfl, ⟨none, 0, 0, rfl, by omega⟩, Below.refl _ _⟩
  | some x =>
    refine (Build.build_some x len cap part text hl w hr).mono ?_
    rintro e w' ⟨T, rfl, hb, hc⟩
    refine ⟨_, rfl, ?_, hb⟩
    by_cases h1 : len = 1
    · subst h1
      exact ⟨T, 0, 1, rfl, hc rfl⟩
    · rw [one, if_neg h1]
      exact ⟨_, len, len, rfl, h1⟩

/-! ### THE PLAIN LAW: how many of the parts lo, lo+1, .., lo+j-1 are the template's own -/
def cnt (o : Option Int) (lo : Int) (j : Nat) : Int :=
  match o with
  | none => 0
  | some n => if lo ≤ n ∧ n < lo + j then 1 else 0

theorem cnt_zero (o : Option Int) (lo : Int) : cnt o lo 0 = 0 := by
  cases o with
  | none => rfl
  | some n => simp only [cnt]; rw [if_neg (by omega)]

theorem cnt_yes (o : Option Int) (lo : Int) (j : Nat) (h : ownB o (lo + j) = true) : cnt o lo (j + 1) = cnt o lo j + 1 := by
  cases o with
  | none => simp [ownB] at h
  | some n =>
    have h' : n = lo + j := by simpa [ownB] using h
    simp only [cnt]
    rw [if_pos (by omega), if_neg (by omega)]
    rfl

theorem cnt_no (o : Option Int) (lo : Int) (j : Nat) (h : ownB o (lo + j) = false) : cnt o lo (j + 1) = cnt o lo j := by
  cases o with
  | none => rfl
  | some n =>
    have h' : n ≠ lo + j := by simpa [ownB] using h
    simp only [cnt]
    by_cases hc : lo ≤ n ∧ n < lo + j
    · rw [if_pos (by omega), if_pos hc]
    · rw [if_neg (by omega), if_neg hc]

theorem cnt_le (o : Option Int) (lo : Int) (j : Nat) : 0 ≤ cnt o lo j ∧ cnt o lo j ≤ 1 := by
  cases o with
  | none => simp [cnt]
  | some n => simp only [cnt]; split <;> omega

theorem wrap_u64 (n : Int) : IntKind.u64.wrap n = n % 18446744073709551616 := by simp [IntKind.wrap, IntKind.bits, IntKind.signed]

theorem sub_u64 (n lo : Int) (h : lo ≤ n) (h0 : -9223372036854775808 ≤ lo) (h1 : n ≤ 9223372036854775807) : IntKind.u64.wrap (IntKind.u64.wrap n - IntKind.u64.wrap lo) = n - lo := by
  rw [wrap_u64, wrap_u64, wrap_u64]
  omega

theorem over_lt (lo : Int) (j : Nat) (hj : j ≤ 4096) (h1 : lo ≤ 9223372036854775807) (h : 9223372036854775807 < lo + j) : wrap64 (lo + (j : Int)) < lo := by
  unfold wrap64
  omega

set_option maxRecDepth 100000 in
set_option maxHeartbeats 1000000 in
theorem walk (a : Option Addr) (len cap : Nat) (part : Nat → Int) (text : Nat → ByteArray) (lo wd : Int) (hm : len ≤ maxLen) (hn : a = none → len = 0 ∧ cap = 0)
    (lo0 : -9223372036854775808 ≤ lo) (lo1 : lo ≤ 9223372036854775807) (w : World) (hr : Row w a len part text) :
    Calls Trym.prog 3 #[.slice a len cap, .int .i64 lo, .int .i64 wd] w fun e w' => e = .returned (.bool true) ∧ Below w.heap.size w w' := by
  go_enter Trym.func3, Trym.ntmps3
  go_wp2_with fail
  refine (Bytes.bytes5 a len cap part text lo wd hm _ hr).mono ?_
  rintro e w1 ⟨b, rfl, rfl⟩
  cases b with
  | false =>
    go_wp2
    go_ret
    exact ⟨rfl, Below.refl _ _⟩
  | true =>
  go_wp2_with fail
  refine (segsFit a len cap part text 0 (by omega) (by omega) hm _ hr).mono ?_
  rintro e w2 ⟨b, rfl, hle, rfl⟩
  cases b with
  | false =>
    go_wp2
    go_ret
    exact ⟨rfl, Below.refl _ _⟩
  | true =>
  have hle' : len ≤ 4096 := hle rfl
  clear hle
  by_cases hk0 : wd < 0
  · go_wp2
    go_ret
    exact ⟨rfl, Below.refl _ _⟩
  have hk0' : decide (wd < 0) = false := by simp; omega
  by_cases hk1 : 4096 < wd
  · go_wp2
    go_ret
    exact ⟨rfl, Below.refl _ _⟩
  have hk1' : decide (4096 < wd) = false := by simp; omega
  obtain ⟨d, rfl⟩ := Int.eq_ofNat_of_zero_le (by omega : 0 ≤ wd)
  go_wp2_with fail
  refine (build a len cap part text hle' hn _ hr).mono ?_
  rintro e w3 ⟨v, rfl, ht, hb⟩
  go_wp2_with fail
  go_loopw [8, 9] (fun c i wr => ∃ j : Nat, j ≤ d ∧ i = .int .i64 j ∧ wr = w3 ∧ c = .int .i64 (cnt (one len part) lo j)) (fun _ i _ => d - (intOf i).toNat)
  case atStart => exact ⟨0, Nat.zero_le _, rfl, rfl, by rw [cnt_zero]⟩
  case round =>
    obtain ⟨j, hj, rfl, rfl, rfl⟩ := hrel
    have hcl := cnt_le (one len part) lo j
    by_cases hlt : j < d
    · by_cases hov : lo + (j : Int) ≤ 9223372036854775807
      · go_wp2_with fail
        refine (zzisOwn v (one len part) _ _ ht).mono ?_
        rintro e w5 ⟨rfl, rfl⟩
        cases hO : ownB (one len part) (lo + (j : Int)) with
        | true =>
          have hc := cnt_yes (one len part) lo j hO
          have HC : Hid (cnt (one len part) lo (j + 1) = cnt (one len part) lo j + 1) := hc
          clear hc
          go_wp2
          go_roundw
          case rel => exact ⟨j + 1, by omega, by go_num, by trivial, by rw [HC.out]⟩
          case measure => simp [intOf]; omega
        | false =>
          have hc := cnt_no (one len part) lo j hO
          have HC : Hid (cnt (one len part) lo (j + 1) = cnt (one len part) lo j) := hc
          clear hc
          go_wp2
          go_roundw
          case rel => exact ⟨j + 1, by omega, by go_num, by trivial, by rw [HC.out]⟩
          case measure => simp [intOf]; omega
      · have hlt1 := over_lt lo j (by omega) lo1 (by omega)
        by_cases hl1 : len = 1
        · subst hl1
          obtain ⟨b, off, rfl, hcell⟩ : ∃ b off, a = some ⟨b, off, none⟩ ∧ ∀ i, i < 1 → w2.cell? ⟨b, off + i * 2, none⟩ = some (.int .i64 (part i)) ∧ w2.cell? ⟨b, off + i * 2 + 1, none⟩ = some (.string (text i)) ∧
              (text i).size ≤ maxLen ∧ -9223372036854775808 ≤ part i ∧ part i ≤ 9223372036854775807 := by
            rcases hr with h0 | h1
            · omega
            · exact h1
          obtain ⟨c0, _, _, p0, p1⟩ := hcell 0 (by omega)
          have lb := World.block_lt_of_cell? w2 _ c0
          have d0 : wr.cell? ⟨b, off, none⟩ = some (.int .i64 (part 0)) := by rw [hb.cell (p := ⟨b, off, none⟩) lb]; exact c0
          clear hcell hr c0 hn
          by_cases hge : lo ≤ part 0
          · have hsub := sub_u64 (part 0) lo hge lo0 p1
            by_cases hin : part 0 - lo < (d : Int)
            · have hcnt : cnt (one 1 part) lo j = 1 := by
                show (if lo ≤ part 0 ∧ part 0 < lo + (j : Int) then (1 : Int) else 0) = 1
                rw [if_pos (by omega)]
              go_wp2
              go_ret
              exact ⟨rfl, hb⟩
            · exact absurd hov (by omega)
          · have hge' : decide (lo ≤ part 0) = false := by simp; omega
            have hcnt : cnt (one 1 part) lo j = 0 := by
              show (if lo ≤ part 0 ∧ part 0 < lo + (j : Int) then (1 : Int) else 0) = 0
              rw [if_neg (by omega)]
            go_wp2
            go_ret
            exact ⟨rfl, hb⟩
        · have hl1' : ((len : Int) == 1) = false := by rw [beq_eq_false_iff_ne]; omega
          have hcnt : cnt (one len part) lo j = 0 := by rw [one, if_neg hl1]; rfl
          clear hl1
          go_wp2
          go_ret
          exact ⟨rfl, hb⟩
    · obtain rfl : j = d := by omega
      by_cases hl1 : len = 1
      · subst hl1
        obtain ⟨b, off, rfl, hcell⟩ : ∃ b off, a = some ⟨b, off, none⟩ ∧ ∀ i, i < 1 → w2.cell? ⟨b, off + i * 2, none⟩ = some (.int .i64 (part i)) ∧ w2.cell? ⟨b, off + i * 2 + 1, none⟩ = some (.string (text i)) ∧
            (text i).size ≤ maxLen ∧ -9223372036854775808 ≤ part i ∧ part i ≤ 9223372036854775807 := by
          rcases hr with h0 | h1
          · omega
          · exact h1
        obtain ⟨c0, _, _, p0, p1⟩ := hcell 0 (by omega)
        have lb := World.block_lt_of_cell? w2 _ c0
        have d0 : wr.cell? ⟨b, off, none⟩ = some (.int .i64 (part 0)) := by rw [hb.cell (p := ⟨b, off, none⟩) lb]; exact c0
        clear hcell hr c0 hn
        by_cases hge : lo ≤ part 0
        · have hsub := sub_u64 (part 0) lo hge lo0 p1
          by_cases hin : part 0 - lo < (j : Int)
          · have hcnt : cnt (one 1 part) lo j = 1 := by
              show (if lo ≤ part 0 ∧ part 0 < lo + (j : Int) then (1 : Int) else 0) = 1
              rw [if_pos (by omega)]
            go_wp2
            go_ret
            exact ⟨rfl, hb⟩
          · have hcnt : cnt (one 1 part) lo j = 0 := by
              show (if lo ≤ part 0 ∧ part 0 < lo + (j : Int) then (1 : Int) else 0) = 0
              rw [if_neg (by omega)]
            go_wp2
            go_ret
            exact ⟨rfl, hb⟩
        · have hge' : decide (lo ≤ part 0) = false := by simp; omega
          have hcnt : cnt (one 1 part) lo j = 0 := by
            show (if lo ≤ part 0 ∧ part 0 < lo + (j : Int) then (1 : Int) else 0) = 0
            rw [if_neg (by omega)]
          go_wp2
          go_ret
          exact ⟨rfl, hb⟩
      · have hl1' : ((len : Int) == 1) = false := by rw [beq_eq_false_iff_ne]; omega
        have hcnt : cnt (one len part) lo j = 0 := by rw [one, if_neg hl1]; rfl
        clear hl1
        go_wp2
        go_ret
        exact ⟨rfl, hb⟩

end Go.Proofs.Qxb6615806aMods.Holds
