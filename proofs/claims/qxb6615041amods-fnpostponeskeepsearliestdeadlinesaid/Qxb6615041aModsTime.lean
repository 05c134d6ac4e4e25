/-
  THE CONTRACTS OF package time's FUNCTIONS ON THE ROAD, at times that bear no monotonic mark. Own work.
-/
import Derived.Test.Qxb6615041aModsRows
import Derived.Test.Qxb6615041aModsBits
import Derived.WalkKit
import Derived.ProofKit
import Derived.Below
namespace Go.Proofs.Qxb6615041aMods.Time
open Go.RowKit
set_option linter.unusedSimpArgs false
set_option linter.unusedVariables false

theorem nsec_any (b o : Nat) (n : Int) (h0 : 0 ≤ n) (h1 : n < 1000000000) (w : World) (hc : w.cell? ⟨b, o, none⟩ = some (.int .u64 n)) :
    Calls Trym.prog 13 #[.pointer (some ⟨b, o, none⟩)] w fun e w' => e = .returned (.int .i32 n) ∧ w' = w := by
  have hn := Bits.and_nsec n h0 h1
  go_enter Trym.func13, Trym.ntmps13
  go_wp2
  go_ret
  exact ⟨rfl, rfl⟩

theorem sec_any (b o : Nat) (n s : Int) (h0 : 0 ≤ n) (h1 : n < 1000000000) (w : World) (hc : w.cell? ⟨b, o, none⟩ = some (.int .u64 n)) (hs : w.cell? ⟨b, o + 1, none⟩ = some (.int .i64 s)) :
    Calls Trym.prog 12 #[.pointer (some ⟨b, o, none⟩)] w fun e w' => e = .returned (.int .i64 s) ∧ w' = w := by
  have hn := Bits.and_mono n h0 h1
  go_enter Trym.func12, Trym.ntmps12
  go_wp2
  go_ret
  exact ⟨rfl, rfl⟩

theorem addSec_zero (b o : Nat) (n d : Int) (h0 : 0 ≤ n) (h1 : n < 1000000000) (d0 : -9223372037 ≤ d) (d1 : d ≤ 9223372037) (w : World) (hc : w.cell? ⟨b, o, none⟩ = some (.int .u64 n)) (hs : w.cell? ⟨b, o + 1, none⟩ = some (.int .i64 0)) (hf : w.frozen? ⟨b, o + 1, none⟩ = false) :
    Calls Trym.prog 14 #[.pointer (some ⟨b, o, none⟩), .int .i64 d] w fun e w' => e = .returned (.tuple #[]) ∧ w' = w.setCell ⟨b, o + 1, none⟩ (.int .i64 d) := by
  have hn := Bits.and_mono n h0 h1
  go_enter Trym.func14, Trym.ntmps14
  go_wp2
  go_end0
  exact ⟨rfl, rfl⟩


theorem after_gt (n s m u : Int) (h0 : 0 ≤ n) (h1 : n < 1000000000) (g0 : 0 ≤ m) (g1 : m < 1000000000) (hgt : u < s) (w : World) :
    Calls Trym.prog 9 #[.agg #[.int .u64 n, .int .i64 s, .pointer none], .agg #[.int .u64 m, .int .i64 u, .pointer none]] w fun e w' => e = .returned (.bool true) ∧ Below w.heap.size w w' := by
  have hn := Bits.and_mono2 n m h0 h1 g0 g1
  go_enter Trym.func9, Trym.ntmps9
  go_wp2_with fail
  refine (sec_any _ _ n s h0 h1 _ (by simp [go_sem, World.cell?_alloc_past]) (by simp [go_sem, World.cell?_alloc_past])).mono ?_
  rintro e w' ⟨rfl, rfl⟩
  go_wp2_with fail
  refine (sec_any _ _ m u g0 g1 _ (by simp [go_sem, World.cell?_alloc_past]) (by simp [go_sem, World.cell?_alloc_past])).mono ?_
  rintro e w' ⟨rfl, rfl⟩
  go_wp2_with fail
  go_ret
  exact ⟨rfl, ((Below.refl _ _).alloc (Nat.le_refl _) _).alloc (by simp) _⟩

theorem after_lt (n s m u : Int) (h0 : 0 ≤ n) (h1 : n < 1000000000) (g0 : 0 ≤ m) (g1 : m < 1000000000) (hlt : s < u) (w : World) :
    Calls Trym.prog 9 #[.agg #[.int .u64 n, .int .i64 s, .pointer none], .agg #[.int .u64 m, .int .i64 u, .pointer none]] w fun e w' => e = .returned (.bool false) ∧ Below w.heap.size w w' := by
  have hn := Bits.and_mono2 n m h0 h1 g0 g1
  have hle : decide (u < s) = false := by simp; omega
  have hne : (s == u) = false := by rw [beq_eq_false_iff_ne]; omega
  go_enter Trym.func9, Trym.ntmps9
  go_wp2_with fail
  refine (sec_any _ _ n s h0 h1 _ (by simp [go_sem, World.cell?_alloc_past]) (by simp [go_sem, World.cell?_alloc_past])).mono ?_
  rintro e w' ⟨rfl, rfl⟩
  go_wp2_with fail
  refine (sec_any _ _ m u g0 g1 _ (by simp [go_sem, World.cell?_alloc_past]) (by simp [go_sem, World.cell?_alloc_past])).mono ?_
  rintro e w' ⟨rfl, rfl⟩
  go_wp2_with fail
  go_ret
  exact ⟨rfl, ((Below.refl _ _).alloc (Nat.le_refl _) _).alloc (by simp) _⟩

theorem after_eq (n m s : Int) (h0 : 0 ≤ n) (h1 : n < 1000000000) (g0 : 0 ≤ m) (g1 : m < 1000000000) (w : World) :
    Calls Trym.prog 9 #[.agg #[.int .u64 n, .int .i64 s, .pointer none], .agg #[.int .u64 m, .int .i64 s, .pointer none]] w fun e w' => e = .returned (.bool (decide (m < n))) ∧ Below w.heap.size w w' := by
  have hn := Bits.and_mono2 n m h0 h1 g0 g1
  go_enter Trym.func9, Trym.ntmps9
  go_wp2_with fail
  refine (sec_any _ _ n s h0 h1 _ (by simp [go_sem, World.cell?_alloc_past]) (by simp [go_sem, World.cell?_alloc_past])).mono ?_
  rintro e w' ⟨rfl, rfl⟩
  go_wp2_with fail
  refine (sec_any _ _ m s g0 g1 _ (by simp [go_sem, World.cell?_alloc_past]) (by simp [go_sem, World.cell?_alloc_past])).mono ?_
  rintro e w' ⟨rfl, rfl⟩
  go_wp2_with fail
  refine (nsec_any _ _ n h0 h1 _ (by simp [go_sem, World.cell?_alloc_past])).mono ?_
  rintro e w' ⟨rfl, rfl⟩
  go_wp2_with fail
  refine (nsec_any _ _ m g0 g1 _ (by simp [go_sem, World.cell?_alloc_past])).mono ?_
  rintro e w' ⟨rfl, rfl⟩
  go_wp2_with fail
  go_ret
  exact ⟨rfl, ((Below.refl _ _).alloc (Nat.le_refl _) _).alloc (by simp) _⟩

theorem add_pos (ns q r : Int) (w : World) (h0 : -9223372036854775808 ≤ ns) (h1 : ns ≤ 9223372036854775807) (hq : ns.tdiv 1000000000 = q) (hr : ns.tmod 1000000000 = r)
    (q0 : -9223372037 ≤ q) (q1 : q ≤ 9223372037) (r0 : 0 ≤ r) (r1 : r < 1000000000) :
    Calls Trym.prog 10 #[.agg #[.int .u64 0, .int .i64 0, .pointer none], .int .i64 ns] w fun e w' => e = .returned (.agg #[.int .u64 r, .int .i64 q, .pointer none]) ∧ Below w.heap.size w w' := by
  have hz : bits .andNot .u64 0 1073741823 = 0 := by decide
  have ho := Bits.or_zero r r0 r1
  have hn := Bits.and_mono r r0 r1
  go_enter Trym.func10, Trym.ntmps10
  go_wp2_with fail
  refine (nsec_any _ _ 0 (by omega) (by omega) _ (by simp [go_sem, World.cell?_alloc_past])).mono ?_
  rintro e w' ⟨rfl, rfl⟩
  go_wp2_with fail
  refine (addSec_zero _ _ r q r0 r1 q0 q1 _ (by simp [go_sem, World.cell?_alloc_past]) (by simp [go_sem, World.cell?_alloc_past]) (by simp [go_sem, World.cell?_alloc_past])).mono ?_
  rintro e w' ⟨rfl, rfl⟩
  go_wp2_with fail
  refine bodyPost_ret (v := .agg #[.int .u64 r, .int .i64 q, .pointer none]) (by simp [results, Trym.results10, go_sem]) rfl ⟨rfl, ?_⟩
  exact ((Below.refl _ _).alloc (Nat.le_refl _) _).alloc (by simp) _

theorem add_neg (ns q r : Int) (w : World) (h0 : -9223372036854775808 ≤ ns) (h1 : ns ≤ 9223372036854775807) (hq : ns.tdiv 1000000000 = q) (hr : ns.tmod 1000000000 = r)
    (q0 : -9223372036 ≤ q) (q1 : q ≤ 9223372037) (r0 : r < 0) (r1 : -1000000000 < r) :
    Calls Trym.prog 10 #[.agg #[.int .u64 0, .int .i64 0, .pointer none], .int .i64 ns] w fun e w' => e = .returned (.agg #[.int .u64 (r + 1000000000), .int .i64 (q - 1), .pointer none]) ∧ Below w.heap.size w w' := by
  have hz : bits .andNot .u64 0 1073741823 = 0 := by decide
  have ho := Bits.or_zero (r + 1000000000) (by omega) (by omega)
  have hn := Bits.and_mono (r + 1000000000) (by omega) (by omega)
  go_enter Trym.func10, Trym.ntmps10
  go_wp2_with fail
  refine (nsec_any _ _ 0 (by omega) (by omega) _ (by simp [go_sem, World.cell?_alloc_past])).mono ?_
  rintro e w' ⟨rfl, rfl⟩
  go_wp2_with fail
  refine (addSec_zero _ _ (r + 1000000000) (q - 1) (by omega) (by omega) (by omega) (by omega) _ (by simp [go_sem, World.cell?_alloc_past]) (by simp [go_sem, World.cell?_alloc_past]) (by simp [go_sem, World.cell?_alloc_past])).mono ?_
  rintro e w' ⟨rfl, rfl⟩
  go_wp2_with fail
  refine bodyPost_ret (v := .agg #[.int .u64 (r + 1000000000), .int .i64 (q - 1), .pointer none]) (by simp [results, Trym.results10, go_sem]) rfl ⟨rfl, ?_⟩
  exact ((Below.refl _ _).alloc (Nat.le_refl _) _).alloc (by simp) _

/-- 'time.Time{}.Add(ns)': the seconds and the nanoseconds of ns, rounded down. -/
theorem add_any (ns : Int) (w : World) (h0 : -9223372036854775808 ≤ ns) (h1 : ns ≤ 9223372036854775807) :
    Calls Trym.prog 10 #[.agg #[.int .u64 0, .int .i64 0, .pointer none], .int .i64 ns] w fun e w' => e = .returned (.agg #[.int .u64 (ns % 1000000000), .int .i64 (ns / 1000000000), .pointer none]) ∧ Below w.heap.size w w' := by
  have e := Int.tmod_add_mul_tdiv ns 1000000000
  have l0 : ns.tmod 1000000000 < 1000000000 := Int.tmod_lt_of_pos ns (by omega)
  have l1 : -1000000000 < ns.tmod 1000000000 := Int.lt_tmod_of_pos ns (by omega)
  generalize hq : ns.tdiv 1000000000 = q at e
  generalize hr : ns.tmod 1000000000 = r at e l0 l1
  by_cases hs : 0 ≤ r
  · rw [show ns % 1000000000 = r from by omega, show ns / 1000000000 = q from by omega]
    exact add_pos ns q r w h0 h1 hq hr (by omega) (by omega) hs l0
  · have hneg : ns < 0 := by
      by_cases h : 0 ≤ ns
      · have := Int.tmod_nonneg 1000000000 h
        omega
      · omega
    have hq2 : -9223372036 ≤ q := by omega
    rw [show ns % 1000000000 = r + 1000000000 from by omega, show ns / 1000000000 = q - 1 from by omega]
    exact add_neg ns q r w h0 h1 hq hr hq2 (by omega) (by omega) l1

/-- 'After' of two such times: the order of the two numbers of nanoseconds. -/
theorem after_any (a b : Int) (w : World) :
    Calls Trym.prog 9 #[.agg #[.int .u64 (a % 1000000000), .int .i64 (a / 1000000000), .pointer none], .agg #[.int .u64 (b % 1000000000), .int .i64 (b / 1000000000), .pointer none]] w fun e w' => e = .returned (.bool (decide (b < a))) ∧ Below w.heap.size w w' := by
  by_cases h : b / 1000000000 < a / 1000000000
  · rw [show decide (b < a) = true from by simp; omega]
    exact after_gt _ _ _ _ (by omega) (by omega) (by omega) (by omega) h w
  · by_cases h' : a / 1000000000 < b / 1000000000
    · rw [show decide (b < a) = false from by simp; omega]
      exact after_lt _ _ _ _ (by omega) (by omega) (by omega) (by omega) h' w
    · rw [show a / 1000000000 = b / 1000000000 from by omega, show decide (b < a) = decide (b % 1000000000 < a % 1000000000) from by congr 1; apply propext; omega]
      exact after_eq _ _ _ (by omega) (by omega) (by omega) (by omega) w

end Go.Proofs.Qxb6615041aMods.Time
