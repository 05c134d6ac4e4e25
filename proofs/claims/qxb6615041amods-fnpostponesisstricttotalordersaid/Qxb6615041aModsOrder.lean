/-
  THE WALK OF 'FnPostponesIsStrictTotalOrder' (4). Own work.
-/
import Derived.Test.Qxb6615041aModsPost
import Derived.WalkKit
import Derived.ProofKit
import Derived.Below
import Derived.BigQuiet
import Derived.Deep.QuietTactic
namespace Go.Proofs.Qxb6615041aMods.Order
open Go.RowKit Post
set_option linter.unusedSimpArgs false
set_option linter.unusedVariables false

/-! ### THE PLAIN LAW: no Go in sight -/
theorem post_trans (x y z : Option Int) (h1 : post x y = true) (h2 : post y z = true) : post x z = true := by
  cases z with
  | none => simp [post] at h2
  | some c =>
    cases y with
    | none => simp [post] at h1
    | some b =>
      cases x with
      | none => rfl
      | some a =>
        simp only [post, decide_eq_true_eq] at h1 h2 ⊢
        omega

theorem post_lt {n m : Int} (h : m < n) : post (some n) (some m) = true := by simpa [post] using h
theorem post_ge {n m : Int} (h : n ≤ m) : post (some n) (some m) = false := by simpa [post] using h

theorem nil_nil (v : Value) (z : Option Int) (w : World) (hz : Reads w v z) :
    Calls Trym.prog 4 #[.pointer none, .pointer none, v] w fun e w' => e = .returned (.bool true) ∧ Below w.heap.size w w' := by
  have hx : Reads w (.pointer none) none := rfl
  have hy : Reads w (.pointer none) none := rfl
  have e1 : post none none = false := rfl
  go_enter Trym.func4, Trym.ntmps4
  go_wp2_with fail
  refine (zzpostpones _ _ none none _ hx hy).mono ?_
  rintro e w1 ⟨rfl, g1⟩
  go_wp2_with fail
  refine (zzpostpones _ _ none none _ (hy.keep g1) (hx.keep g1)).mono ?_
  rintro e w2 ⟨rfl, g2⟩
  have f2 := g1.trans (g2.mono g1.size)
  go_wp2_with fail
  refine (zzpostpones _ _ none z _ (hy.keep f2) (hz.keep f2)).mono ?_
  rintro e w3 ⟨rfl, g3⟩
  have f3 := f2.trans (g3.mono f2.size)
  go_wp2_with fail
  refine (zzpostpones _ _ none z _ (hx.keep f3) (hz.keep f3)).mono ?_
  rintro e w4 ⟨rfl, g4⟩
  have f4 := f3.trans (g4.mono f3.size)
  go_wp2_with fail
  go_quiet (fail)
  go_wp2
  go_ret
  exact ⟨rfl, f4.trans ((below_drewN _ _).mono f4.size)⟩

theorem nil_some_t (b2 o2 : Nat) (m : Int) (v : Value) (z : Option Int) (w : World) (hz : Reads w v z) (c2 : w.cell? ⟨b2, o2, none⟩ = some (.int .i64 m)) (l2 : -9223372036854775808 ≤ m) (u2 : m ≤ 9223372036854775807) (hbc : post (some m) z = true) (hac : post none z = true) :
    Calls Trym.prog 4 #[.pointer none, .pointer (some ⟨b2, o2, none⟩), v] w fun e w' => e = .returned (.bool true) ∧ Below w.heap.size w w' := by
  have hx : Reads w (.pointer none) none := rfl
  have hy : Reads w (.pointer (some ⟨b2, o2, none⟩)) (some m) := ⟨b2, o2, rfl, c2, l2, u2⟩
  have e1 : post none (some m) = true := rfl
  have e2 : post (some m) none = false := rfl
  go_enter Trym.func4, Trym.ntmps4
  go_wp2_with fail
  refine (zzpostpones _ _ none (some m) _ hx hy).mono ?_
  rintro e w1 ⟨rfl, g1⟩
  go_wp2_with fail
  refine (zzpostpones _ _ (some m) none _ (hy.keep g1) (hx.keep g1)).mono ?_
  rintro e w2 ⟨rfl, g2⟩
  have f2 := g1.trans (g2.mono g1.size)
  go_wp2_with fail
  refine (zzpostpones _ _ (some m) z _ (hy.keep f2) (hz.keep f2)).mono ?_
  rintro e w3 ⟨rfl, g3⟩
  have f3 := f2.trans (g3.mono f2.size)
  go_wp2_with fail
  refine (zzpostpones _ _ none z _ (hx.keep f3) (hz.keep f3)).mono ?_
  rintro e w4 ⟨rfl, g4⟩
  have f4 := f3.trans (g4.mono f3.size)
  have d2 := keep f4 c2
  go_wp2_with fail
  go_quiet (fail)
  go_wp2
  go_ret
  exact ⟨rfl, f4.trans ((below_drewN _ _).mono f4.size)⟩

theorem nil_some_f (b2 o2 : Nat) (m : Int) (v : Value) (z : Option Int) (w : World) (hz : Reads w v z) (c2 : w.cell? ⟨b2, o2, none⟩ = some (.int .i64 m)) (l2 : -9223372036854775808 ≤ m) (u2 : m ≤ 9223372036854775807) (hbc : post (some m) z = false) :
    Calls Trym.prog 4 #[.pointer none, .pointer (some ⟨b2, o2, none⟩), v] w fun e w' => e = .returned (.bool true) ∧ Below w.heap.size w w' := by
  have hx : Reads w (.pointer none) none := rfl
  have hy : Reads w (.pointer (some ⟨b2, o2, none⟩)) (some m) := ⟨b2, o2, rfl, c2, l2, u2⟩
  have e1 : post none (some m) = true := rfl
  have e2 : post (some m) none = false := rfl
  go_enter Trym.func4, Trym.ntmps4
  go_wp2_with fail
  refine (zzpostpones _ _ none (some m) _ hx hy).mono ?_
  rintro e w1 ⟨rfl, g1⟩
  go_wp2_with fail
  refine (zzpostpones _ _ (some m) none _ (hy.keep g1) (hx.keep g1)).mono ?_
  rintro e w2 ⟨rfl, g2⟩
  have f2 := g1.trans (g2.mono g1.size)
  go_wp2_with fail
  refine (zzpostpones _ _ (some m) z _ (hy.keep f2) (hz.keep f2)).mono ?_
  rintro e w3 ⟨rfl, g3⟩
  have f3 := f2.trans (g3.mono f2.size)
  go_wp2_with fail
  refine (zzpostpones _ _ none z _ (hx.keep f3) (hz.keep f3)).mono ?_
  rintro e w4 ⟨rfl, g4⟩
  have f4 := f3.trans (g4.mono f3.size)
  have d2 := keep f4 c2
  go_wp2_with fail
  go_quiet (fail)
  go_wp2
  go_ret
  exact ⟨rfl, f4.trans ((below_drewN _ _).mono f4.size)⟩

theorem some_nil (b1 o1 : Nat) (n : Int) (v : Value) (z : Option Int) (w : World) (hz : Reads w v z) (c1 : w.cell? ⟨b1, o1, none⟩ = some (.int .i64 n)) (l1 : -9223372036854775808 ≤ n) (u1 : n ≤ 9223372036854775807) :
    Calls Trym.prog 4 #[.pointer (some ⟨b1, o1, none⟩), .pointer none, v] w fun e w' => e = .returned (.bool true) ∧ Below w.heap.size w w' := by
  have hx : Reads w (.pointer (some ⟨b1, o1, none⟩)) (some n) := ⟨b1, o1, rfl, c1, l1, u1⟩
  have hy : Reads w (.pointer none) none := rfl
  have e1 : post (some n) none = false := rfl
  have e2 : post none (some n) = true := rfl
  go_enter Trym.func4, Trym.ntmps4
  go_wp2_with fail
  refine (zzpostpones _ _ (some n) none _ hx hy).mono ?_
  rintro e w1 ⟨rfl, g1⟩
  go_wp2_with fail
  refine (zzpostpones _ _ none (some n) _ (hy.keep g1) (hx.keep g1)).mono ?_
  rintro e w2 ⟨rfl, g2⟩
  have f2 := g1.trans (g2.mono g1.size)
  go_wp2_with fail
  refine (zzpostpones _ _ none z _ (hy.keep f2) (hz.keep f2)).mono ?_
  rintro e w3 ⟨rfl, g3⟩
  have f3 := f2.trans (g3.mono f2.size)
  go_wp2_with fail
  refine (zzpostpones _ _ (some n) z _ (hx.keep f3) (hz.keep f3)).mono ?_
  rintro e w4 ⟨rfl, g4⟩
  have f4 := f3.trans (g4.mono f3.size)
  have d1 := keep f4 c1
  go_wp2_with fail
  go_quiet (fail)
  go_wp2
  go_ret
  exact ⟨rfl, f4.trans ((below_drewN _ _).mono f4.size)⟩

theorem some_gt_t (b1 o1 b2 o2 : Nat) (n m : Int) (v : Value) (z : Option Int) (w : World) (hz : Reads w v z) (c1 : w.cell? ⟨b1, o1, none⟩ = some (.int .i64 n)) (l1 : -9223372036854775808 ≤ n) (u1 : n ≤ 9223372036854775807) (c2 : w.cell? ⟨b2, o2, none⟩ = some (.int .i64 m)) (l2 : -9223372036854775808 ≤ m) (u2 : m ≤ 9223372036854775807) (hgt : m < n) (hbc : post (some m) z = true) (hac : post (some n) z = true) :
    Calls Trym.prog 4 #[.pointer (some ⟨b1, o1, none⟩), .pointer (some ⟨b2, o2, none⟩), v] w fun e w' => e = .returned (.bool true) ∧ Below w.heap.size w w' := by
  have hx : Reads w (.pointer (some ⟨b1, o1, none⟩)) (some n) := ⟨b1, o1, rfl, c1, l1, u1⟩
  have hy : Reads w (.pointer (some ⟨b2, o2, none⟩)) (some m) := ⟨b2, o2, rfl, c2, l2, u2⟩
  have e1 := post_lt hgt
  have e2 := post_ge (n := m) (m := n) (by omega)
  have e3 : (n == m) = false := by rw [beq_eq_false_iff_ne]; omega
  go_enter Trym.func4, Trym.ntmps4
  go_wp2_with fail
  refine (zzpostpones _ _ (some n) (some m) _ hx hy).mono ?_
  rintro e w1 ⟨rfl, g1⟩
  go_wp2_with fail
  refine (zzpostpones _ _ (some m) (some n) _ (hy.keep g1) (hx.keep g1)).mono ?_
  rintro e w2 ⟨rfl, g2⟩
  have f2 := g1.trans (g2.mono g1.size)
  go_wp2_with fail
  refine (zzpostpones _ _ (some m) z _ (hy.keep f2) (hz.keep f2)).mono ?_
  rintro e w3 ⟨rfl, g3⟩
  have f3 := f2.trans (g3.mono f2.size)
  go_wp2_with fail
  refine (zzpostpones _ _ (some n) z _ (hx.keep f3) (hz.keep f3)).mono ?_
  rintro e w4 ⟨rfl, g4⟩
  have f4 := f3.trans (g4.mono f3.size)
  have d1 := keep f4 c1
  have d2 := keep f4 c2
  go_wp2_with fail
  go_quiet (fail)
  go_wp2
  go_ret
  exact ⟨rfl, f4.trans ((below_drewN _ _).mono f4.size)⟩

theorem some_gt_f (b1 o1 b2 o2 : Nat) (n m : Int) (v : Value) (z : Option Int) (w : World) (hz : Reads w v z) (c1 : w.cell? ⟨b1, o1, none⟩ = some (.int .i64 n)) (l1 : -9223372036854775808 ≤ n) (u1 : n ≤ 9223372036854775807) (c2 : w.cell? ⟨b2, o2, none⟩ = some (.int .i64 m)) (l2 : -9223372036854775808 ≤ m) (u2 : m ≤ 9223372036854775807) (hgt : m < n) (hbc : post (some m) z = false) :
    Calls Trym.prog 4 #[.pointer (some ⟨b1, o1, none⟩), .pointer (some ⟨b2, o2, none⟩), v] w fun e w' => e = .returned (.bool true) ∧ Below w.heap.size w w' := by
  have hx : Reads w (.pointer (some ⟨b1, o1, none⟩)) (some n) := ⟨b1, o1, rfl, c1, l1, u1⟩
  have hy : Reads w (.pointer (some ⟨b2, o2, none⟩)) (some m) := ⟨b2, o2, rfl, c2, l2, u2⟩
  have e1 := post_lt hgt
  have e2 := post_ge (n := m) (m := n) (by omega)
  have e3 : (n == m) = false := by rw [beq_eq_false_iff_ne]; omega
  go_enter Trym.func4, Trym.ntmps4
  go_wp2_with fail
  refine (zzpostpones _ _ (some n) (some m) _ hx hy).mono ?_
  rintro e w1 ⟨rfl, g1⟩
  go_wp2_with fail
  refine (zzpostpones _ _ (some m) (some n) _ (hy.keep g1) (hx.keep g1)).mono ?_
  rintro e w2 ⟨rfl, g2⟩
  have f2 := g1.trans (g2.mono g1.size)
  go_wp2_with fail
  refine (zzpostpones _ _ (some m) z _ (hy.keep f2) (hz.keep f2)).mono ?_
  rintro e w3 ⟨rfl, g3⟩
  have f3 := f2.trans (g3.mono f2.size)
  go_wp2_with fail
  refine (zzpostpones _ _ (some n) z _ (hx.keep f3) (hz.keep f3)).mono ?_
  rintro e w4 ⟨rfl, g4⟩
  have f4 := f3.trans (g4.mono f3.size)
  have d1 := keep f4 c1
  have d2 := keep f4 c2
  go_wp2_with fail
  go_quiet (fail)
  go_wp2
  go_ret
  exact ⟨rfl, f4.trans ((below_drewN _ _).mono f4.size)⟩

theorem some_lt (b1 o1 b2 o2 : Nat) (n m : Int) (v : Value) (z : Option Int) (w : World) (hz : Reads w v z) (c1 : w.cell? ⟨b1, o1, none⟩ = some (.int .i64 n)) (l1 : -9223372036854775808 ≤ n) (u1 : n ≤ 9223372036854775807) (c2 : w.cell? ⟨b2, o2, none⟩ = some (.int .i64 m)) (l2 : -9223372036854775808 ≤ m) (u2 : m ≤ 9223372036854775807) (hlt : n < m) :
    Calls Trym.prog 4 #[.pointer (some ⟨b1, o1, none⟩), .pointer (some ⟨b2, o2, none⟩), v] w fun e w' => e = .returned (.bool true) ∧ Below w.heap.size w w' := by
  have hx : Reads w (.pointer (some ⟨b1, o1, none⟩)) (some n) := ⟨b1, o1, rfl, c1, l1, u1⟩
  have hy : Reads w (.pointer (some ⟨b2, o2, none⟩)) (some m) := ⟨b2, o2, rfl, c2, l2, u2⟩
  have e1 := post_lt hlt
  have e2 := post_ge (n := n) (m := m) (by omega)
  have e3 : (n == m) = false := by rw [beq_eq_false_iff_ne]; omega
  go_enter Trym.func4, Trym.ntmps4
  go_wp2_with fail
  refine (zzpostpones _ _ (some n) (some m) _ hx hy).mono ?_
  rintro e w1 ⟨rfl, g1⟩
  go_wp2_with fail
  refine (zzpostpones _ _ (some m) (some n) _ (hy.keep g1) (hx.keep g1)).mono ?_
  rintro e w2 ⟨rfl, g2⟩
  have f2 := g1.trans (g2.mono g1.size)
  go_wp2_with fail
  refine (zzpostpones _ _ (some m) z _ (hy.keep f2) (hz.keep f2)).mono ?_
  rintro e w3 ⟨rfl, g3⟩
  have f3 := f2.trans (g3.mono f2.size)
  go_wp2_with fail
  refine (zzpostpones _ _ (some n) z _ (hx.keep f3) (hz.keep f3)).mono ?_
  rintro e w4 ⟨rfl, g4⟩
  have f4 := f3.trans (g4.mono f3.size)
  have d1 := keep f4 c1
  have d2 := keep f4 c2
  go_wp2_with fail
  go_quiet (fail)
  go_wp2
  go_ret
  exact ⟨rfl, f4.trans ((below_drewN _ _).mono f4.size)⟩

theorem some_eq (b1 o1 b2 o2 : Nat) (n : Int) (v : Value) (z : Option Int) (w : World) (hz : Reads w v z) (c1 : w.cell? ⟨b1, o1, none⟩ = some (.int .i64 n)) (l1 : -9223372036854775808 ≤ n) (u1 : n ≤ 9223372036854775807) (c2 : w.cell? ⟨b2, o2, none⟩ = some (.int .i64 n)) :
    Calls Trym.prog 4 #[.pointer (some ⟨b1, o1, none⟩), .pointer (some ⟨b2, o2, none⟩), v] w fun e w' => e = .returned (.bool true) ∧ Below w.heap.size w w' := by
  have hx : Reads w (.pointer (some ⟨b1, o1, none⟩)) (some n) := ⟨b1, o1, rfl, c1, l1, u1⟩
  have hy : Reads w (.pointer (some ⟨b2, o2, none⟩)) (some n) := ⟨b2, o2, rfl, c2, l1, u1⟩
  have e1 := post_ge (n := n) (m := n) (by omega)
  go_enter Trym.func4, Trym.ntmps4
  go_wp2_with fail
  refine (zzpostpones _ _ (some n) (some n) _ hx hy).mono ?_
  rintro e w1 ⟨rfl, g1⟩
  go_wp2_with fail
  refine (zzpostpones _ _ (some n) (some n) _ (hy.keep g1) (hx.keep g1)).mono ?_
  rintro e w2 ⟨rfl, g2⟩
  have f2 := g1.trans (g2.mono g1.size)
  go_wp2_with fail
  refine (zzpostpones _ _ (some n) z _ (hy.keep f2) (hz.keep f2)).mono ?_
  rintro e w3 ⟨rfl, g3⟩
  have f3 := f2.trans (g3.mono f2.size)
  go_wp2_with fail
  refine (zzpostpones _ _ (some n) z _ (hx.keep f3) (hz.keep f3)).mono ?_
  rintro e w4 ⟨rfl, g4⟩
  have f4 := f3.trans (g4.mono f3.size)
  have d1 := keep f4 c1
  have d2 := keep f4 c2
  go_wp2_with fail
  go_quiet (fail)
  go_wp2
  go_ret
  exact ⟨rfl, f4.trans ((below_drewN _ _).mono f4.size)⟩

/-- The law, whatever the three pointers read as. -/
theorem walk (v0 v1 v2 : Value) (x y z : Option Int) (w : World) (h0 : Reads w v0 x) (h1 : Reads w v1 y) (h2 : Reads w v2 z) :
    Calls Trym.prog 4 #[v0, v1, v2] w fun e w' => e = .returned (.bool true) ∧ Below w.heap.size w w' := by
  cases x with
  | none =>
    obtain rfl : v0 = .pointer none := h0
    cases y with
    | none =>
      obtain rfl : v1 = .pointer none := h1
      exact nil_nil v2 z w h2
    | some m =>
      obtain ⟨b2, o2, rfl, c2, l2, u2⟩ := h1
      cases hbc : post (some m) z with
      | false => exact nil_some_f b2 o2 m v2 z w h2 c2 l2 u2 hbc
      | true => exact nil_some_t b2 o2 m v2 z w h2 c2 l2 u2 hbc (post_trans none (some m) z rfl hbc)
  | some n =>
    obtain ⟨b1, o1, rfl, c1, l1, u1⟩ := h0
    cases y with
    | none =>
      obtain rfl : v1 = .pointer none := h1
      exact some_nil b1 o1 n v2 z w h2 c1 l1 u1
    | some m =>
      obtain ⟨b2, o2, rfl, c2, l2, u2⟩ := h1
      by_cases hgt : m < n
      · cases hbc : post (some m) z with
        | false => exact some_gt_f b1 o1 b2 o2 n m v2 z w h2 c1 l1 u1 c2 l2 u2 hgt hbc
        | true => exact some_gt_t b1 o1 b2 o2 n m v2 z w h2 c1 l1 u1 c2 l2 u2 hgt hbc (post_trans (some n) (some m) z (post_lt hgt) hbc)
      · by_cases hlt : n < m
        · exact some_lt b1 o1 b2 o2 n m v2 z w h2 c1 l1 u1 c2 l2 u2 hlt
        · obtain rfl : n = m := by omega
          exact some_eq b1 o1 b2 o2 n v2 z w h2 c1 l1 u1 c2

end Go.Proofs.Qxb6615041aMods.Order
