/-
  THE CONTRACTS OF 'ZZtime' (8), 'postpones' (7), 'ZZpostpones' (6). Own work.
-/
import Derived.Test.Qxb6615041aModsTime
import Derived.WalkKit
import Derived.ProofKit
import Derived.Below
import Derived.BigQuiet
import Derived.Deep.QuietTactic
import Derived.Deep.RegionHeld3
namespace Go.Proofs.Qxb6615041aMods.Post
open Go.RowKit
set_option linter.unusedSimpArgs false
set_option linter.unusedVariables false

theorem bcell {W w1 : World} (hb : Below W.heap.size W w1) : (∀ b o, b < W.heap.size → w1.cell? ⟨b, o, none⟩ = W.cell? ⟨b, o, none⟩) ∧ (∀ b o, b < W.heap.size → w1.frozen? ⟨b, o, none⟩ = W.frozen? ⟨b, o, none⟩) :=
  ⟨fun b o h => hb.cell (p := ⟨b, o, none⟩) h, fun b o h => hb.frozen (p := ⟨b, o, none⟩) h⟩

theorem cell_lt {w : World} {b o : Nat} {v : Value} (h : w.cell? ⟨b, o, none⟩ = some v) : b < w.heap.size := by
  by_cases hb : b < w.heap.size
  · exact hb
  · have : w.heap[b]? = none := by simp; omega
    simp [World.cell?, this] at h

/-- A cell that held something, kept. -/
theorem keep {W w1 : World} (hb : Below W.heap.size W w1) {b o : Nat} {v : Value} (h : W.cell? ⟨b, o, none⟩ = some v) : w1.cell? ⟨b, o, none⟩ = some v := by
  rw [(bcell hb).1 b o (cell_lt h)]; exact h

theorem below_drewN (w : World) (n : Nat) : Below w.heap.size w (w.drewN n) := by
  suffices h : ∀ n, Below w.heap.size w (w.drewN n) from h n
  intro n
  induction n with
  | zero => exact Below.refl _ _
  | succ n ih => exact ih.drew

theorem zztime_nil (w : World) : Calls Trym.prog 8 #[.pointer none] w fun e w' => e = .returned (.pointer none) ∧ w' = w := by
  go_enter Trym.func8, Trym.ntmps8
  go_wp2
  go_ret
  exact ⟨rfl, rfl⟩

/-- Three cells that hold the time 'ns' nanoseconds from the zero time. -/
def IsTime (w : World) (B : Nat) (ns : Int) : Prop :=
  w.cell? ⟨B, 0, none⟩ = some (.int .u64 (ns % 1000000000)) ∧ w.cell? ⟨B, 1, none⟩ = some (.int .i64 (ns / 1000000000)) ∧ w.cell? ⟨B, 2, none⟩ = some (.pointer none)

theorem zztime_some (b o : Nat) (ns : Int) (w : World) (h0 : -9223372036854775808 ≤ ns) (h1 : ns ≤ 9223372036854775807) (hc : w.cell? ⟨b, o, none⟩ = some (.int .i64 ns)) :
    Calls Trym.prog 8 #[.pointer (some ⟨b, o, none⟩)] w fun e w' => ∃ B, e = .returned (.pointer (some ⟨B, 0, none⟩)) ∧ IsTime w' B ns ∧ Below w.heap.size w w' := by
  go_enter Trym.func8, Trym.ntmps8
  go_wp2_with fail
  refine (Time.add_any ns _ h0 h1).mono ?_
  rintro e w' ⟨rfl, hb⟩
  go_wp2_with fail
  go_ret
  exact ⟨w'.heap.size, rfl, ⟨by simp [go_sem], by simp [go_sem], by simp [go_sem]⟩, hb.alloc hb.size _⟩

theorem postpones_nil (p : Option Addr) (w : World) :
    Calls Trym.prog 7 #[.pointer p, .pointer none] w fun e w' => e = .returned (.bool false) ∧ Below w.heap.size w w' := by
  go_enter Trym.func7, Trym.ntmps7
  go_wp2
  go_quiet (fail)
  go_wp2
  go_ret
  exact ⟨rfl, below_drewN _ _⟩

theorem postpones_none (x : Addr) (w : World) :
    Calls Trym.prog 7 #[.pointer none, .pointer (some x)] w fun e w' => e = .returned (.bool true) ∧ Below w.heap.size w w' := by
  go_enter Trym.func7, Trym.ntmps7
  go_wp2
  go_quiet (fail)
  go_wp2
  go_ret
  exact ⟨rfl, below_drewN _ _⟩

theorem postpones_some (A B : Nat) (a b : Int) (w : World) (ha : IsTime w A a) (hb : IsTime w B b) :
    Calls Trym.prog 7 #[.pointer (some ⟨A, 0, none⟩), .pointer (some ⟨B, 0, none⟩)] w fun e w' => e = .returned (.bool (decide (b < a))) ∧ Below w.heap.size w w' := by
  obtain ⟨a0, a1, a2⟩ := ha
  obtain ⟨b0, b1, b2⟩ := hb
  have hA := cell_lt a0
  have hB := cell_lt b0
  go_enter Trym.func7, Trym.ntmps7
  go_wp2
  go_region_held3 (fun w' => w'.cell? ⟨A, 0, none⟩ = some (.int .u64 (a % 1000000000)) ∧ w'.cell? ⟨A, 1, none⟩ = some (.int .i64 (a / 1000000000)) ∧ w'.cell? ⟨A, 2, none⟩ = some (.pointer none) ∧ w'.cell? ⟨B, 0, none⟩ = some (.int .u64 (b % 1000000000)) ∧ w'.cell? ⟨B, 1, none⟩ = some (.int .i64 (b / 1000000000)) ∧ w'.cell? ⟨B, 2, none⟩ = some (.pointer none)) (first | (simp [go_sem, a0, a1, a2, b0, b1, b2]; done) | exact ⟨keep hw a0, keep hw a1, keep hw a2, keep hw b0, keep hw b1, keep hw b2⟩)
    (first
      | (go_at_call 9; refine (Time.after_any a b _).mono ?_; rintro e w' ⟨rfl, hw⟩))
  go_wp2
  go_ret
  exact ⟨rfl, ((Below.refl _ _).drew).trans hw⟩

theorem isTime_keep {W w1 : World} {B : Nat} {ns : Int} (hb : Below W.heap.size W w1) (h : IsTime W B ns) : IsTime w1 B ns :=
  ⟨keep hb h.1, keep hb h.2.1, keep hb h.2.2⟩

/-- What the pointer v reads as in the world w: nil, or the number that it leads to. -/
def Reads (w : World) (v : Value) : Option Int → Prop
  | none => v = .pointer none
  | some n => ∃ b o, v = .pointer (some ⟨b, o, none⟩) ∧ w.cell? ⟨b, o, none⟩ = some (.int .i64 n) ∧ -9223372036854775808 ≤ n ∧ n ≤ 9223372036854775807

theorem Reads.keep {W w1 : World} (hb : Below W.heap.size W w1) {v : Value} {x : Option Int} (h : Reads W v x) : Reads w1 v x := by
  cases x with
  | none => exact h
  | some n =>
    obtain ⟨b, o, rfl, hc, h0, h1⟩ := h
    exact ⟨b, o, rfl, Post.keep hb hc, h0, h1⟩

/-- 'ZZpostpones', in plain words. -/
def post (next was : Option Int) : Bool :=
  match was with
  | none => false
  | some m => match next with
    | none => true
    | some n => decide (m < n)

theorem zz_nil_nil (w : World) : Calls Trym.prog 6 #[.pointer none, .pointer none] w fun e w' => e = .returned (.bool false) ∧ Below w.heap.size w w' := by
  go_enter Trym.func6, Trym.ntmps6
  go_wp2_with fail
  refine (zztime_nil _).mono ?_
  rintro e w1 ⟨rfl, rfl⟩
  go_wp2_with fail
  refine (zztime_nil _).mono ?_
  rintro e w1 ⟨rfl, rfl⟩
  go_wp2_with fail
  refine (postpones_nil _ _).mono ?_
  rintro e w2 ⟨rfl, h2⟩
  go_wp2_with fail
  go_ret
  exact ⟨rfl, h2⟩

theorem zz_some_nil (b o : Nat) (n : Int) (w : World) (hc : w.cell? ⟨b, o, none⟩ = some (.int .i64 n)) (h0 : -9223372036854775808 ≤ n) (h1 : n ≤ 9223372036854775807) :
    Calls Trym.prog 6 #[.pointer (some ⟨b, o, none⟩), .pointer none] w fun e w' => e = .returned (.bool false) ∧ Below w.heap.size w w' := by
  go_enter Trym.func6, Trym.ntmps6
  go_wp2_with fail
  refine (zztime_some b o n _ h0 h1 hc).mono ?_
  rintro e w1 ⟨B, rfl, ht, g1⟩
  go_wp2_with fail
  refine (zztime_nil _).mono ?_
  rintro e w2 ⟨rfl, rfl⟩
  go_wp2_with fail
  refine (postpones_nil _ _).mono ?_
  rintro e w3 ⟨rfl, g3⟩
  go_wp2_with fail
  go_ret
  exact ⟨rfl, g1.trans (g3.mono g1.size)⟩

theorem zz_nil_some (b o : Nat) (n : Int) (w : World) (hc : w.cell? ⟨b, o, none⟩ = some (.int .i64 n)) (h0 : -9223372036854775808 ≤ n) (h1 : n ≤ 9223372036854775807) :
    Calls Trym.prog 6 #[.pointer none, .pointer (some ⟨b, o, none⟩)] w fun e w' => e = .returned (.bool true) ∧ Below w.heap.size w w' := by
  go_enter Trym.func6, Trym.ntmps6
  go_wp2_with fail
  refine (zztime_nil _).mono ?_
  rintro e w2 ⟨rfl, rfl⟩
  go_wp2_with fail
  refine (zztime_some b o n _ h0 h1 hc).mono ?_
  rintro e w1 ⟨B, rfl, ht, g1⟩
  go_wp2_with fail
  refine (postpones_none _ _).mono ?_
  rintro e w3 ⟨rfl, g3⟩
  go_wp2_with fail
  go_ret
  exact ⟨rfl, g1.trans (g3.mono g1.size)⟩

theorem zz_some_some (b o b' o' : Nat) (n m : Int) (w : World) (hc : w.cell? ⟨b, o, none⟩ = some (.int .i64 n)) (h0 : -9223372036854775808 ≤ n) (h1 : n ≤ 9223372036854775807)
    (hc' : w.cell? ⟨b', o', none⟩ = some (.int .i64 m)) (k0 : -9223372036854775808 ≤ m) (k1 : m ≤ 9223372036854775807) :
    Calls Trym.prog 6 #[.pointer (some ⟨b, o, none⟩), .pointer (some ⟨b', o', none⟩)] w fun e w' => e = .returned (.bool (decide (m < n))) ∧ Below w.heap.size w w' := by
  go_enter Trym.func6, Trym.ntmps6
  go_wp2_with fail
  refine (zztime_some b o n _ h0 h1 hc).mono ?_
  rintro e w1 ⟨A, rfl, ht, g1⟩
  go_wp2_with fail
  refine (zztime_some b' o' m _ k0 k1 (keep g1 hc')).mono ?_
  rintro e w2 ⟨B, rfl, hu, g2⟩
  go_wp2_with fail
  refine (postpones_some A B n m _ (isTime_keep g2 ht) hu).mono ?_
  rintro e w3 ⟨rfl, g3⟩
  go_wp2_with fail
  go_ret
  exact ⟨rfl, (g1.trans (g2.mono g1.size)).trans (g3.mono (Nat.le_trans g1.size g2.size))⟩

theorem zzpostpones (v u : Value) (x y : Option Int) (w : World) (hv : Reads w v x) (hu : Reads w u y) :
    Calls Trym.prog 6 #[v, u] w fun e w' => e = .returned (.bool (post x y)) ∧ Below w.heap.size w w' := by
  cases y with
  | none =>
    obtain rfl : u = .pointer none := hu
    cases x with
    | none =>
      obtain rfl : v = .pointer none := hv
      exact zz_nil_nil w
    | some n =>
      obtain ⟨b, o, rfl, hc, h0, h1⟩ := hv
      exact zz_some_nil b o n w hc h0 h1
  | some m =>
    obtain ⟨b', o', rfl, hc', k0, k1⟩ := hu
    cases x with
    | none =>
      obtain rfl : v = .pointer none := hv
      exact zz_nil_some b' o' m w hc' k0 k1
    | some n =>
      obtain ⟨b, o, rfl, hc, h0, h1⟩ := hv
      exact zz_some_some b o b' o' n m w hc h0 h1 hc' k0 k1

end Go.Proofs.Qxb6615041aMods.Post
