/-
  THE CONTRACTS OF 'changedSince' (6) AND 'ZZchangedSince' (5). Own work.
-/
import Derived.Test.Qxb6615501aModsRows
import Derived.WalkKit
import Derived.ProofKit
namespace Go.Proofs.Qxb6615501aMods.Chg
open Go.RowKit

/-- 'changedSince', in plain words: the earlier stamp is the zero stamp, or the two differ. -/
def chg (a b c d : Int) : Bool := decide ((a = 0 ∧ b = 0) ∨ ¬ (a = c ∧ b = d))

theorem ret_bool {x y : Bool} (h : y = x) : Ending.returned (.bool x) = .returned (.bool y) := by rw [h]

theorem trans {a b c : World} (h : Grown a b) (k : Grown b c) : Grown a c :=
  ⟨World.keptBut_trans h.1 (World.keptBut_mono (fun _ f => f.elim) k.1), fun x => (k.2.1 x).trans (h.2.1 x), Nat.le_trans h.2.2 k.2.2⟩

theorem changed (a b c d : Int) (w : World) :
    Calls Trym.prog 6 #[.agg #[.int .u64 a, .int .i64 b], .agg #[.int .u64 c, .int .i64 d]] w fun e w' => e = .returned (.bool (chg a b c d)) ∧ Grown w w' := by
  go_enter Trym.func6, Trym.ntmps6
  go_wp2
  all_goals
    go_ret
    exact ⟨ret_bool (by first | exact decide_eq_true (by omega) | exact decide_eq_false (by omega)), ((Grown.refl _).alloc _ _).alloc _ _⟩

theorem zzchanged (a b c d : Int) (w : World) :
    Calls Trym.prog 5 #[.int .u64 a, .int .i64 b, .int .u64 c, .int .i64 d] w fun e w' => e = .returned (.bool (chg a b c d)) ∧ Grown w w' := by
  go_enter Trym.func5, Trym.ntmps5
  go_wp2_with fail
  refine (changed a b c d _).mono ?_
  rintro e w1 ⟨rfl, g⟩
  go_wp2_with fail
  go_ret
  exact ⟨rfl, g⟩
end Go.Proofs.Qxb6615501aMods.Chg
