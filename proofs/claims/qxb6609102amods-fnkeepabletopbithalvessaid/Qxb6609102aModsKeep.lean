/-
  THE CONTRACTS OF 'keepable' (function 8) AND 'ZZkeepable' (function 6). Own work.
-/
import Derived.Test.Qxb6609102aModsRows
import Derived.WalkKit
import Derived.ProofKit
namespace Go.Proofs.Qxb6609102aMods.Keep
open Go.RowKit

theorem keep_lo (a : Int) (h0 : 0 ≤ a) (h : a ≤ 2147483647) (w : World) :
    Calls Trym.prog 8 #[.int .u32 a] w fun e w' => e = .returned (.int .u32 a) ∧ w' = w := by
  have h' : ¬ 2147483647 < a := by omega
  go_enter Trym.func8, Trym.ntmps8
  go_wp2
  go_ret
  exact ⟨rfl, rfl⟩

theorem keep_hi (a : Int) (h : 2147483647 < a) (w : World) :
    Calls Trym.prog 8 #[.int .u32 a] w fun e w' => e = .returned (.int .u32 0) ∧ w' = w := by
  go_enter Trym.func8, Trym.ntmps8
  go_wp2
  go_ret
  exact ⟨rfl, rfl⟩

theorem zz_lo (a : Int) (h0 : 0 ≤ a) (h : a ≤ 2147483647) (w : World) :
    Calls Trym.prog 6 #[.int .u32 a] w fun e w' => e = .returned (.int .u32 a) ∧ w' = w := by
  go_enter Trym.func6, Trym.ntmps6
  go_wp2_with (go_at_call 8; refine (keep_lo _ h0 h _).mono ?_; rintro e w' ⟨rfl, rfl⟩)
  go_ret
  exact ⟨rfl, rfl⟩

theorem zz_hi (a : Int) (h : 2147483647 < a) (w : World) :
    Calls Trym.prog 6 #[.int .u32 a] w fun e w' => e = .returned (.int .u32 0) ∧ w' = w := by
  go_enter Trym.func6, Trym.ntmps6
  go_wp2_with (go_at_call 8; refine (keep_hi _ h _).mono ?_; rintro e w' ⟨rfl, rfl⟩)
  go_ret
  exact ⟨rfl, rfl⟩
end Go.Proofs.Qxb6609102aMods.Keep
