/-
  THE CONTRACT OF 'buildTemplate' (7). Own work.
-/
import Derived.Test.Qxb6615806aModsSegs
import Derived.WalkKit
import Derived.ProofKit
import Derived.Below
import Derived.WalkSpells
import Derived.StillTactics
import Derived.OwnWalk
import Derived.Laws.Pointers
import Derived.Laws.MakeOwn
import Derived.Lib.SliceRun
import Derived.Deep.RegionHeld3
import Derived.KernelRfl
namespace Go.Proofs.Qxb6615806aMods.Build
open Go.RowKit Segs
set_option linter.unusedSimpArgs false
set_option linter.unusedVariables false

theorem info35 : (Trym.prog.info? 35).map (fun i => (i.zero, i.size, i.bytes)) = some (some (.agg #[.int .i64 0, .string ⟨#[]⟩]), 2, 24) := by kernel_rfl

/-- 'make(route.Template, len)'. -/
theorem made (len : Nat) (hl : len ≤ 4096) (w : World) : ∃ cur : Array Value, cur.size = len * 2 ∧
    (Instr.makeSlice 26 (.int .i64 (len : Int)) (.int .i64 (len : Int))).run Trym.prog w = .ok (.slice (some ⟨w.heap.size, 0, none⟩) len len) (w.alloc (.cells cur 35)) := by
  obtain ⟨i0, hi0, hz0, hz1, hz2⟩ := info_parts info35
  have h := run_make (P := Trym.prog) w 26 35 i0 _ Trym.underlying26 hi0 hz0 .i64 .i64 (len : Int) (len : Int) (by omega) (by omega) (by rw [hz2]; omega) (by omega)
  rw [hz1, Int.toNat_natCast] at h
  exact ⟨_, size_madeCells _ _, h⟩

/-- The call's own block: len segments; the first of them, once laid, bears part 0. -/
def Laid (w : World) (T len j : Nat) (part0 : Int) : Prop :=
  (∀ m, m < len * 2 → ∃ v, w.cell? ⟨T, m, none⟩ = some v) ∧ (∀ m, w.frozen? ⟨T, m, none⟩ = false) ∧ (1 ≤ j → w.cell? ⟨T, 0, none⟩ = some (.int .i64 part0))

theorem laid_start (w : World) (cur : Array Value) (len : Nat) (hcur : cur.size = len * 2) (part0 : Int) : Laid (w.alloc (.cells cur 35)) w.heap.size len 0 part0 := by
  refine ⟨fun m hm => ?_, fun m => ?_, fun h => by omega⟩
  · have h := cell_of_row (w.alloc (.cells cur 35)) w.heap.size m cur 35 (0, 0) (heap_alloc_new w _)
    rw [h]
    exact ⟨cur[m]'(by omega), by simp [hcur, hm]⟩
  · simp [go_sem]

theorem laid_step {wr : World} {T len j : Nat} {part0 partj : Int} {s : ByteArray} (h0 : j = 0 → partj = part0) (hj : j < len)
    (l1 : ∀ m, m < len * 2 → ∃ v, wr.cell? ⟨T, m, none⟩ = some v) (l2 : ∀ m, wr.frozen? ⟨T, m, none⟩ = false) (l3 : 1 ≤ j → wr.cell? ⟨T, 0, none⟩ = some (.int .i64 part0)) :
    Laid ((wr.setCell ⟨T, j * 2, none⟩ (.int .i64 partj)).setCell ⟨T, j * 2 + 1, none⟩ (.string s)).drew T len (j + 1) part0 := by
  refine ⟨fun m hm => ?_, fun m => ?_, fun _ => ?_⟩
  · obtain ⟨v, hv⟩ := l1 m hm
    obtain ⟨v1, hv1⟩ := cell?_setCell_some (p := ⟨T, j * 2, none⟩) (x := .int .i64 partj) hv
    exact cell?_setCell_some (p := ⟨T, j * 2 + 1, none⟩) (x := .string s) hv1
  · show ((wr.setCell ⟨T, j * 2, none⟩ (.int .i64 partj)).setCell ⟨T, j * 2 + 1, none⟩ (.string s)).frozen? ⟨T, m, none⟩ = false
    rw [World.frozen?_setCell, World.frozen?_setCell]
    exact l2 m
  · show ((wr.setCell ⟨T, j * 2, none⟩ (.int .i64 partj)).setCell ⟨T, j * 2 + 1, none⟩ (.string s)).cell? ⟨T, 0, none⟩ = _
    rw [World.cell?_setCell_other _ _ _ _ (by simp)]
    by_cases hz : j = 0
    · subst hz
      obtain ⟨v, hv⟩ := l1 0 (by omega)
      rw [h0 rfl]
      exact World.cell?_setCell_same _ _ _ hv
    · rw [World.cell?_setCell_other _ _ _ _ (by simp <;> omega)]
      exact l3 (by omega)

theorem build_nil (cap : Nat) (w : World) : Calls Trym.prog 7 #[.slice none 0 cap] w fun e w' => e = .returned (.slice none 0 0) ∧ w' = w := by
  have heq : (binOp .eql 22 (.slice none 0 cap) (.slice none 0 0)).run Trym.prog w = .ok (.bool true) w := Lib.run_eql_slice_nil (P := Trym.prog) w 22 31 none 0 cap 0 0 Trym.underlying22
  go_enter Trym.func7, Trym.ntmps7
  go_wp2
  go_ret
  exact ⟨rfl, rfl⟩

set_option maxRecDepth 100000 in
set_option maxHeartbeats 1000000 in
theorem build_some (x : Addr) (len cap : Nat) (part : Nat → Int) (text : Nat → ByteArray) (hl : len ≤ 4096) (w : World) (hr : Row w (some x) len part text) :
    Calls Trym.prog 7 #[.slice (some x) len cap] w fun e w' => ∃ T, e = .returned (.slice (some ⟨T, 0, none⟩) len len) ∧ Below w.heap.size w w' ∧ (len = 1 → w'.cell? ⟨T, 0, none⟩ = some (.int .i64 (part 0))) := by
  obtain ⟨cur, hcur, hmk⟩ := made len hl w
  have heq : (binOp .eql 22 (.slice (some x) len cap) (.slice none 0 0)).run Trym.prog w = .ok (.bool false) w := Lib.run_eql_slice_nil (P := Trym.prog) w 22 31 (some x) len cap 0 0 Trym.underlying22
  go_enter Trym.func7, Trym.ntmps7
  go_wp2_with fail
  go_loopw [12] (fun c wr => ∃ j : Nat, j ≤ len ∧ c = .int .i64 j ∧ Below w.heap.size w wr ∧ Laid wr w.heap.size len j (part 0)) (fun c _ => len - (intOf c).toNat)
  case atStart => exact ⟨0, Nat.zero_le _, rfl, (Below.refl _ _).alloc (Nat.le_refl _) _, laid_start w cur len hcur _⟩
  case round =>
    obtain ⟨j, hj, rfl, hb, l1, l2, l3⟩ := hrel
    by_cases hlt : j < len
    · obtain ⟨b, off, e, hcell⟩ : ∃ b off, some x = some ⟨b, off, none⟩ ∧ ∀ i, i < len → w.cell? ⟨b, off + i * 2, none⟩ = some (.int .i64 (part i)) ∧ w.cell? ⟨b, off + i * 2 + 1, none⟩ = some (.string (text i)) ∧
          (text i).size ≤ maxLen ∧ -9223372036854775808 ≤ part i ∧ part i ≤ 9223372036854775807 := by
        rcases hr with h0 | h1
        · omega
        · exact h1
      obtain rfl : x = ⟨b, off, none⟩ := by injection e
      obtain ⟨c0, c1, hs, p0, p1⟩ := hcell j (by omega)
      have lb := World.block_lt_of_cell? w _ c0
      have lb0 : b < w.heap.size := lb
      have d0 : wr.cell? ⟨b, off + j * 2, none⟩ = some (.int .i64 (part j)) := by rw [hb.cell lb]; exact c0
      have d1 : wr.cell? ⟨b, off + j * 2 + 1, none⟩ = some (.string (text j)) := by rw [hb.cell (p := ⟨b, off + j * 2 + 1, none⟩) lb]; exact c1
      obtain ⟨t0, ht0⟩ := l1 (j * 2) (by omega)
      obtain ⟨t1, ht1⟩ := l1 (j * 2 + 1) (by omega)
      have hf0 := l2 (j * 2)
      have hf1 := l2 (j * 2 + 1)
      have hj0 : (0 : Int) ≤ (j : Int) := Int.natCast_nonneg _
      have hj1 : (j : Int) < (len : Int) := by omega
      have hne : w.heap.size ≠ b := by omega
      have hne' : b ≠ w.heap.size := by omega
      clear hcell hr hmk hcur heq c0 c1 e
      have L1 : Hid (∀ m, m < len * 2 → ∃ v, wr.cell? ⟨w.heap.size, m, none⟩ = some v) := l1
      have L2 : Hid (∀ m, wr.frozen? ⟨w.heap.size, m, none⟩ = false) := l2
      have L3 : Hid (1 ≤ j → wr.cell? ⟨w.heap.size, 0, none⟩ = some (.int .i64 (part 0))) := l3
      clear l1 l2 l3
      go_wp2_with fail
      go_region_held3 (fun w' => w'.cell? ⟨b, off + j * 2, none⟩ = some (.int .i64 (part j)) ∧ w'.cell? ⟨b, off + j * 2 + 1, none⟩ = some (.string (text j)))
        (go_keep)
        (fail)
      go_wp2
      go_roundw
      case rel => exact ⟨j + 1, by omega, by go_num, ((hb.setCell (Nat.le_refl _) _).setCell (Nat.le_refl _) _).drew, laid_step (fun h => by rw [h]) hlt L1.out L2.out L3.out⟩
      case measure => simp [intOf]; omega
    · go_wp2
      go_ret
      refine ⟨w.heap.size, rfl, hb, fun h1 => l3 (by omega)⟩
end Go.Proofs.Qxb6615806aMods.Build
