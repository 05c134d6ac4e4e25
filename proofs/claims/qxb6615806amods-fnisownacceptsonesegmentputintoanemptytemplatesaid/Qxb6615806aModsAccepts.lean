/-
  THE WALK OF 'FnIsOwnAcceptsOneSegmentPutIntoAnEmptyTemplate' (4). Own work.
-/
import Derived.Test.Qxb6615806aModsBytes
import Derived.WalkKit
import Derived.ProofKit
import Derived.Below
import Derived.WalkSpells
import Derived.StillTactics
import Derived.OwnWalk
import Derived.Laws.Pointers
import Derived.Laws.MakeOwn
import Derived.Deep.RegionHeld3
import Derived.Deep.AppendLies
import Derived.KernelRfl
namespace Go.Proofs.Qxb6615806aMods.Accepts
open Go.RowKit Segs
set_option linter.unusedSimpArgs false
set_option linter.unusedVariables false

theorem info35 : (Trym.prog.info? 35).map (fun i => (i.zero, i.size, i.bytes)) = some (some (.agg #[.int .i64 0, .string ⟨#[]⟩]), 2, 24) := by kernel_rfl

/-- 'make(route.Template, 0, len+1)'. -/
theorem made (len : Nat) (hl : len ≤ 4096) (w : World) : ∃ cur : Array Value, cur.size = (len + 1) * 2 ∧
    (Instr.makeSlice 26 (.int .i64 0) (.int .i64 ((len : Int) + 1))).run Trym.prog w = .ok (.slice (some ⟨w.heap.size, 0, none⟩) 0 (len + 1)) (w.alloc (.cells cur 35)) := by
  obtain ⟨i0, hi0, hz0, hz1, hz2⟩ := info_parts info35
  have h := run_make (P := Trym.prog) w 26 35 i0 _ Trym.underlying26 hi0 hz0 .i64 .i64 0 ((len : Int) + 1) (by omega) (by omega) (by rw [hz2]; omega) (by omega)
  rw [hz1, show ((len : Int) + 1).toNat = len + 1 from by omega, show (0 : Int).toNat = 0 from rfl] at h
  exact ⟨_, size_madeCells _ _, h⟩

set_option maxRecDepth 100000 in
set_option maxHeartbeats 1000000 in
theorem walk (a : Option Addr) (len cap : Nat) (part : Nat → Int) (text : Nat → ByteArray) (k p own : Int) (tx : ByteArray) (hm : len ≤ maxLen) (ht : tx.size ≤ maxLen) (w : World) (hr : Row w a len part text) :
    Calls Trym.prog 4 #[.slice a len cap, .int .i64 k, .int .i64 p, .string tx, .int .i64 own] w fun e w' => e = .returned (.bool true) ∧ Below w.heap.size w w' := by
  obtain ⟨i0, hi0, hz0, hz1, hz2⟩ := info_parts info35
  have htm := ht
  unfold maxLen at htm
  go_enter Trym.func4, Trym.ntmps4
  go_wp2_with fail
  refine (Bytes.bytes9 a len cap part text k p own tx hm ht _ hr).mono ?_
  rintro e w1 ⟨b, rfl, rfl⟩
  cases b with
  | false =>
    go_wp2
    go_ret
    exact ⟨rfl, Below.refl _ _⟩
  | true =>
  by_cases hov : (1048576 : Int) < tx.size
  · go_wp2
    go_ret
    exact ⟨rfl, Below.refl _ _⟩
  go_wp2_with fail
  refine (segsFit a len cap part text _ (by omega) (by omega) hm _ hr).mono ?_
  rintro e w2 ⟨b, rfl, hle, rfl⟩
  cases b with
  | false =>
    go_wp2
    go_ret
    exact ⟨rfl, Below.refl _ _⟩
  | true =>
  have hle' : len ≤ 4096 := hle rfl
  clear hle
  by_cases hk0 : k < 0
  · go_wp2
    go_ret
    exact ⟨rfl, Below.refl _ _⟩
  have hk0' : decide (k < 0) = false := by simp; omega
  by_cases hk1 : (len : Int) < k
  · go_wp2
    go_ret
    exact ⟨rfl, Below.refl _ _⟩
  obtain ⟨kk, rfl⟩ := Int.eq_ofNat_of_zero_le (by omega : 0 ≤ k)
  have hk1' : decide (len < kk) = false := by simp; omega
  obtain ⟨cur, hcur, hmk⟩ := made len hle' w2
  have hown0 : (w2.alloc (.cells cur 35)).ownsRow w2.heap.size 35 2 (.slice (some ⟨w2.heap.size, 0, none⟩) 0 (len + 1)) 0 [] :=
    World.ownsRow_made w2 cur (len + 1) (Nat.le_refl _) (by unfold maxLen; omega) hcur
  go_wp2_with fail
  go_loopw [11, 12] (fun u i wr => ∃ j : Nat, j ≤ kk ∧ i = .int .i64 j ∧ Below w2.heap.size w2 wr ∧ ∃ xs, wr.ownsRow w2.heap.size 35 2 u j xs) (fun _ i _ => kk - (intOf i).toNat)
  case atStart => exact ⟨0, Nat.zero_le _, rfl, (Below.refl _ _).alloc (Nat.le_refl _) _, [], hown0⟩
  case round =>
    obtain ⟨j, hj, rfl, hb, xs, hown⟩ := hrel
    by_cases hlt : j < kk
    · obtain ⟨b, off, rfl, hcell⟩ : ∃ b off, a = some ⟨b, off, none⟩ ∧ ∀ i, i < len → w2.cell? ⟨b, off + i * 2, none⟩ = some (.int .i64 (part i)) ∧ w2.cell? ⟨b, off + i * 2 + 1, none⟩ = some (.string (text i)) ∧
          (text i).size ≤ maxLen ∧ -9223372036854775808 ≤ part i ∧ part i ≤ 9223372036854775807 := by
        rcases hr with h0 | h1
        · omega
        · exact h1
      obtain ⟨c0, c1, hs, p0, p1⟩ := hcell j (by omega)
      have lb := World.block_lt_of_cell? w2 _ c0
      have ag : u11.ownBlock ≠ some b := fun h => by
        have := (hown.lt _ h).1
        simp at lb
        omega
      have d0 : wr.cell? ⟨b, off + j * 2, none⟩ = some (.int .i64 (part j)) := by rw [hb.cell lb]; exact c0
      have d1 : wr.cell? ⟨b, off + j * 2 + 1, none⟩ = some (.string (text j)) := by rw [hb.cell (p := ⟨b, off + j * 2 + 1, none⟩) lb]; exact c1
      have lb' : b < wr.heap.size := Nat.lt_of_lt_of_le lb hb.size
      have hj0 : (0 : Int) ≤ (j : Int) := Int.natCast_nonneg _
      have hj1 : (j : Int) < (len : Int) := by omega
      clear hcell hr hmk hown0 hcur c0 c1
      go_wp2_with fail
      go_region_held3 (fun w' => w'.cell? ⟨b, off + j * 2, none⟩ = some (.int .i64 (part j)) ∧ w'.cell? ⟨b, off + j * 2 + 1, none⟩ = some (.string (text j)))
        (first
          | go_keep
          | (go_split_ands
             refine ⟨?_, ?_⟩
             · (rw [hgrow.cell_far _ (by simp; omega) (Ne.symm ag)]; assumption)
             · (rw [hgrow.cell_far _ (by simp; omega) (Ne.symm ag)]; assumption)))
        ((refine step_append_lies _ (by rfl) _ _ _ (by rfl) w2.heap.size 35 i0 _ 2 24 Trym.underlying26 hi0 hz0 hz1 hz2 rfl (by omega) u11 j xs (by rfl) ((hown.alloc _).drew)
            ⟨wr.heap.size, 0, none⟩ 1 1 [.int .i64 (part j), .string (text j)] (by rfl) (by rfl) (World.news_of_block (cs := #[.int .i64 (part j), .string (text j)]) (t := 35) (fr := (0, 0)) (heap_alloc_new wr _)) (by simp [Value.oneCell'])
            (by omega) (by unfold maxLen; omega) (by omega) (by have := hb.size; simp; omega) (wr.heap.size + 1) (by simp) ?_; intro gg cp w1 hown1 hgrow hat hlt'))
      go_wp2
      go_roundw
      case rel => exact ⟨j + 1, by omega, by go_num, ((hb.alloc hb.size _).drew).grown hgrow (by have := hb.size; simp; omega) (fun k hk => (hown.lt k hk).1), _, hown1⟩
      case measure => simp [intOf]; omega
    · obtain rfl : j = kk := by omega
      clear hmk hown0 hcur
      go_wp2_with (at_builtin; refine wpList_append_lies _ (by rfl) _ _ _ (by rfl) w2.heap.size 35 i0 _ 2 24 Trym.underlying26 hi0 hz0 hz1 hz2 rfl (by omega) u11 j xs (by rfl) (hown.alloc _) ⟨wr.heap.size, 0, none⟩ 1 1 [.int .i64 p, .string tx] (by rfl) (by rfl) (World.news_of_block (cs := #[.int .i64 p, .string tx]) (t := 35) (fr := (0, 0)) (heap_alloc_new wr _)) (by simp [Value.oneCell']) (by omega) (by unfold maxLen; omega) (by omega) (by have := hb.size; simp; omega) (wr.heap.size + 1) (by simp) ?_; intro gg cp w3 hown3 hgrow3 hat3 hlt3)
      have hb3 : Below w2.heap.size w2 w3 := (hb.alloc hb.size _).grown hgrow3 (by have := hb.size; simp; omega) (fun k hk => (hown.lt k hk).1)
      have hxs : len = 0 → xs ++ [.int .i64 p, .string tx] = [.int .i64 p, .string tx] := fun h0 => by
        have := hown.1
        have : xs = [] := List.eq_nil_of_length_eq_zero (by omega)
        rw [this]; rfl
      generalize xs ++ [.int .i64 p, .string tx] = ys at hown3 hxs
      clear hgrow3 hat3 hown hb
      go_loopw [11, 13] (fun u i wr => ∃ m : Nat, j ≤ m ∧ m ≤ len ∧ i = .int .i64 m ∧ Below w2.heap.size w2 wr ∧ ∃ xs, wr.ownsRow w2.heap.size 35 2 u (m + 1) xs ∧ (len = 0 → xs = [.int .i64 p, .string tx])) (fun _ i _ => len - (intOf i).toNat)
      case atStart => exact ⟨j, Nat.le_refl _, by omega, rfl, hb3, ys, hown3, hxs⟩
      case round =>
        clear hown3 hxs hb3 hlt3 ys hj hlt
        obtain ⟨m, hjm, hml, rfl, hb, xs, hown, hxs⟩ := hrel
        by_cases hlt : m < len
        · obtain ⟨b, off, rfl, hcell⟩ : ∃ b off, a = some ⟨b, off, none⟩ ∧ ∀ i, i < len → w2.cell? ⟨b, off + i * 2, none⟩ = some (.int .i64 (part i)) ∧ w2.cell? ⟨b, off + i * 2 + 1, none⟩ = some (.string (text i)) ∧
              (text i).size ≤ maxLen ∧ -9223372036854775808 ≤ part i ∧ part i ≤ 9223372036854775807 := by
            rcases hr with h0 | h1
            · omega
            · exact h1
          obtain ⟨c0, c1, hs, p0, p1⟩ := hcell m (by omega)
          have lb := World.block_lt_of_cell? w2 _ c0
          have ag : u11.ownBlock ≠ some b := fun h => by
            have := (hown.lt _ h).1
            simp at lb
            omega
          have d0 : wr.cell? ⟨b, off + m * 2, none⟩ = some (.int .i64 (part m)) := by rw [hb.cell lb]; exact c0
          have d1 : wr.cell? ⟨b, off + m * 2 + 1, none⟩ = some (.string (text m)) := by rw [hb.cell (p := ⟨b, off + m * 2 + 1, none⟩) lb]; exact c1
          have lb' : b < wr.heap.size := Nat.lt_of_lt_of_le lb hb.size
          have hj0 : (0 : Int) ≤ (m : Int) := Int.natCast_nonneg _
          have hj1 : (m : Int) < (len : Int) := by omega
          clear hcell hr c0 c1 hxs
          go_wp2_with fail
          go_region_held3 (fun w' => w'.cell? ⟨b, off + m * 2, none⟩ = some (.int .i64 (part m)) ∧ w'.cell? ⟨b, off + m * 2 + 1, none⟩ = some (.string (text m)))
            (first
              | go_keep
              | (go_split_ands
                 refine ⟨?_, ?_⟩
                 · (rw [hgrow.cell_far _ (by simp; omega) (Ne.symm ag)]; assumption)
                 · (rw [hgrow.cell_far _ (by simp; omega) (Ne.symm ag)]; assumption)))
            ((refine step_append_lies _ (by rfl) _ _ _ (by rfl) w2.heap.size 35 i0 _ 2 24 Trym.underlying26 hi0 hz0 hz1 hz2 rfl (by omega) u11 (m + 1) xs (by rfl) ((hown.alloc _).drew)
                ⟨wr.heap.size, 0, none⟩ 1 1 [.int .i64 (part m), .string (text m)] (by rfl) (by rfl) (World.news_of_block (cs := #[.int .i64 (part m), .string (text m)]) (t := 35) (fr := (0, 0)) (heap_alloc_new wr _)) (by simp [Value.oneCell'])
                (by omega) (by unfold maxLen; omega) (by omega) (by have := hb.size; simp; omega) (wr.heap.size + 1) (by simp) ?_; intro g2 cp2 w1 hown1 hgrow hat hlt'))
          go_wp2
          go_roundw
          case rel => exact ⟨m + 1, by omega, by omega, by go_num, ((hb.alloc hb.size _).drew).grown hgrow (by have := hb.size; simp; omega) (fun k hk => (hown.lt k hk).1), _, hown1, fun h0 => by omega⟩
          case measure => simp [intOf]; omega
        · obtain rfl : m = len := by omega
          obtain ⟨g, cp3, rfl, hg0, hg1⟩ := hown.form (by omega)
          by_cases hz : m = 0
          · have hx := hxs hz
            have hc := hown.cellAt 0 (by omega)
            rw [hx] at hc
            have hc' : wr.cell? ⟨g, 0, none⟩ = some (.int .i64 p) := by simpa using hc
            subst hz
            clear hown hx hxs hc
            by_cases hpo : p = own
            · subst hpo
              have hpp : (p == p) = true := by simp
              go_wp2_with fail
              refine (zzisOwn_one g 0 cp3 p p _ hc').mono ?_
              rintro e w5 ⟨rfl, rfl⟩
              go_wp2_with fail
              refine (zzisOwn_one g 0 cp3 p p _ hc').mono ?_
              rintro e w6 ⟨rfl, rfl⟩
              go_wp2_with fail
              go_ret
              exact ⟨rfl, hb⟩
            · have hpp : (p == p) = true := by simp
              have hpo1 : (p == own) = false := by rw [beq_eq_false_iff_ne]; exact hpo
              have hpo2 : (own == p) = false := by rw [beq_eq_false_iff_ne]; exact fun h => hpo h.symm
              clear hpo
              go_wp2_with fail
              refine (zzisOwn_one g 0 cp3 p p _ hc').mono ?_
              rintro e w5 ⟨rfl, rfl⟩
              go_wp2_with fail
              refine (zzisOwn_one g 0 cp3 own p _ hc').mono ?_
              rintro e w6 ⟨rfl, rfl⟩
              go_wp2_with fail
              go_ret
              exact ⟨rfl, hb⟩
          · have hne : ((m : Int) == 0) = false := by rw [beq_eq_false_iff_ne]; omega
            clear hown hxs
            go_wp2_with fail
            refine (zzisOwn_ne _ _ _ p (by omega) _).mono ?_
            rintro e w5 ⟨rfl, rfl⟩
            go_wp2_with fail
            refine (zzisOwn_ne _ _ _ own (by omega) _).mono ?_
            rintro e w6 ⟨rfl, rfl⟩
            go_wp2_with fail
            go_ret
            exact ⟨rfl, hb⟩
end Go.Proofs.Qxb6615806aMods.Accepts
