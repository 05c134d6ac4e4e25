/-
  A SLICE OF SEGMENTS THAT CAN BE READ AS DATA, OPENED: what the walks are told of it. Own work.
-/
import Derived.Test.Qxb6615806aModsSegs
import Derived.ProofKit
import Derived.OpenShut
import Derived.ChangeOld
import Derived.ChangeSlices
import Derived.Below
import Derived.Carry
namespace Go.Proofs.Qxb6615806aMods.Opened
open Go.ChangeShapes Go.WideShapes Go.ChangeAt Go.RowKit
set_option linter.unusedVariables false

theorem own : ownKnob Trym.prog.godebug = none := by kernel_rfl
theorem laidOut : laidOutB Trym.prog = true := by kernel_rfl
theorem cells31 : Trym.prog.cellsOf 31 = 2 := by kernel_rfl
theorem cells3 : Trym.prog.cellsOf 3 = 1 := by kernel_rfl
theorem cells9 : Trym.prog.cellsOf 9 = 1 := by kernel_rfl

theorem two {W : World} {base : Nat} {a : Addr} {u v : Value} (h : W.cells? base a 2 = some [u, v]) : W.cell? a = some u ∧ W.cell? (a.add 1) = some v := by
  obtain ⟨_, _, hc⟩ := World.cells?_some h
  have h0 := hc 0 (by omega)
  have h1 := hc 1 (by omega)
  exact ⟨by simpa [Addr.add] using h0, by simpa using h1⟩

/-- Two cells that read as a segment: a number and a string. -/
theorem seg {H : Type} {enc : TypeId × Value → H} {W : World} {n : Nat} {cs : List Value} {y : DataW H × List MemPlace}
    (h : DataW.trod enc Trym.prog W 0 (fun _ => true) true n 31 cs = some y) : ∃ q s, cs = [.int .i64 q, .string s] ∧ s.size ≤ maxLen ∧ -9223372036854775808 ≤ q ∧ q ≤ 9223372036854775807 := by
  obtain ⟨xs, m, _, _, hlen, hxs, hf⟩ := DataW.trod_struct Trym.underlying31 h
  rw [cells31] at hlen
  have hxs2 : xs.length = 2 := hxs
  have f0 := hf 0 _ rfl
  have f1 := hf 1 _ rfl
  rw [List.getElem?_eq_getElem (by omega : 0 < xs.length)] at f0
  rw [List.getElem?_eq_getElem (by omega : 1 < xs.length)] at f1
  obtain ⟨q, hq, _, hw⟩ := DataW.trod_int Trym.underlying3 f0
  obtain ⟨s, hs, _, hsz⟩ := DataW.trod_string Trym.underlying9 f1
  match cs, hlen, hq, hs with
  | [u, v], _, hq, hs =>
    simp [cells3] at hq
    simp [cells9] at hs
    subst hq; subst hs
    refine ⟨q, s, rfl, hsz, ?_⟩
    simp [Lit.wf, IntKind.min, IntKind.max, IntKind.bits, IntKind.signed] at hw
    omega

/-- A slice of segments that can be read. -/
theorem row {H : Type} {enc : TypeId × Value → H} {W : World} {a : Option Addr} {len cap : Nat} {d : DataW H} {p : List MemPlace}
    (h : DataW.Trod enc Trym.prog W 0 (fun _ => true) true 22 (.slice a len cap) d p) : len ≤ maxLen ∧ (a = none → len = 0 ∧ cap = 0) ∧ ∃ part text, Segs.Row W a len part text := by
  obtain ⟨fuel, hf⟩ := h
  rcases DataW.trod_slice Trym.underlying22 hf with ⟨hcs, _⟩ | ⟨x, l, c, elems, rest, n, _, hcs, _, _, hl, hm, hlen, hel, _⟩
  · simp [Value.cells] at hcs
    obtain ⟨rfl, rfl, rfl⟩ := hcs
    exact ⟨Nat.zero_le _, fun _ => ⟨rfl, rfl⟩, fun _ => 0, fun _ => ByteArray.empty, .inl rfl⟩
  · simp [Value.cells] at hcs
    obtain ⟨rfl, rfl, rfl⟩ := hcs
    refine ⟨Nat.le_trans hl hm, fun h => by simp at h, ?_⟩
    by_cases h0 : len = 0
    · exact ⟨fun _ => 0, fun _ => ByteArray.empty, .inl h0⟩
    · have each : ∀ i : Nat, ∃ qs : Int × ByteArray, i < len → W.cell? (x.add (i * 2)) = some (.int .i64 qs.1) ∧ W.cell? ((x.add (i * 2)).add 1) = some (.string qs.2) ∧
          qs.2.size ≤ maxLen ∧ -9223372036854775808 ≤ qs.1 ∧ qs.1 ≤ 9223372036854775807 := by
        intro i
        by_cases hi : i < len
        · have hE := hel i hi
          rw [cells31] at hE
          have hi' : i < elems.length := by omega
          rw [List.getElem?_eq_getElem hi', Option.bind_eq_some_iff] at hE
          obtain ⟨cs, hcs, hy⟩ := hE
          obtain ⟨q, s, rfl, hs, hq⟩ := seg hy
          obtain ⟨g0, g1⟩ := two hcs
          exact ⟨(q, s), fun _ => ⟨g0, g1, hs, hq⟩⟩
        · exact ⟨(0, ByteArray.empty), fun h => absurd h hi⟩
      obtain ⟨f, hf⟩ : ∃ f : Nat → Int × ByteArray, ∀ i, i < len → W.cell? (x.add (i * 2)) = some (.int .i64 (f i).1) ∧ W.cell? ((x.add (i * 2)).add 1) = some (.string (f i).2) ∧
          (f i).2.size ≤ maxLen ∧ -9223372036854775808 ≤ (f i).1 ∧ (f i).1 ≤ 9223372036854775807 :=
        ⟨fun i => Classical.choose (each i), fun i => Classical.choose_spec (each i)⟩
      obtain ⟨b, off, spot⟩ := x
      have hc := (hf 0 (by omega)).1
      have hspot : spot = none := by simpa [Addr.add] using World.cell?_spot hc
      subst hspot
      refine ⟨fun i => (f i).1, fun i => (f i).2, .inr ⟨b, off, rfl, fun i hi => ?_⟩⟩
      have := hf i hi
      rw [add_plain, add_plain] at this
      exact this
end Go.Proofs.Qxb6615806aMods.Opened
