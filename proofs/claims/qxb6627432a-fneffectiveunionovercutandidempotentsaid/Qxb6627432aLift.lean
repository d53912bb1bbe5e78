import Derived.Test.Qxb6627432aRows
import Derived.Test.Qxb6627432aLawParts
import Derived.WalkKit
import Derived.ProofKit
import Derived.OpenShut
import Derived.ShutString
import Derived.ChangeOld
import Derived.Below
import Derived.Deep.SlicePairs
namespace Go.Proofs.Qxb6627432a
open Go.ChangeShapes Go.WideShapes Go.ChangeAt Go.RowKit

theorem own : ownKnob Try.prog.godebug = none := by kernel_rfl
theorem Try.cells34 : Try.prog.cellsOf 34 = 2 := by kernel_rfl

/-- WHAT THE WALK IS TOLD OF A []ZKey THAT CAME IN. -/
def IsKeys (w : World) (a : Option Addr) (n c : Nat) (L : List Ky) : Prop :=
  L.length = n ∧ n ≤ 9223372036854775807 ∧ (a = none → n = 0 ∧ c = 0) ∧ (∀ q ∈ L, Sz q) ∧ KCells w a L

theorem is_keys {H : Type} {enc : TypeId × Value → H} {W : World} {base fuel : Nat} {held : Bool} {a : Option Addr} {n c : Nat} {x : DataW H × List MemPlace}
    (hf : DataW.trod enc Try.prog W base (fun _ => true) held fuel 22 [.slice a n c] = some x) : ∃ L, IsKeys W a n c L := by
  rcases Deep.open_slice_pairs Try.underlying22 Try.underlying34 Try.cells34 rfl rfl Try.cells9 Try.cells9 hf with ⟨hcs, _⟩ | ⟨x, l, cc, m, fl, V0, V1, D0, D1, P0, P1, hcs, _, hl, hm, hz, _, hcell⟩
  · simp only [List.cons.injEq, Value.slice.injEq, and_true] at hcs
    obtain ⟨rfl, rfl, rfl⟩ := hcs
    exact ⟨[], rfl, by omega, fun _ => ⟨rfl, rfl⟩, by simp, no_keys _ _⟩
  · simp only [List.cons.injEq, Value.slice.injEq, and_true] at hcs
    obtain ⟨rfl, rfl, rfl⟩ := hcs
    simp only [if_true] at hz
    rw [hz] at hcell
    have each : ∀ i, i < c → ∃ q : Ky, V0 i = .string q.1 ∧ V1 i = .string q.2 ∧ Sz q := fun i hi => by
      obtain ⟨_, _, h0, h1⟩ := hcell i hi
      obtain ⟨s, e0, _, w0⟩ := DataW.trod_string Try.underlying9 h0
      obtain ⟨t, e1, _, w1⟩ := DataW.trod_string Try.underlying9 h1
      exact ⟨(s, t), by simpa using e0, by simpa using e1, w0, w1⟩
    obtain ⟨Q, hQ⟩ := Deep.choose_lt each
    unfold maxLen at hm
    have gd : ∀ i, i < n → ((List.range n).map Q).getD i nul = Q i := fun i hi => by simp [hi]
    refine ⟨(List.range n).map Q, by simp, by omega, fun h => by simp at h, fun q hq => ?_, fun i hi => ?_⟩
    · obtain ⟨i, hi, rfl⟩ := List.mem_map.1 hq
      exact (hQ i (by have := List.mem_range.1 hi; omega)).2.2
    · simp only [List.length_map, List.length_range] at hi
      obtain ⟨h1, h2, _, _⟩ := hcell i (by omega)
      obtain ⟨e1, e2, _⟩ := hQ i (by omega)
      obtain ⟨b, off, spot⟩ := x
      have hspot : spot = none := by
        have := (hcell 0 (by omega)).1
        simpa [Addr.add] using World.cell?_spot this
      subst hspot
      rw [Go.WideShapes.add_plain] at h1 h2
      refine ⟨b, off, rfl, ?_, ?_⟩
      · rw [h1, e1, gd i hi]
      · rw [show off + i * 2 + 1 = off + (i * 2 + 1) by omega, h2, e2, gd i hi]
end Go.Proofs.Qxb6627432a
