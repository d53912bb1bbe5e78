import Derived.Test.Qxb6627475aRows
import Derived.Test.Qxb6627475aSame
import Derived.WalkKit
import Derived.ProofKit
import Derived.OpenShut
import Derived.ShutString
import Derived.ChangeOld
import Derived.Below
import Derived.Deep.Slices
namespace Go.Proofs.Qxb6627475a
open Go.ChangeShapes Go.WideShapes Go.ChangeAt Go.RowKit

theorem own : ownKnob Try.prog.godebug = none := by kernel_rfl
theorem laidOut : laidOutB Try.prog = true := by kernel_rfl
theorem Try.cells31 : Try.prog.cellsOf 31 = 5 := by kernel_rfl
theorem Try.cells4 : Try.prog.cellsOf 4 = 1 := by kernel_rfl

/-- WHAT THE WALK IS TOLD OF A []SeatIn THAT CAME IN. -/
def IsSeats (w : World) (a : Option Addr) (n c : Nat) (S : List Se) : Prop :=
  S.length = n ∧ n ≤ 9223372036854775807 ∧ (a = none → n = 0 ∧ c = 0) ∧ SCells w a S

theorem five {cs : List Value} (h : cs.length = 5) (hb : ∀ j, j < 5 → ∃ b, (cs.drop j).take 1 = [Value.bool b]) : ∃ s : Se, cs = [.bool s.1, .bool s.2.1, .bool s.2.2.1, .bool s.2.2.2.1, .bool s.2.2.2.2] := by
  match cs, h with
  | [c0, c1, c2, c3, c4], _ =>
    obtain ⟨b0, h0⟩ := hb 0 (by omega)
    obtain ⟨b1, h1⟩ := hb 1 (by omega)
    obtain ⟨b2, h2⟩ := hb 2 (by omega)
    obtain ⟨b3, h3⟩ := hb 3 (by omega)
    obtain ⟨b4, h4⟩ := hb 4 (by omega)
    simp at h0 h1 h2 h3 h4
    exact ⟨(b0, b1, b2, b3, b4), by rw [h0, h1, h2, h3, h4]⟩

theorem seat_cells {H : Type} {enc : TypeId × Value → H} {W : World} {base fuel : Nat} {spare : Nat → Bool} {held : Bool} {cs : List Value} {x : DataW H × List MemPlace}
    (h : DataW.trod enc Try.prog W base spare held fuel 31 cs = some x) : ∃ s : Se, cs = [.bool s.1, .bool s.2.1, .bool s.2.2.1, .bool s.2.2.2.1, .bool s.2.2.2.2] := by
  obtain ⟨xs, n, _, _, hl, hlen, hf⟩ := DataW.trod_struct Try.underlying31 h
  rw [Try.cells31] at hl
  have hx : ∀ j, j < 5 → ∃ y, xs[j]? = some y := fun j hj => ⟨xs[j]'(by rw [hlen]; exact hj), List.getElem?_eq_getElem _⟩
  have g : ∀ j, (∃ y, DataW.trod enc Try.prog W base spare held n 4 ((cs.drop j).take 1) = some y) → ∃ b, (cs.drop j).take 1 = [Value.bool b] := fun j ⟨y, hy⟩ => by
    obtain ⟨b, hb, _⟩ := DataW.trod_bool Try.underlying4 hy
    exact ⟨b, hb⟩
  refine five hl fun j hj => g j ?_
  obtain ⟨y, hy⟩ := hx j hj
  refine ⟨y, ?_⟩
  rw [← hy]
  match j, hj with
  | 0, _ => exact Try.cells4 ▸ hf 0 _ rfl
  | 1, _ => exact Try.cells4 ▸ hf 1 _ rfl
  | 2, _ => exact Try.cells4 ▸ hf 2 _ rfl
  | 3, _ => exact Try.cells4 ▸ hf 3 _ rfl
  | 4, _ => exact Try.cells4 ▸ hf 4 _ rfl

theorem is_seats {H : Type} {enc : TypeId × Value → H} {W : World} {base fuel : Nat} {held : Bool} {a : Option Addr} {n c : Nat} {x : DataW H × List MemPlace}
    (hf : DataW.trod enc Try.prog W base (fun _ => true) held fuel 22 [.slice a n c] = some x) : ∃ S, IsSeats W a n c S := by
  rcases Deep.open_slice Try.underlying22 hf with ⟨hcs, _⟩ | ⟨x, l, cc, m, fl, D, Pl, hcs, _, hl, hm, hz, _, hcell⟩
  · simp only [List.cons.injEq, Value.slice.injEq, and_true] at hcs
    obtain ⟨rfl, rfl, rfl⟩ := hcs
    exact ⟨[], rfl, by omega, fun _ => ⟨rfl, rfl⟩, no_seats _ _⟩
  · simp only [List.cons.injEq, Value.slice.injEq, and_true] at hcs
    obtain ⟨rfl, rfl, rfl⟩ := hcs
    simp only [if_true] at hz
    rw [hz, Try.cells31] at hcell
    have each : ∀ i, i < c → ∃ s : Se, ∀ j, j < 5 → W.cell? ((x.add (i * 5)).add j) = some (cellOf s j) := fun i hi => by
      obtain ⟨cs', h1, h2⟩ := hcell i hi
      obtain ⟨s, rfl⟩ := seat_cells h2
      refine ⟨s, fun j hj => ?_⟩
      rw [(World.cells?_some h1).2.2 j hj]
      match j, hj with
      | 0, _ => rfl
      | 1, _ => rfl
      | 2, _ => rfl
      | 3, _ => rfl
      | 4, _ => rfl
    obtain ⟨Q, hQ⟩ := Deep.choose_lt each
    unfold maxLen at hm
    have gd : ∀ i, i < n → ((List.range n).map Q).getD i nul = Q i := fun i hi => by simp [hi]
    refine ⟨(List.range n).map Q, by simp, by omega, fun h => by simp at h, fun i hi => ?_⟩
    simp only [List.length_map, List.length_range] at hi
    obtain ⟨b, off, spot⟩ := x
    have hspot : spot = none := by
      have := hQ 0 (by omega) 0 (by omega)
      simpa [Addr.add] using World.cell?_spot this
    subst hspot
    have q := hQ i (by omega)
    rw [Go.WideShapes.add_plain] at q
    rw [gd i hi]
    have q' : ∀ j, j < 5 → W.cell? ⟨b, off + i * 5 + j, none⟩ = some (cellOf (Q i) j) := fun j hj => by rw [← Go.WideShapes.add_plain]; exact q j hj
    exact ⟨b, off, rfl, q' 0 (by omega), q' 1 (by omega), q' 2 (by omega), q' 3 (by omega), q' 4 (by omega)⟩
end Go.Proofs.Qxb6627475a
