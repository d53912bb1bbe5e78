import Derived.Test.Qxb6630829aWalksB
import Derived.Laws.CopyOwn
namespace Go.Proofs.Qxb6630829a
open Go.RowKit

theorem Try.info9 : (Try.prog.info? 9).map (fun i => (i.zero, i.size, i.bytes)) = some (some (.string ⟨#[]⟩), 1, 16) := by kernel_rfl

theorem own_block {w : World} {base e g n : Nat} {xs : List Value} (h : w.ownsRow base e 1 (.slice (some ⟨g, 0, none⟩) n n) n xs) :
    ∃ cur : List Value, w.heap[g]? = some (.cells cur.toArray e (0, 0)) ∧ cur.length = n := by
  rcases h.2 with ⟨h, _⟩ | ⟨g', cap, cur, hv, _, hg, _, _, hs, _⟩
  · simp at h
  · simp only [Value.slice.injEq, Option.some.injEq, Addr.mk.injEq, and_true, true_and] at hv
    obtain ⟨rfl, rfl⟩ := hv
    exact ⟨cur.toList, by simpa using hg, by simpa using hs⟩

theorem copied {w : World} {e g : Nat} {cur : List Value} {L : List ByteArray} (hl : cur.length = L.length)
    (h : Hid (w.heap[g]? = some (.cells (splice cur 0 (L.map Value.string)).toArray e (0, 0)))) : Cells w (some ⟨g, 0, none⟩) L := by
  intro i hi
  refine ⟨g, 0, rfl, ?_⟩
  rw [cell_of_row w g (0 + i) _ e (0, 0) h.out]
  simp [splice, hl, hi]

theorem src_cells {w w1 : World} {ad : Addr} {L : List ByteArray} (hc : Cells w (some ad) L) (hb : Below w.heap.size w w1) :
    ∀ j v, (L.map Value.string)[j]? = some v → w1.cell? (ad.add j) = some v := by
  intro j v hv
  obtain ⟨hj, he⟩ := List.getElem?_eq_some_iff.1 hv
  simp only [List.length_map] at hj
  obtain ⟨b, off, h1, h2⟩ := hc j hj
  simp only [Option.some.injEq] at h1
  subst h1
  have hlt := World.block_lt_of_cell? w _ h2
  have : w1.cell? ⟨b, off + j, none⟩ = some v := by
    rw [hb.cell hlt, h2, ← he]
    simp [hj]
  unfold Addr.add
  split
  · rename_i h0
    obtain rfl : j = 0 := by simpa using h0
    simpa using this
  · exact this

theorem Cells.drop {w : World} {g : Nat} {L : List ByteArray} (h : Cells w (some ⟨g, 0, none⟩) L) (m : Nat) : Cells w (some ⟨g, m, none⟩) (L.drop m) := by
  intro i hi
  simp only [List.length_drop] at hi
  obtain ⟨b, off, h1, h2⟩ := h (m + i) (by omega)
  simp only [Option.some.injEq, Addr.mk.injEq, and_true] at h1
  obtain ⟨rfl, rfl⟩ := h1
  refine ⟨g, m, rfl, ?_⟩
  rw [Nat.zero_add] at h2
  rw [h2]
  simp
theorem Cells.dropAll {w : World} {a : Option Addr} {L : List ByteArray} {m : Nat} (h : L.length = m) : Cells w a (L.drop m) := by
  intro i hi
  simp only [List.length_drop] at hi
  omega

theorem Cells.take {w : World} {a : Option Addr} {L : List ByteArray} (h : Cells w a L) (m : Nat) : Cells w a (L.take m) := by
  intro i hi
  simp only [List.length_take] at hi
  obtain ⟨b, off, h1, h2⟩ := h i (by omega)
  refine ⟨b, off, h1, ?_⟩
  rw [h2]
  simp [show i < m by omega]

theorem no_cells (w : World) (a : Option Addr) : Cells w a [] := fun i hi => absurd hi (by simp)


/-- WHAT THE WALK IS TOLD OF A []string THAT CAME IN: it is nil, or it leads to the strings L. -/
def IsStrs (w : World) (a : Option Addr) (n c : Nat) (L : List ByteArray) : Prop :=
  L.length = n ∧ n ≤ 9223372036854775807 ∧ (a = none → n = 0 ∧ c = 0) ∧ Cells w a L ∧ ∀ s ∈ L, s.size ≤ 9223372036854775807
end Go.Proofs.Qxb6630829a
