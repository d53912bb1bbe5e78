import Derived.Test.Qxb6627432aMaps
namespace Go.Proofs.Qxb6627432a
open Go.RowKit Go.Maps

set_option maxHeartbeats 400000 in
theorem new16 (a : Option Addr) (n c B : Nat) (w : World) :
    Calls Try.prog 16 #[.slice a n c, .map (some B)] w fun e w' => e = .returned (.pointer (some ⟨w.heap.size, 0, none⟩)) ∧ w' = w.alloc (.cells #[.slice a n c, .map (some B)] 45) := by
  go_enter Try.func16, Try.ntmps16
  go_wp2
  go_ret
  exact ⟨rfl, rfl⟩

/-- What the pointer to a catalogue leads to. -/
def CatOk (w : World) (Pb n : Nat) (L : List Ky) : Prop :=
  ∃ a c B nn, w.cell? ⟨Pb, 0, none⟩ = some (.slice a n c) ∧ w.cell? ⟨Pb, 1, none⟩ = some (.map (some B)) ∧ KCells w a L ∧ Idx w B nn L ∧ Distinct L ∧ Pb < w.heap.size
def CatPost (w : World) (n : Nat) (L : List Ky) (e : Ending) (w' : World) : Prop :=
  Below w.heap.size w w' ∧ (e = .returned (.tuple #[.pointer none, .bool false]) ∨ ∃ Pb, e = .returned (.tuple #[.pointer (some ⟨Pb, 0, none⟩), .bool true]) ∧ CatOk w' Pb n L)

theorem distinct_snoc {M : List Ky} {q : Ky} (h : Distinct M) (hq : inC M q = false) : Distinct (M ++ [q]) := by
  intro i j hi hj he
  rw [keq_iff] at he
  simp at hi hj
  have g : ∀ i, i < M.length → (M ++ [q]).getD i nul = M.getD i nul := fun i hi => by simp [List.getElem?_append_left hi]
  have g' : (M ++ [q]).getD M.length nul = q := by simp
  have no : ∀ i, i < M.length → M.getD i nul ≠ q := fun i hi e => by
    rw [inC_iff.2 (e ▸ getD_mem hi)] at hq; cases hq
  rcases Nat.lt_or_ge i M.length with h1 | h1
  · rcases Nat.lt_or_ge j M.length with h2 | h2
    · rw [g i h1, g j h2] at he
      exact h i j h1 h2 (keq_iff.2 he)
    · obtain rfl : j = M.length := by omega
      rw [g i h1, g'] at he
      exact absurd he (no i h1)
  · obtain rfl : i = M.length := by omega
    rcases Nat.lt_or_ge j M.length with h2 | h2
    · rw [g j h2, g'] at he
      exact absurd he.symm (no j h2)
    · omega
theorem distinct_nil : Distinct [] := fun i j hi => absurd hi (by simp)

set_option maxHeartbeats 1000000 in
theorem cat7 (a : Option Addr) (n c : Nat) (L : List Ky) (HL : Hid (L.length = n)) (w : World) (hn : n ≤ 4096) (ha : a = none → n = 0 ∧ c = 0) (hs : ∀ q ∈ L, Sz q) (hc : KCells w a L) :
    Calls Try.prog 7 #[.slice a n c] w fun e w' => CatPost w n L e w' := by
  have hmm := run_make40 n
  go_enter Try.func7, Try.ntmps7
  go_wp2_with fail
  refine (keys9_any a n c L HL w hn ha hc).mono ?_
  rintro e w1 ⟨a', c', rfl, hc1, _, _, hspot, _, hb1⟩
  go_wp2
  rcases hc1.form with rfl | ⟨b, off, rfl, hb, hcell⟩
  · obtain rfl : n = 0 := HL.out.symm
    refine wp_loop_rounds 1 ?_
    rw [rounds_succ]
    go_wp2_with (go_at_call 16; refine (new16 _ _ _ _ _).mono ?_; rintro e w3 ⟨rfl, rfl⟩)
    go_ret2
    have hbe : Below w.heap.size w ((w1.alloc (.map #[] 0)).alloc (.cells #[.slice a' 0 c', .map (some w1.heap.size)] 45)) :=
      (hb1.alloc (hb1.size) _).alloc (by have := hb1.size; simp; omega) _
    refine ⟨hbe, .inr ⟨_, rfl, a', c', w1.heap.size, 0, by simp, by simp, no_keys _ _, ?_, distinct_nil, by simp⟩⟩
    exact (Idx.made w1).below ((Below.refl _ _).alloc (Nat.le_refl _) _)
  · rw [HL.out] at hcell
    go_loopw [6] (fun i wr => ∃ k : Nat, k ≤ n ∧ i = .int .i64 k ∧ Idx wr w1.heap.size k (L.take k) ∧ Hid (Distinct (L.take k)) ∧ Below w1.heap.size w1 wr) (fun i _ => n - (intOf i).toNat)
    case atStart => exact ⟨0, Nat.zero_le _, rfl, Idx.made w1, distinct_nil, (Below.refl _ _).alloc (Nat.le_refl _) _⟩
    case round =>
      obtain ⟨k, hk, rfl, hidx, hdis, hB⟩ := hrel
      by_cases hlt : k < n
      · obtain ⟨c1, c2⟩ := hcell k hlt
        rw [← hB.cell (p := ⟨b, off + k * 2, none⟩) hb] at c1
        rw [← hB.cell (p := ⟨b, off + k * 2 + 1, none⟩) hb] at c2
        have hkL : k < L.length := by rw [HL.out]; exact hlt
        have hsq := hs _ (getD_mem hkL)
        have hsn : Hid (L.take (k + 1) = L.take k ++ [L.getD k nul]) := take_snoc hkL
        have hlen : (L.take k).length = k := by rw [List.length_take]; omega
        generalize L.getD k nul = r at *
        obtain ⟨r1, r2⟩ := r
        simp only at c1 c2
        have HI : Hid (Idx wr w1.heap.size k (L.take k)) := hidx
        clear hidx hkL
        cases hin : inC (L.take k) (r1, r2) with
        | true =>
          obtain ⟨i, hi, hie⟩ := mem_getD (inC_iff.1 hin)
          have hlook := HI.out.yes hi hie hsq
          clear hie hlen hcell
          go_wp2
          go_ret2
          exact ⟨hb1.trans (hB.mono hb1.size), .inl rfl⟩
        | false =>
          have hlook := HI.out.no hin hsq
          obtain ⟨w2, hrun, hidx2, hgrow⟩ := HI.out.put hin hsq (by omega) (by omega)
          rw [hlen] at hrun
          clear hlen hcell
          have hB2 : Below w1.heap.size w1 w2 := hB.grown hgrow hB.size (by simp)
          go_wp2
          go_roundw
          case rel => exact ⟨k + 1, by omega, by go_num, by rw [hsn.out]; exact hidx2, by rw [hsn.out]; exact distinct_snoc hdis.out hin, hB2⟩
          case measure => simp [intOf]; omega
      · obtain rfl : k = n := by omega
        have e : L.take k = L := List.take_of_length_le (by rw [HL.out]; exact Nat.le_refl _)
        rw [e] at hidx hdis
        have HI : Hid (Idx wr w1.heap.size k L) := hidx
        clear hidx e
        go_wp2_with (go_at_call 16; refine (new16 _ _ _ _ _).mono ?_; rintro e w3 ⟨rfl, rfl⟩)
        go_ret2
        have hw : Below wr.heap.size wr (wr.alloc (.cells #[.slice (some ⟨b, off, none⟩) k c', .map (some w1.heap.size)] 45)) := (Below.refl _ _).alloc (Nat.le_refl _) _
        refine ⟨(hb1.trans (hB.mono hb1.size)).alloc (by have := hb1.size; have := hB.size; omega) _, .inr ⟨_, rfl, some ⟨b, off, none⟩, c', w1.heap.size, k, by simp, by simp, ?_, HI.out.below hw, hdis.out, by simp⟩⟩
        exact (hc1.below hB).below hw
end Go.Proofs.Qxb6627432a
