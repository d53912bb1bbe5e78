import Derived.Test.Qxb6627475aWalksA
namespace Go.Proofs.Qxb6627475a
open Go.RowKit

theorem Try.info32 : (Try.prog.info? 32).map (fun i => (i.zero, i.size, i.bytes)) = some (some (.agg #[.bool false, .bool false, .bool false, .bool false, .bool false]), 5, 5) := by kernel_rfl
def made (n : Nat) : Array Value := madeCells (Value.agg #[.bool false, .bool false, .bool false, .bool false, .bool false]).cells (n * 5)
theorem run_make24 (n : Nat) (hn : n ≤ 1000000) (w : World) : (Instr.makeSlice 24 (.int .i64 (n : Int)) (.int .i64 (n : Int))).run Try.prog w = .ok (.slice (some ⟨w.heap.size, 0, none⟩) n n) (w.alloc (.cells (made n) 32)) := by
  obtain ⟨i, hi, h0, h1, h2⟩ := info_parts Try.info32
  have := run_make (P := Try.prog) w 24 32 i _ Try.underlying24 hi h0 .i64 .i64 n n (by omega) (by omega) (by rw [h2]; omega) (by omega)
  rw [h1] at this
  simpa [made] using this
theorem run_eql22 (w : World) (a : Option Addr) (n c : Nat) : (binOp .eql 22 (.slice a n c) (.slice none 0 0)).run Try.prog w = .ok (.bool a.isNone) w := Lib.run_eql_slice_nil (P := Try.prog) w 22 31 a n c 0 0 Try.underlying22

/-- What cell j of the row holds behind k rounds. -/
def rowAt (S : List Se) (k j : Nat) : Value := if j < k * 5 then cellOf (S.getD (j / 5) nul) (j % 5) else .bool false
theorem made_row (w : World) (S : List Se) (n : Nat) : (w.alloc (.cells (made n) 32)).rowIs w.heap.size 32 (n * 5) (rowAt S 0) := by
  refine ⟨made n, heap_alloc_new w _, by simp [made, size_madeCells], fun i hi => ?_⟩
  have e : ∀ i, (#[Value.bool false, Value.bool false, Value.bool false, Value.bool false, Value.bool false] : Array Value)[i % 5]! = Value.bool false := by
    intro i
    have h5 : i % 5 < 5 := Nat.mod_lt _ (by omega)
    generalize i % 5 = j at *
    match j, h5 with
    | 0, _ => rfl
    | 1, _ => rfl
    | 2, _ => rfl
    | 3, _ => rfl
    | 4, _ => rfl
  simp only [made, madeCells, Value.cells, rowAt, Nat.zero_mul, Nat.not_lt_zero, if_false]
  rw [Array.getElem?_map, Array.getElem?_range, if_pos hi]
  exact congrArg some (e i)
/-- Five stores. -/
abbrev put5 (w : World) (b o : Nat) (s : Se) : World :=
  ((((w.setCell ⟨b, o, none⟩ (.bool s.1)).setCell ⟨b, o + 1, none⟩ (.bool s.2.1)).setCell ⟨b, o + 2, none⟩ (.bool s.2.2.1)).setCell ⟨b, o + 3, none⟩ (.bool s.2.2.2.1)).setCell ⟨b, o + 4, none⟩ (.bool s.2.2.2.2)
theorem rowAt_step {S : List Se} {k : Nat} {s : Se} (hs : S.getD k nul = s) (j : Nat) :
    (if j = k * 5 + 4 then Value.bool s.2.2.2.2 else if j = k * 5 + 3 then Value.bool s.2.2.2.1 else if j = k * 5 + 2 then Value.bool s.2.2.1 else if j = k * 5 + 1 then Value.bool s.2.1 else if j = k * 5 then Value.bool s.1 else rowAt S k j) = rowAt S (k + 1) j := by
  unfold rowAt
  by_cases hlo : j < k * 5
  · rw [if_neg (by omega), if_neg (by omega), if_neg (by omega), if_neg (by omega), if_neg (by omega), if_pos hlo, if_pos (show j < (k + 1) * 5 by omega)]
  · by_cases hhi : j < (k + 1) * 5
    · obtain ⟨i, hi, rfl⟩ : ∃ i, i < 5 ∧ j = k * 5 + i := ⟨j - k * 5, by omega, by omega⟩
      rw [if_pos hhi, show (k * 5 + i) / 5 = k by omega, show (k * 5 + i) % 5 = i by omega, hs]
      unfold cellOf
      match i, hi with
      | 0, _ => simp
      | 1, _ => simp
      | 2, _ => simp
      | 3, _ => simp
      | 4, _ => simp
    · rw [if_neg (by omega), if_neg (by omega), if_neg (by omega), if_neg (by omega), if_neg (by omega), if_neg hlo, if_neg hhi]
theorem row_step {w : World} {B n k : Nat} {S : List Se} {s : Se} (h : w.rowIs B 32 (n * 5) (rowAt S k)) (hs : S.getD k nul = s) : (put5 w B (k * 5) s).rowIs B 32 (n * 5) (rowAt S (k + 1)) :=
  (((((h.set (k * 5) (.bool s.1)).set (k * 5 + 1) (.bool s.2.1)).set (k * 5 + 2) (.bool s.2.2.1)).set (k * 5 + 3) (.bool s.2.2.2.1)).set (k * 5 + 4) (.bool s.2.2.2.2)).congr fun j _ => rowAt_step hs j
theorem put5_below {B : Nat} {a w : World} {b o : Nat} {s : Se} (h : Below B a w) (hb : B ≤ b) : Below B a (put5 w b o s) :=
  ((((h.setCell (p := ⟨b, o, none⟩) hb _).setCell (p := ⟨b, o + 1, none⟩) hb _).setCell (p := ⟨b, o + 2, none⟩) hb _).setCell (p := ⟨b, o + 3, none⟩) hb _).setCell (p := ⟨b, o + 4, none⟩) hb _
theorem SCells.of_row {w : World} {B n : Nat} {S : List Se} (hl : S.length = n) (h : w.rowIs B 32 (n * 5) (rowAt S n)) : SCells w (some ⟨B, 0, none⟩) S := by
  intro i hi
  have g : ∀ j, j < 5 → w.cell? ⟨B, 0 + i * 5 + j, none⟩ = some (cellOf (S.getD i nul) j) := fun j hj => by
    rw [Nat.zero_add, h.cell (by omega)]
    unfold rowAt
    rw [if_pos (by omega), show (i * 5 + j) / 5 = i by omega, show (i * 5 + j) % 5 = j by omega]
  exact ⟨B, 0, rfl, g 0 (by omega), g 1 (by omega), g 2 (by omega), g 3 (by omega), g 4 (by omega)⟩

set_option maxHeartbeats 2000000 in
theorem seats6 (ad : Addr) (n c : Nat) (S : List Se) (HL : Hid (S.length = n)) (w : World) (hn : n ≤ 131072) (hc : SCells w (some ad) S) :
    Calls Try.prog 6 #[.slice (some ad) n c] w fun e w' => e = .returned (.slice (some ⟨w.heap.size, 0, none⟩) n n) ∧ w'.rowIs w.heap.size 32 (n * 5) (rowAt S n) ∧ Below w.heap.size w w' := by
  have hmk := run_make24 n (by omega)
  have hnl := @run_eql22
  have HC : Hid (SCells w (some ad) S) := hc
  clear hc
  go_enter Try.func6, Try.ntmps6
  go_wp2
  go_loopw [4] (fun i wr => ∃ k : Nat, k ≤ n ∧ i = .int .i64 k ∧ wr.rowIs w.heap.size 32 (n * 5) (rowAt S k) ∧ Below w.heap.size w wr) (fun i _ => n - (intOf i).toNat)
  case atStart => exact ⟨0, Nat.zero_le _, rfl, made_row w S n, (Below.refl _ _).alloc (Nat.le_refl _) _⟩
  case round =>
    obtain ⟨k, hk, rfl, hrow, hB⟩ := hrel
    have HR : Hid (wr.rowIs w.heap.size 32 (n * 5) (rowAt S k)) := hrow
    clear hrow
    by_cases hlt : k < n
    · have HK : Hid (k < S.length) := by rw [Hid, HL.out]; exact hlt
      obtain ⟨b, off, hga, hb, hseat⟩ := HC.out.form HK.out
      obtain ⟨c0, c1, c2, c3, c4⟩ := hseat.below hB hb
      obtain rfl : ad = ⟨b, off, none⟩ := Option.some.inj hga
      clear hseat hga
      have f0 := HR.out.frozen (k * 5)
      have f1 := HR.out.frozen (k * 5 + 1)
      have f2 := HR.out.frozen (k * 5 + 2)
      have f3 := HR.out.frozen (k * 5 + 3)
      have f4 := HR.out.frozen (k * 5 + 4)
      have d0 := HR.out.cell (i := k * 5) (by omega)
      have d1 := HR.out.cell (i := k * 5 + 1) (by omega)
      have d2 := HR.out.cell (i := k * 5 + 2) (by omega)
      have d3 := HR.out.cell (i := k * 5 + 3) (by omega)
      have d4 := HR.out.cell (i := k * 5 + 4) (by omega)
      generalize rowAt S k (k * 5) = o0 at d0
      generalize rowAt S k (k * 5 + 1) = o1 at d1
      generalize rowAt S k (k * 5 + 2) = o2 at d2
      generalize rowAt S k (k * 5 + 3) = o3 at d3
      generalize rowAt S k (k * 5 + 4) = o4 at d4
      generalize hs : S.getD k nul = s at *
      have HS : Hid (S.getD k nul = s) := hs
      clear hs
      obtain ⟨s0, s1, s2, s3, s4⟩ := s
      simp only at c0 c1 c2 c3 c4
      go_wp2
      go_region
      go_wp2
      go_roundw
      case rel => exact ⟨k + 1, by omega, by go_num, (row_step HR.out HS.out).drew, (put5_below (s := (s0, s1, s2, s3, s4)) hB (Nat.le_refl _)).drew⟩
      case measure => simp [intOf]; omega
    · obtain rfl : k = n := by omega
      go_wp2
      go_ret
      exact ⟨rfl, HR.out, hB⟩

set_option maxHeartbeats 1000000 in
theorem seats6_nil (w : World) : Calls Try.prog 6 #[.slice none 0 0] w fun e w' => e = .returned (.slice none 0 0) ∧ w' = w := by
  have hnl := @run_eql22
  go_enter Try.func6, Try.ntmps6
  go_wp2
  go_ret
  exact ⟨rfl, rfl⟩

end Go.Proofs.Qxb6627475a
