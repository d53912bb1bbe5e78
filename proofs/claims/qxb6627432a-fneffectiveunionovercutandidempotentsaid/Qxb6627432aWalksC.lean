import Derived.Test.Qxb6627432aWalksB
import Derived.Deep.OwnRows
namespace Go.Proofs.Qxb6627432a
open Go.RowKit

theorem Try.info42 : (Try.prog.info? 42).map (fun i => (i.zero, i.size, i.bytes)) = some (some (.agg #[.string ⟨#[]⟩, .string ⟨#[]⟩]), 2, 32) := by kernel_rfl

/-- The cells of a made row of n keys. -/
def made (n : Nat) : Array Value := madeCells (Value.agg #[.string ⟨#[]⟩, .string ⟨#[]⟩]).cells (n * 2)
theorem run_make42 (n : Nat) (hn : n ≤ 4096) (w : World) : (Instr.makeSlice 28 (.int .i64 (n : Int)) (.int .i64 (n : Int))).run Try.prog w = .ok (.slice (some ⟨w.heap.size, 0, none⟩) n n) (w.alloc (.cells (made n) 42)) := by
  obtain ⟨i, hi, h0, h1, h2⟩ := info_parts Try.info42
  have := run_make (P := Try.prog) w 28 42 i _ Try.underlying28 hi h0 .i64 .i64 n n (by omega) (by omega) (by rw [h2]; omega) (by omega)
  rw [h1] at this
  simpa [made] using this

/-- What cell j of the row holds behind k rounds. -/
def rowAt (L : List Ky) (k j : Nat) : Value := if j < k * 2 then .string (if j % 2 = 0 then (L.getD (j / 2) nul).1 else (L.getD (j / 2) nul).2) else .string ⟨#[]⟩
theorem made_row (w : World) (L : List Ky) (n : Nat) : (w.alloc (.cells (made n) 42)).rowIs w.heap.size 42 (n * 2) (rowAt L 0) := by
  refine ⟨made n, heap_alloc_new w _, by simp [made, size_madeCells], fun i hi => ?_⟩
  have e : ∀ i, (#[Value.string ⟨#[]⟩, Value.string ⟨#[]⟩] : Array Value)[i % 2]! = Value.string ⟨#[]⟩ := by
    intro i
    rcases Nat.mod_two_eq_zero_or_one i with h | h <;> rw [h] <;> rfl
  simp only [made, madeCells, Value.cells, rowAt, Nat.zero_mul, Nat.not_lt_zero, if_false]
  rw [Array.getElem?_map, Array.getElem?_range, if_pos hi]
  exact congrArg some (e i)
theorem rowAt_step {L : List Ky} {k : Nat} {r1 r2 : ByteArray} (hr : L.getD k nul = (r1, r2)) (j : Nat) :
    (if j = k * 2 + 1 then Value.string r2 else if j = k * 2 then Value.string r1 else rowAt L k j) = rowAt L (k + 1) j := by
  unfold rowAt
  by_cases h1 : j = k * 2 + 1
  · subst h1
    rw [if_pos rfl, if_pos (by omega), if_neg (by omega), show (k * 2 + 1) / 2 = k by omega, hr]
  · rw [if_neg h1]
    by_cases h2 : j = k * 2
    · subst h2
      rw [if_pos rfl, if_pos (by omega), if_pos (by omega), show k * 2 / 2 = k by omega, hr]
    · rw [if_neg h2]
      by_cases h3 : j < k * 2
      · rw [if_pos h3, if_pos (show j < (k + 1) * 2 by omega)]
      · rw [if_neg h3, if_neg (show ¬ j < (k + 1) * 2 by omega)]
theorem row_step {w : World} {B n k : Nat} {L : List Ky} {r1 r2 : ByteArray} (h : w.rowIs B 42 (n * 2) (rowAt L k)) (hr : L.getD k nul = (r1, r2)) :
    ((w.setCell ⟨B, k * 2, none⟩ (.string r1)).setCell ⟨B, k * 2 + 1, none⟩ (.string r2)).rowIs B 42 (n * 2) (rowAt L (k + 1)) :=
  ((h.set (k * 2) (.string r1)).set (k * 2 + 1) (.string r2)).congr fun j _ => rowAt_step hr j
theorem KCells.of_row {w : World} {B n : Nat} {L : List Ky} (hl : L.length = n) (h : w.rowIs B 42 (n * 2) (rowAt L n)) : KCells w (some ⟨B, 0, none⟩) L := by
  intro i hi
  refine ⟨B, 0, rfl, ?_, ?_⟩
  · rw [h.cell (by omega), Nat.zero_add]
    unfold rowAt
    rw [if_pos (by omega), if_pos (by omega), show i * 2 / 2 = i by omega]
  · rw [h.cell (by omega), Nat.zero_add]
    unfold rowAt
    rw [if_pos (by omega), if_neg (by omega), show (i * 2 + 1) / 2 = i by omega]

set_option maxHeartbeats 1000000 in
theorem keys9 (ad : Addr) (n c : Nat) (L : List Ky) (HL : Hid (L.length = n)) (w : World) (hn : n ≤ 4096) (hc : KCells w (some ad) L) :
    Calls Try.prog 9 #[.slice (some ad) n c] w fun e w' => e = .returned (.slice (some ⟨w.heap.size, 0, none⟩) n n) ∧ w'.rowIs w.heap.size 42 (n * 2) (rowAt L n) ∧ Below w.heap.size w w' := by
  have hmk := run_make42 n hn
  have hnl := fun (w : World) (a : Option Addr) (n c : Nat) => Lib.run_eql_slice_nil (P := Try.prog) w 22 34 a n c 0 0 Try.underlying22
  rcases hc.form with rfl | ⟨b, off, h1, hb, hcell⟩
  · obtain rfl : n = 0 := HL.out.symm
    have hmk0 : ∀ w, (Instr.makeSlice 28 (.int .i64 0) (.int .i64 0)).run Try.prog w = .ok (.slice (some ⟨w.heap.size, 0, none⟩) 0 0) (w.alloc (.cells (made 0) 42)) := fun w => run_make42 0 (by omega) w
    have hrow := made_row w [] 0
    have hR : Hid ((w.alloc (.cells (made 0) 42)).rowIs w.heap.size 42 (0 * 2) (rowAt [] 0)) := hrow
    clear hrow
    go_enter Try.func9, Try.ntmps9
    go_wp2
    refine wp_loop_rounds 1 ?_
    rw [rounds_succ]
    go_wp2
    go_ret
    exact ⟨rfl, hR.out, (Below.refl _ _).alloc (Nat.le_refl _) _⟩
  · simp only [Option.some.injEq] at h1
    subst h1
    rw [HL.out] at hcell
    clear hc
    go_enter Try.func9, Try.ntmps9
    go_wp2
    go_loopw [4] (fun i wr => ∃ k : Nat, k ≤ n ∧ i = .int .i64 k ∧ wr.rowIs w.heap.size 42 (n * 2) (rowAt L k) ∧ Below w.heap.size w wr) (fun i _ => n - (intOf i).toNat)
    case atStart => exact ⟨0, Nat.zero_le _, rfl, made_row w L n, (Below.refl _ _).alloc (Nat.le_refl _) _⟩
    case round =>
      obtain ⟨k, hk, rfl, hrow, hB⟩ := hrel
      by_cases hlt : k < n
      · obtain ⟨c1, c2⟩ := hcell k hlt
        rw [← hB.cell (p := ⟨b, off + k * 2, none⟩) hb] at c1
        rw [← hB.cell (p := ⟨b, off + k * 2 + 1, none⟩) hb] at c2
        have f1 := hrow.frozen (k * 2)
        have f2 := hrow.frozen (k * 2 + 1)
        have d1 := hrow.cell (i := k * 2) (by omega)
        have d2 := hrow.cell (i := k * 2 + 1) (by omega)
        generalize rowAt L k (k * 2) = o1 at d1
        generalize rowAt L k (k * 2 + 1) = o2 at d2
        have hR : Hid (wr.rowIs w.heap.size 42 (n * 2) (rowAt L k)) := hrow
        clear hrow hcell
        generalize hr : L.getD k nul = r at *
        obtain ⟨r1, r2⟩ := r
        have HR : Hid (L.getD k nul = (r1, r2)) := hr
        clear hr
        simp only at c1 c2
        go_wp2
        go_region
        go_wp2
        go_roundw
        case rel => exact ⟨k + 1, by omega, by go_num, row_step hR.out HR.out, ((hB.setCell (Nat.le_refl _) _).setCell (Nat.le_refl _) _).drew⟩
        case measure => simp [intOf]; omega
      · obtain rfl : k = n := by omega
        go_wp2
        go_ret
        exact ⟨rfl, hrow, hB⟩

set_option maxHeartbeats 1000000 in
theorem keys9_nil (w : World) : Calls Try.prog 9 #[.slice none 0 0] w fun e w' => e = .returned (.slice none 0 0) ∧ w' = w := by
  have hnl := fun (w : World) (a : Option Addr) (n c : Nat) => Lib.run_eql_slice_nil (P := Try.prog) w 22 34 a n c 0 0 Try.underlying22
  go_enter Try.func9, Try.ntmps9
  go_wp2
  go_ret
  exact ⟨rfl, rfl⟩

/-- A copied list of keys: nil stays nil. -/
def Copied (w : World) (a : Option Addr) (n : Nat) (L : List Ky) (e : Ending) (w' : World) : Prop :=
  ∃ a' c', e = .returned (.slice a' n c') ∧ KCells w' a' L ∧ (a' = none ↔ a = none) ∧ (a = none → c' = 0) ∧ (∀ x, a' = some x → x.spot = none ∧ w.heap.size ≤ x.block) ∧ n ≤ c' ∧ Below w.heap.size w w'
theorem keys9_any (a : Option Addr) (n c : Nat) (L : List Ky) (HL : Hid (L.length = n)) (w : World) (hn : n ≤ 4096) (ha : a = none → n = 0 ∧ c = 0) (hc : KCells w a L) :
    Calls Try.prog 9 #[.slice a n c] w fun e w' => Copied w a n L e w' := by
  cases a with
  | none =>
    obtain ⟨rfl, rfl⟩ := ha rfl
    obtain rfl : L = [] := List.eq_nil_of_length_eq_zero HL.out
    refine (keys9_nil w).mono ?_
    rintro e w' ⟨rfl, rfl⟩
    exact ⟨none, 0, rfl, no_keys _ _, Iff.rfl, fun _ => rfl, fun x hx => by simp at hx, Nat.le_refl _, Below.refl _ _⟩
  | some ad =>
    refine (keys9 ad n c L HL w hn hc).mono ?_
    rintro e w' ⟨rfl, hrow, hb⟩
    exact ⟨_, _, rfl, KCells.of_row HL.out hrow, by simp, fun h => by simp at h, fun x hx => by simp at hx; subst hx; exact ⟨rfl, Nat.le_refl _⟩, Nat.le_refl _, hb⟩
end Go.Proofs.Qxb6627432a
