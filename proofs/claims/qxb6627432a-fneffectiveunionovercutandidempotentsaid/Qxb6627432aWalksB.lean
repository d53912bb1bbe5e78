import Derived.Test.Qxb6627432aWalksA
namespace Go.Proofs.Qxb6627432a
open Go.RowKit

set_option maxHeartbeats 1000000 in
theorem matches12 (a a' : Option Addr) (n c c' : Nat) (L : List Ky) (HL : Hid (L.length = n)) (w : World) (hn : n ≤ 4096) (hc : KCells w a L) (hc' : KCells w a' L) :
    Calls Try.prog 12 #[.slice a n c, .slice a' n c'] w fun e w' => e = .returned (.bool true) ∧ Below w.heap.size w w' := by
  rcases hc.form with rfl | ⟨b, off, rfl, hb, hcell⟩
  · obtain rfl : n = 0 := HL.out.symm
    go_enter Try.func12, Try.ntmps12
    go_wp2
    refine wp_loop_rounds 1 ?_
    rw [rounds_succ]
    go_wp2
    go_ret
    exact ⟨rfl, Below.refl _ _⟩
  rcases hc'.form with rfl | ⟨b', off', rfl, hb', hcell'⟩
  · obtain rfl : n = 0 := HL.out.symm
    go_enter Try.func12, Try.ntmps12
    go_wp2
    refine wp_loop_rounds 1 ?_
    rw [rounds_succ]
    go_wp2
    go_ret
    exact ⟨rfl, Below.refl _ _⟩
  · rw [HL.out] at hcell hcell'
    clear hc hc'
    go_enter Try.func12, Try.ntmps12
    go_wp2
    go_loopw [5] (fun i wr => ∃ k : Nat, k ≤ n ∧ i = .int .i64 k ∧ Below w.heap.size w wr) (fun i _ => n - (intOf i).toNat)
    case atStart => exact ⟨0, Nat.zero_le _, rfl, Below.refl _ _⟩
    case round =>
      obtain ⟨k, hk, rfl, hB⟩ := hrel
      by_cases hlt : k < n
      · obtain ⟨c1, c2⟩ := hcell k hlt
        obtain ⟨c3, c4⟩ := hcell' k hlt
        rw [← hB.cell (p := ⟨b, off + k * 2, none⟩) hb] at c1
        rw [← hB.cell (p := ⟨b, off + k * 2 + 1, none⟩) hb] at c2
        rw [← hB.cell (p := ⟨b', off' + k * 2, none⟩) hb'] at c3
        rw [← hB.cell (p := ⟨b', off' + k * 2 + 1, none⟩) hb'] at c4
        clear hcell hcell'
        generalize L.getD k nul = r at *
        obtain ⟨r1, r2⟩ := r
        simp only at c1 c2 c3 c4
        go_wp2
        go_quiet (fail)
        go_wp2
        go_roundw
        case rel => exact ⟨k + 1, by omega, by go_num, below_drewN hB _⟩
        case measure => simp [intOf]; omega
      · go_wp2
        go_ret
        exact ⟨rfl, hB⟩

set_option maxHeartbeats 1000000 in
theorem same15 (a a' : Option Addr) (n c c' : Nat) (L : List Ky) (HL : Hid (L.length = n)) (w : World) (hn : n ≤ 4096) (hc : KCells w a L) (hc' : KCells w a' L) :
    Calls Try.prog 15 #[.slice a n c, .slice a' n c'] w fun e w' => e = .returned (.bool true) ∧ Below w.heap.size w w' := by
  rcases hc.form with rfl | ⟨b, off, rfl, hb, hcell⟩
  · obtain rfl : n = 0 := HL.out.symm
    go_enter Try.func15, Try.ntmps15
    go_wp2
    refine wp_loop_rounds 1 ?_
    rw [rounds_succ]
    go_wp2
    go_ret
    exact ⟨rfl, Below.refl _ _⟩
  rcases hc'.form with rfl | ⟨b', off', rfl, hb', hcell'⟩
  · obtain rfl : n = 0 := HL.out.symm
    go_enter Try.func15, Try.ntmps15
    go_wp2
    refine wp_loop_rounds 1 ?_
    rw [rounds_succ]
    go_wp2
    go_ret
    exact ⟨rfl, Below.refl _ _⟩
  · rw [HL.out] at hcell hcell'
    clear hc hc'
    have e42 := @neq42
    have g42 := Try.guard42
    go_enter Try.func15, Try.ntmps15
    go_wp2
    go_loopw [5] (fun i wr => ∃ k : Nat, k ≤ n ∧ i = .int .i64 k ∧ Below w.heap.size w wr) (fun i _ => n - (intOf i).toNat)
    case atStart => exact ⟨0, Nat.zero_le _, rfl, Below.refl _ _⟩
    case round =>
      obtain ⟨k, hk, rfl, hB⟩ := hrel
      by_cases hlt : k < n
      · obtain ⟨c1, c2⟩ := hcell k hlt
        obtain ⟨c3, c4⟩ := hcell' k hlt
        rw [← hB.cell (p := ⟨b, off + k * 2, none⟩) hb] at c1
        rw [← hB.cell (p := ⟨b, off + k * 2 + 1, none⟩) hb] at c2
        rw [← hB.cell (p := ⟨b', off' + k * 2, none⟩) hb'] at c3
        rw [← hB.cell (p := ⟨b', off' + k * 2 + 1, none⟩) hb'] at c4
        clear hcell hcell'
        generalize L.getD k nul = r at *
        obtain ⟨r1, r2⟩ := r
        simp only at c1 c2 c3 c4
        have hself := keq_self (r1, r2)
        go_wp2
        go_quiet (fail)
        go_wp2
        go_roundw
        case rel => exact ⟨k + 1, by omega, by go_num, below_drewN hB _⟩
        case measure => simp [intOf]; omega
      · go_wp2
        go_ret
        exact ⟨rfl, hB⟩

set_option maxHeartbeats 1000000 in
theorem has14 (a : Option Addr) (n c : Nat) (L : List Ky) (HL : Hid (L.length = n)) (q1 q2 : ByteArray) (w : World) (hn : n ≤ 4096) (hc : KCells w a L) :
    Calls Try.prog 14 #[.slice a n c, .agg #[.string q1, .string q2]] w fun e w' => e = .returned (.bool (inC L (q1, q2))) ∧ Below w.heap.size w w' := by
  rcases hc.form with rfl | ⟨b, off, rfl, hb, hcell⟩
  · obtain rfl : n = 0 := HL.out.symm
    go_enter Try.func14, Try.ntmps14
    go_wp2
    refine wp_loop_rounds 1 ?_
    rw [rounds_succ]
    go_wp2
    go_ret
    exact ⟨rfl, (Below.refl _ _).alloc (Nat.le_refl _) _⟩
  · rw [HL.out] at hcell
    clear hc
    go_enter Try.func14, Try.ntmps14
    go_wp2
    go_loopw [5] (fun i wr => ∃ k : Nat, k ≤ n ∧ i = .int .i64 k ∧ Hid (∀ j, j < k → keq (L.getD j nul) (q1, q2) = false) ∧ Below (w.heap.size + 1) (w.alloc (.cells #[.string q1, .string q2] 34)) wr) (fun i _ => n - (intOf i).toNat)
    case atStart => exact ⟨0, Nat.zero_le _, rfl, fun j hj => absurd hj (by omega), Below.refl _ _⟩
    case round =>
      obtain ⟨k, hk, rfl, hno, hbel⟩ := hrel
      have hB : Below w.heap.size w wr := ((Below.refl w.heap.size w).alloc (Nat.le_refl _) _).trans (hbel.mono (by omega))
      by_cases hlt : k < n
      · obtain ⟨c1, c2⟩ := hcell k hlt
        rw [← hB.cell (p := ⟨b, off + k * 2, none⟩) hb] at c1
        rw [← hB.cell (p := ⟨b, off + k * 2 + 1, none⟩) hb] at c2
        have c3 : wr.cell? ⟨w.heap.size, 0, none⟩ = some (.string q1) := (hbel.cell (p := ⟨w.heap.size, 0, none⟩) (by simp)).trans (by simp)
        have c4 : wr.cell? ⟨w.heap.size, 1, none⟩ = some (.string q2) := (hbel.cell (p := ⟨w.heap.size, 1, none⟩) (by simp)).trans (by simp)
        have hwy : Hid (keq (L.getD k nul) (q1, q2) = ((L.getD k nul).1.toList == q1.toList && (L.getD k nul).2.toList == q2.toList)) := rfl
        have hnext : Hid (keq (L.getD k nul) (q1, q2) = false → ∀ j, j < k + 1 → keq (L.getD j nul) (q1, q2) = false) := fun h j hj => by
          by_cases hjk : j = k
          · subst hjk; exact h
          · exact hno.out j (by omega)
        have hyes : Hid (keq (L.getD k nul) (q1, q2) = true → true = inC L (q1, q2)) := fun h => inC_hit (by rw [HL.out]; exact hlt) h
        clear hcell hno
        generalize L.getD k nul = r at *
        obtain ⟨r1, r2⟩ := r
        simp only at c1 c2 hwy
        generalize keq (r1, r2) (q1, q2) = wy at *
        cases h1 : (r1.toList == q1.toList) with
        | false =>
          go_wp2
          go_quiet (fail)
          go_wp2
          go_roundw
          case rel => exact ⟨k + 1, by omega, by go_num, hnext.out (by rw [hwy.out, h1]; rfl), below_drewN hbel _⟩
          case measure => simp [intOf]; omega
        | true =>
          cases h2 : (r2.toList == q2.toList) with
          | false =>
            go_wp2
            go_quiet (fail)
            go_wp2
            go_roundw
            case rel => exact ⟨k + 1, by omega, by go_num, hnext.out (by rw [hwy.out, h1, h2]; rfl), below_drewN hbel _⟩
            case measure => simp [intOf]; omega
          | true =>
            go_wp2
            go_quiet (fail)
            go_wp2
            go_ret
            exact ⟨ret_bool (hyes.out (by rw [hwy.out, h1, h2]; rfl)), below_drewN hB _⟩
      · go_wp2
        go_ret
        exact ⟨ret_bool (inC_miss fun j hj => hno.out j (by have := HL.out; omega)), hB⟩
end Go.Proofs.Qxb6627432a
