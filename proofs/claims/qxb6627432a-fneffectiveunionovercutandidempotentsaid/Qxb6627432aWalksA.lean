import Derived.Test.Qxb6627432aRows
import Derived.Test.Qxb6627432aPlain
import Derived.WalkKit
import Derived.WalkSpells
import Derived.WalkLawsBesides
import Derived.Laws.StructEq
import Derived.Deep.QuietTactic
import Derived.BigQuiet
namespace Go.Proofs.Qxb6627432a
open Go.RowKit

theorem ret_bool {a b : Bool} (h : a = b) : Ending.returned (.bool a) = .returned (.bool b) := by rw [h]
theorem Try.stood34 : Try.prog.stoodInHeld 34 = false := by kernel_rfl
theorem Try.stood42 : Try.prog.stoodInHeld 42 = false := by kernel_rfl
theorem Try.guard34 : Try.prog.eqGuardType Try.prog.depth 34 = false := by kernel_rfl
theorem Try.guard42 : Try.prog.eqGuardType Try.prog.depth 42 = false := by kernel_rfl
theorem eql34 (w : World) (a b c d : ByteArray) : (binOp .eql 34 (.agg #[.string a, .string b]) (.agg #[.string c, .string d])).run Try.prog w = .ok (.bool (keq (a, b) (c, d))) w := by
  rw [run_eql_struct, run_equalIn_agg _ 9999 _ _ _ (by simp [Program.fieldsOf, Try.underlying34]) Try.stood34]
  simp only [Program.fieldsOf, Try.underlying34]
  simp [go_sem, Op.eqFields]
  unfold keq
  split
  · split <;> simp_all
  · simp_all
theorem neq42 (w : World) (a b c d : ByteArray) : (binOp .neq 42 (.agg #[.string a, .string b]) (.agg #[.string c, .string d])).run Try.prog w = .ok (.bool (!keq (a, b) (c, d))) w := by
  rw [run_neq_struct, run_equalIn_agg _ 9999 _ _ _ (by simp [Program.fieldsOf, Try.underlying42]) Try.stood42]
  simp only [Program.fieldsOf, Try.underlying42]
  simp [go_sem, Op.eqFields]
  unfold keq
  split
  · split <;> simp_all
  · simp_all

/-- The slice 'a' leads to the keys L, two cells a key. -/
def KCells (w : World) (a : Option Addr) (L : List Ky) : Prop :=
  ∀ i, i < L.length → ∃ b off, a = some ⟨b, off, none⟩ ∧ w.cell? ⟨b, off + i * 2, none⟩ = some (.string (L.getD i nul).1) ∧ w.cell? ⟨b, off + i * 2 + 1, none⟩ = some (.string (L.getD i nul).2)
theorem KCells.form {w : World} {a : Option Addr} {L : List Ky} (h : KCells w a L) :
    L = [] ∨ ∃ b off, a = some ⟨b, off, none⟩ ∧ b < w.heap.size ∧ ∀ i, i < L.length → w.cell? ⟨b, off + i * 2, none⟩ = some (.string (L.getD i nul).1) ∧ w.cell? ⟨b, off + i * 2 + 1, none⟩ = some (.string (L.getD i nul).2) := by
  by_cases h0 : L.length = 0
  · exact .inl (List.eq_nil_of_length_eq_zero h0)
  · obtain ⟨b, off, rfl, h1, _⟩ := h 0 (by omega)
    refine .inr ⟨b, off, rfl, World.block_lt_of_cell? w _ h1, fun i hi => ?_⟩
    obtain ⟨b', off', he, hc⟩ := h i hi
    simp at he
    obtain ⟨rfl, rfl⟩ := he
    exact hc
theorem no_keys (w : World) (a : Option Addr) : KCells w a [] := fun i hi => absurd hi (by simp)
theorem KCells.below {w w' : World} {a : Option Addr} {L : List Ky} (h : KCells w a L) (hb : Below w.heap.size w w') : KCells w' a L := by
  intro i hi
  obtain ⟨b, off, h1, h2, h3⟩ := h i hi
  have hlt := World.block_lt_of_cell? w _ h2
  exact ⟨b, off, h1, (hb.cell (p := ⟨b, off + i * 2, none⟩) hlt).trans h2, (hb.cell (p := ⟨b, off + i * 2 + 1, none⟩) hlt).trans h3⟩

theorem inC_hit {L : List Ky} {k : Nat} {q : Ky} (hk : k < L.length) (h : keq (L.getD k nul) q = true) : true = inC L q := by
  symm; rw [inC, List.any_eq_true]; exact ⟨_, getD_mem hk, h⟩
theorem inC_miss {L : List Ky} {q : Ky} (h : ∀ k, k < L.length → keq (L.getD k nul) q = false) : false = inC L q := by
  symm
  rw [inC, List.any_eq_false]
  intro x hx
  obtain ⟨i, hi, rfl⟩ := mem_getD hx
  rw [h i hi]; simp

theorem below_drewN {B : Nat} {a w : World} (h : Below B a w) (n : Nat) : Below B a (w.drewN n) := ⟨h.os, h.tape, h.output, h.size, h.block⟩

set_option maxHeartbeats 1000000 in
theorem inCat10 (a : Option Addr) (n c : Nat) (L : List Ky) (HL : Hid (L.length = n)) (q1 q2 : ByteArray) (w : World) (hn : n ≤ 4096) (hc : KCells w a L) :
    Calls Try.prog 10 #[.slice a n c, .agg #[.string q1, .string q2]] w fun e w' => e = .returned (.bool (inC L (q1, q2))) ∧ Below w.heap.size w w' := by
  rcases hc.form with rfl | ⟨b, off, rfl, hb, hcell⟩
  · obtain rfl : n = 0 := HL.out.symm
    go_enter Try.func10, Try.ntmps10
    go_wp2
    refine wp_loop_rounds 1 ?_
    rw [rounds_succ]
    go_wp2
    go_ret
    exact ⟨rfl, (Below.refl _ _).alloc (Nat.le_refl _) _⟩
  · rw [HL.out] at hcell
    clear hc
    have e34 := @eql34
    have g34 := Try.guard34
    go_enter Try.func10, Try.ntmps10
    go_wp2
    go_loopw [5] (fun i wr => ∃ k : Nat, k ≤ n ∧ i = .int .i64 k ∧ Hid (∀ j, j < k → keq (L.getD j nul) (q1, q2) = false) ∧ Below (w.heap.size + 1) (w.alloc (.cells #[.string q1, .string q2] 34)) wr) (fun i _ => n - (intOf i).toNat)
    case atStart => exact ⟨0, Nat.zero_le _, rfl, fun j hj => absurd hj (by omega), Below.refl _ _⟩
    case round =>
      obtain ⟨k, hk, rfl, hno, hbel⟩ := hrel
      have hB : Below w.heap.size w wr := ((Below.refl w.heap.size w).alloc (Nat.le_refl _) _).trans (hbel.mono (by omega))
      by_cases hlt : k < n
      · obtain ⟨c1, c2⟩ := hcell k hlt
        rw [← hB.cell (p := ⟨b, off + k * 2, none⟩) hb] at c1
        rw [← hB.cell (p := ⟨b, off + k * 2 + 1, none⟩) hb] at c2
        have c3 : wr.cell? ⟨w.heap.size, 0, none⟩ = some (.string q1) := (hbel.cell (p := ⟨w.heap.size, 0, none⟩) (by simp)).trans (by simp)
        have c4 : wr.cell? ⟨w.heap.size, 1, none⟩ = some (.string q2) := (hbel.cell (p := ⟨w.heap.size, 1, none⟩) (by simp)).trans (by simp)
        clear hcell
        generalize hr : L.getD k nul = r at *
        have HR : Hid (L.getD k nul = r) := hr
        clear hr
        obtain ⟨r1, r2⟩ := r
        simp only at c1 c2
        cases hh : keq (r1, r2) (q1, q2) with
        | true =>
          go_wp2
          go_quiet (fail)
          go_wp2
          go_ret
          exact ⟨ret_bool (inC_hit (by rw [HL.out]; exact hlt) (by rw [HR.out]; exact hh)), below_drewN hB _⟩
        | false =>
          go_wp2
          go_quiet (fail)
          go_wp2
          go_roundw
          case rel =>
            refine ⟨k + 1, by omega, by go_num, fun j hj => ?_, below_drewN hbel _⟩
            by_cases hjk : j = k
            · subst hjk; rw [HR.out]; exact hh
            · exact hno.out j (by omega)
          case measure => simp [intOf]; omega
      · go_wp2
        go_ret
        exact ⟨ret_bool (inC_miss fun j hj => hno.out j (by have := HL.out; omega)), hB⟩

theorem wantB_hit {cat L : List Ky} {k : Nat} {q : Ky} (hk : k < L.length) (h : wantBy cat (L.getD k nul) q = true) : true = wantB cat L q := by
  symm; rw [wantB, List.any_eq_true]; exact ⟨_, getD_mem hk, h⟩
theorem wantB_miss {cat L : List Ky} {q : Ky} (h : ∀ k, k < L.length → wantBy cat (L.getD k nul) q = false) : false = wantB cat L q := by
  symm
  rw [wantB, List.any_eq_false]
  intro x hx
  obtain ⟨i, hi, rfl⟩ := mem_getD hx
  rw [h i hi]; simp
theorem red_toList : red.toList = [114, 101, 97, 100] := by rw [ByteArray.toList_eq]; rfl

set_option maxHeartbeats 1000000 in
theorem held11 (cat : List Ky) (q1 q2 : ByteArray) (a : Option Addr) (n c kb : Nat) (L : List Ky) (HL : Hid (L.length = n)) (w : World) (hn : n ≤ 4096) (hc : KCells w a L) (hkb : kb < w.heap.size)
    (hk : ∀ j, j < n → w.cell? ⟨kb, j, none⟩ = some (.bool (inC cat (L.getD j nul)))) :
    Calls Try.prog 11 #[.agg #[.string q1, .string q2], .slice a n c, .slice (some ⟨kb, 0, none⟩) n n] w fun e w' => e = .returned (.bool (wantB cat L (q1, q2))) ∧ Below w.heap.size w w' := by
  rcases hc.form with rfl | ⟨b, off, rfl, hb, hcell⟩
  · obtain rfl : n = 0 := HL.out.symm
    go_enter Try.func11, Try.ntmps11
    go_wp2
    refine wp_loop_rounds 1 ?_
    rw [rounds_succ]
    go_wp2
    go_ret
    exact ⟨rfl, (Below.refl _ _).alloc (Nat.le_refl _) _⟩
  · rw [HL.out] at hcell
    clear hc
    have e34 := @eql34
    have g34 := Try.guard34
    go_enter Try.func11, Try.ntmps11
    go_wp2
    go_loopw [7] (fun i wr => ∃ k : Nat, k ≤ n ∧ i = .int .i64 k ∧ Hid (∀ j, j < k → wantBy cat (L.getD j nul) (q1, q2) = false) ∧ Below (w.heap.size + 1) (w.alloc (.cells #[.string q1, .string q2] 34)) wr) (fun i _ => n - (intOf i).toNat)
    case atStart => exact ⟨0, Nat.zero_le _, rfl, fun j hj => absurd hj (by omega), Below.refl _ _⟩
    case round =>
      obtain ⟨k, hkn, rfl, hno, hbel⟩ := hrel
      have hB : Below w.heap.size w wr := ((Below.refl w.heap.size w).alloc (Nat.le_refl _) _).trans (hbel.mono (by omega))
      by_cases hlt : k < n
      · obtain ⟨c1, c2⟩ := hcell k hlt
        rw [← hB.cell (p := ⟨b, off + k * 2, none⟩) hb] at c1
        rw [← hB.cell (p := ⟨b, off + k * 2 + 1, none⟩) hb] at c2
        have c3 : wr.cell? ⟨w.heap.size, 0, none⟩ = some (.string q1) := (hbel.cell (p := ⟨w.heap.size, 0, none⟩) (by simp)).trans (by simp)
        have c4 : wr.cell? ⟨w.heap.size, 1, none⟩ = some (.string q2) := (hbel.cell (p := ⟨w.heap.size, 1, none⟩) (by simp)).trans (by simp)
        have c5 := hk k hlt
        rw [← hB.cell (p := ⟨kb, k, none⟩) hkb] at c5
        have hwy : Hid (wantBy cat (L.getD k nul) (q1, q2) = (keq (L.getD k nul) (q1, q2) || (q2.toList == red.toList && inC cat (L.getD k nul) && (L.getD k nul).1.toList == q1.toList))) := rfl
        rw [red_toList] at hwy
        have hnext : Hid (wantBy cat (L.getD k nul) (q1, q2) = false → ∀ j, j < k + 1 → wantBy cat (L.getD j nul) (q1, q2) = false) := fun h j hj => by
          by_cases hjk : j = k
          · subst hjk; exact h
          · exact hno.out j (by omega)
        have hyes : Hid (wantBy cat (L.getD k nul) (q1, q2) = true → true = wantB cat L (q1, q2)) := fun h => wantB_hit (by rw [HL.out]; exact hlt) h
        clear hcell hno hk
        generalize inC cat (L.getD k nul) = kn at *
        generalize L.getD k nul = r at *
        obtain ⟨r1, r2⟩ := r
        simp only at c1 c2 hwy
        generalize wantBy cat (r1, r2) (q1, q2) = wy at *
        cases hh : keq (r1, r2) (q1, q2) with
        | true =>
          go_wp2
          go_quiet (fail)
          go_wp2
          go_ret
          exact ⟨ret_bool (hyes.out (by rw [hwy.out, hh]; rfl)), below_drewN hB _⟩
        | false =>
          cases h2 : (q2.toList == [114, 101, 97, 100]) with
          | false =>
            go_wp2
            go_quiet (fail)
            go_wp2
            go_quiet (fail)
            go_wp2
            go_roundw
            case rel => exact ⟨k + 1, by omega, by go_num, hnext.out (by rw [hwy.out, hh, h2]; rfl), below_drewN hbel _⟩
            case measure => simp [intOf]; omega
          | true =>
            cases kn with
            | false =>
              go_wp2
              go_quiet (fail)
              go_wp2
              go_quiet (fail)
              go_wp2
              go_roundw
              case rel => exact ⟨k + 1, by omega, by go_num, hnext.out (by rw [hwy.out, hh, h2]; rfl), below_drewN hbel _⟩
              case measure => simp [intOf]; omega
            | true =>
              cases h3 : (r1.toList == q1.toList) with
              | false =>
                go_wp2
                go_quiet (fail)
                go_wp2
                go_quiet (fail)
                go_wp2
                go_roundw
                case rel => exact ⟨k + 1, by omega, by go_num, hnext.out (by rw [hwy.out, hh, h2, h3]; rfl), below_drewN hbel _⟩
                case measure => simp [intOf]; omega
              | true =>
                go_wp2
                go_quiet (fail)
                go_wp2
                go_quiet (fail)
                go_wp2
                go_ret
                exact ⟨ret_bool (hyes.out (by rw [hwy.out, hh, h2, h3]; rfl)), below_drewN (below_drewN hB _) _⟩
      · go_wp2
        go_ret
        exact ⟨ret_bool (wantB_miss fun j hj => hno.out j (by have := HL.out; omega)), hB⟩
end Go.Proofs.Qxb6627432a
