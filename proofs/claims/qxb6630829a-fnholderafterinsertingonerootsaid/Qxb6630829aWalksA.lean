import Derived.Test.Qxb6630829aRows
import Derived.Test.Qxb6630829aPlain
import Derived.WalkKit
import Derived.WalkSpells
import Derived.WalkLawsBesides
namespace Go.Proofs.Qxb6630829a
open Go.RowKit

theorem ret_bool {a b : Bool} (h : a = b) : Ending.returned (.bool a) = .returned (.bool b) := by rw [h]
theorem ret_str {a b : ByteArray} (h : a = b) : Ending.returned (.string a) = .returned (.string b) := by rw [h]

set_option maxHeartbeats 400000 in
theorem hp14 (s p : ByteArray) (w : World) :
    Calls Try.prog 14 #[.string s, .string p] w fun e w' => e = .returned (.bool (pfx s p)) ∧ w' = w := by
  go_enter Try.func14, Try.ntmps14
  go_wp2
  · go_ret
    exact ⟨ret_bool (pfx_yes s p), rfl⟩
  · go_ret
    exact ⟨ret_bool (pfx_no s p ‹_›), rfl⟩

set_option maxHeartbeats 400000 in
theorem hp13 (s p : ByteArray) (w : World) :
    Calls Try.prog 13 #[.string s, .string p] w fun e w' => e = .returned (.bool (pfx s p)) ∧ w' = w := by
  go_enter Try.func13, Try.ntmps13
  go_wp2_with (go_at_call 14; refine (hp14 _ _ _).mono ?_; rintro e w' ⟨rfl, rfl⟩)
  go_ret
  exact ⟨rfl, rfl⟩

set_option maxHeartbeats 400000 in
theorem inProject12 (p r : ByteArray) (w : World) (_hr : r.size ≤ 1048576) :
    Calls Try.prog 12 #[.string p, .string r] w fun e w' => e = .returned (.bool (Hd p r)) ∧ w' = w := by
  cases h : (p.toList == r.toList) with
  | true =>
    go_enter Try.func12, Try.ntmps12
    go_wp2
    go_ret
    exact ⟨ret_bool (Hd_same h).symm, rfl⟩
  | false =>
    go_enter Try.func12, Try.ntmps12
    go_wp2_with (go_at_call 13; refine (hp13 _ _ _).mono ?_; rintro e w' ⟨rfl, rfl⟩)
    go_ret
    exact ⟨ret_bool (Hd_app h), rfl⟩

theorem b47 {x : Int} (h : (x != 47) = true) : (x == 47) = false := by simpa using h
theorem b47' {x : Int} (h : (x != 47) = false) : (x == 47) = true := by simpa using h

set_option maxHeartbeats 400000 in
theorem holds10 (p r : ByteArray) (w : World) :
    Calls Try.prog 10 #[.string p, .string r] w fun e w' => e = .returned (.bool (Hd p r)) ∧ w' = w := by
  go_enter Try.func10, Try.ntmps10
  go_wp2
  · go_ret
    exact ⟨ret_bool (Hd_same ‹_›).symm, rfl⟩
  · go_ret
    exact ⟨ret_bool (Hd_short ‹_› ‹_›), rfl⟩
  · go_ret
    exact ⟨ret_bool (by rw [Hd_long ‹(p.toList == r.toList) = false› ‹_›, b47 ‹_›, Bool.false_and]), rfl⟩
  · go_ret
    exact ⟨ret_bool (by rw [Hd_long ‹(p.toList == r.toList) = false› ‹_›, b47' ‹_›, Bool.true_and]), rfl⟩

/-- The slice 'a' leads to the strings L. -/
def Cells (w : World) (a : Option Addr) (L : List ByteArray) : Prop :=
  ∀ i, i < L.length → ∃ b off, a = some ⟨b, off, none⟩ ∧ w.cell? ⟨b, off + i, none⟩ = some (.string (L.getD i emp))
theorem Cells.form {w : World} {a : Option Addr} {L : List ByteArray} (h : Cells w a L) :
    L = [] ∨ ∃ b off, a = some ⟨b, off, none⟩ ∧ ∀ i, i < L.length → w.cell? ⟨b, off + i, none⟩ = some (.string (L.getD i emp)) := by
  by_cases h0 : L.length = 0
  · exact .inl (List.eq_nil_of_length_eq_zero h0)
  · obtain ⟨b, off, rfl, _⟩ := h 0 (by omega)
    refine .inr ⟨b, off, rfl, fun i hi => ?_⟩
    obtain ⟨b', off', he, hc⟩ := h i hi
    simp at he
    obtain ⟨rfl, rfl⟩ := he
    exact hc

theorem getD_mem {L : List ByteArray} {k : Nat} (h : k < L.length) : L.getD k emp ∈ L := by
  simp [h]

theorem step_yes {p acc r : ByteArray} (h : Hd p r = true) (hs : acc.size < r.size) : step p acc r = r := by simp [step, h, hs]
theorem step_short {p acc r : ByteArray} (hs : ¬ acc.size < r.size) : step p acc r = acc := by simp [step, hs]
theorem step_no {p acc r : ByteArray} (h : Hd p r = false) : step p acc r = acc := by simp [step, h]

set_option maxHeartbeats 400000 in
theorem holder7 (p : ByteArray) (a : Option Addr) (n c : Nat) (L : List ByteArray) (HL : Hid (L.length = n)) (w : World) (hn : n ≤ 1048577) (hb : ∀ s ∈ L, s.size ≤ 1048576) (hc : Cells w a L) :
    Calls Try.prog 7 #[.string p, .slice a n c] w fun e w' => e = .returned (.string (hold p L)) ∧ w' = w := by
  rcases hc.form with rfl | ⟨b, off, rfl, hcell⟩
  · obtain rfl : n = 0 := HL.out.symm
    go_enter Try.func7, Try.ntmps7
    go_wp2
    refine wp_loop_rounds 1 ?_
    rw [rounds_succ]
    go_wp2
    go_ret
    exact ⟨rfl, rfl⟩
  · clear hc
    rw [HL.out] at hcell
    go_enter Try.func7, Try.ntmps7
    go_wp2
    go_loop [5, 10] (fun t i => ∃ k : Nat, k ≤ n ∧ i = .int .i64 k ∧ t = .string (hold p (L.take k))) (fun _ i => n - (intOf i).toNat)
    case atStart => exact ⟨0, Nat.zero_le _, rfl, rfl⟩
    case round =>
      obtain ⟨k, hk, rfl, rfl⟩ := hrel
      by_cases hlt : k < n
      · have hck := hcell k hlt
        have hsz := hb _ (getD_mem (by rw [HL.out]; exact hlt : k < L.length))
        have hst : Hid (hold p (L.take (k + 1)) = step p (hold p (L.take k)) (L.getD k emp)) := hold_succ p L k (by rw [HL.out]; exact hlt)
        clear hcell hb
        generalize L.getD k emp = r at *
        generalize hold p (L.take k) = acc at *
        cases hh : Hd p r with
        | true =>
          by_cases hs : acc.size < r.size
          · go_wp2_with (go_at_call 12; refine (inProject12 _ _ _ hsz).mono ?_; rintro e w' ⟨rfl, rfl⟩)
            go_round
            case rel => exact ⟨k + 1, by omega, by go_num, by rw [hst.out, step_yes hh hs]⟩
            case measure => simp [intOf]; omega
          · go_wp2_with (go_at_call 12; refine (inProject12 _ _ _ hsz).mono ?_; rintro e w' ⟨rfl, rfl⟩)
            go_round
            case rel => exact ⟨k + 1, by omega, by go_num, by rw [hst.out, step_short hs]⟩
            case measure => simp [intOf]; omega
        | false =>
          go_wp2_with (go_at_call 12; refine (inProject12 _ _ _ hsz).mono ?_; rintro e w' ⟨rfl, rfl⟩)
          go_round
          case rel => exact ⟨k + 1, by omega, by go_num, by rw [hst.out, step_no hh]⟩
          case measure => simp [intOf]; omega
      · go_wp2
        go_ret
        exact ⟨ret_str (by rw [List.take_of_length_le (by rw [HL.out]; omega)]), rfl⟩

/-- 'some string of L is s'. -/
def mem (s : ByteArray) (L : List ByteArray) : Bool := L.any fun q => q.toList == s.toList
theorem mem_of {s : ByteArray} {L : List ByteArray} (h : s ∈ L) : mem s L = true := by
  simp only [mem, List.any_eq_true]
  exact ⟨s, h, by simp⟩
theorem mem_hit {s : ByteArray} {L : List ByteArray} {k : Nat} (hk : k < L.length) (h : ((L.getD k emp).toList == s.toList) = true) : true = mem s L := by
  symm
  simp only [mem, List.any_eq_true]
  exact ⟨_, getD_mem hk, h⟩
theorem mem_miss {s : ByteArray} {L : List ByteArray} (h : ∀ k, k < L.length → ((L.getD k emp).toList == s.toList) = false) : false = mem s L := by
  symm
  simp only [mem, List.any_eq_false]
  intro q hq
  obtain ⟨k, hk, rfl⟩ := List.getElem_of_mem hq
  have := h k hk
  simp [hk] at this
  simpa using this

set_option maxHeartbeats 400000 in
theorem member11 (s : ByteArray) (a : Option Addr) (n c : Nat) (L : List ByteArray) (HL : Hid (L.length = n)) (w : World) (hn : n ≤ 1048577) (hc : Cells w a L) :
    Calls Try.prog 11 #[.string s, .slice a n c] w fun e w' => e = .returned (.bool (mem s L)) ∧ w' = w := by
  rcases hc.form with rfl | ⟨b, off, rfl, hcell⟩
  · obtain rfl : n = 0 := HL.out.symm
    go_enter Try.func11, Try.ntmps11
    go_wp2
    refine wp_loop_rounds 1 ?_
    rw [rounds_succ]
    go_wp2
    go_ret
    exact ⟨rfl, rfl⟩
  · clear hc
    rw [HL.out] at hcell
    go_enter Try.func11, Try.ntmps11
    go_wp2
    go_loop [5] (fun i => ∃ k : Nat, k ≤ n ∧ i = .int .i64 k ∧ Hid (∀ j, j < k → ((L.getD j emp).toList == s.toList) = false)) (fun i => n - (intOf i).toNat)
    case atStart => exact ⟨0, Nat.zero_le _, rfl, fun j hj => absurd hj (by omega)⟩
    case round =>
      obtain ⟨k, hk, rfl, hno⟩ := hrel
      by_cases hlt : k < n
      · have hck := hcell k hlt
        clear hcell
        generalize hr : L.getD k emp = r at *
        have HR : Hid (L.getD k emp = r) := hr
        clear hr
        cases hh : (r.toList == s.toList) with
        | true =>
          go_wp2
          go_ret
          exact ⟨ret_bool (mem_hit (by rw [HL.out]; exact hlt) (by rw [HR.out]; exact hh)), rfl⟩
        | false =>
          go_wp2
          go_round
          case rel =>
            refine ⟨k + 1, by omega, by go_num, fun j hj => ?_⟩
            by_cases hjk : j = k
            · subst hjk; rw [HR.out]; exact hh
            · exact hno.out j (by omega)
          case measure => simp [intOf]; omega
      · go_wp2
        go_ret
        exact ⟨ret_bool (mem_miss fun j hj => hno.out j (by have := HL.out; omega)), rfl⟩
end Go.Proofs.Qxb6630829a
