import Derived.Test.Qxb6630829aWalksA
namespace Go.Proofs.Qxb6630829a
open Go.RowKit

def anyPos (p : ByteArray) (L : List ByteArray) : Bool := L.any fun q => decide (0 < q.size) && Hd p q
theorem take_snoc {L : List ByteArray} {k : Nat} (h : k < L.length) : L.take (k + 1) = L.take k ++ [L.getD k emp] := by
  rw [List.take_succ_eq_append_getElem h]; simp [h]
theorem anyPos_succ {p : ByteArray} {L : List ByteArray} {k : Nat} (h : k < L.length) : anyPos p (L.take (k + 1)) = (anyPos p (L.take k) || (decide (0 < (L.getD k emp).size) && Hd p (L.getD k emp))) := by
  rw [take_snoc h, anyPos, List.any_append]; simp [anyPos]
theorem anyPos_empty {p : ByteArray} {L : List ByteArray} (h : IsLong p L emp) : anyPos p L = false := by
  simp only [anyPos, List.any_eq_false]
  intro q hq hh
  simp only [Bool.and_eq_true, decide_eq_true_eq] at hh
  have := h.1 q hq hh.2
  rw [emp_size] at this
  omega
theorem anyPos_full {p r : ByteArray} {L : List ByteArray} (h0 : 0 < r.size) (hm : r ∈ L) (hh : Hd p r = true) : anyPos p L = true := by
  simp only [anyPos, List.any_eq_true]
  exact ⟨r, hm, by simp [h0, hh]⟩

theorem emp_nil : emp.toList.isEmpty = true := by rw [ByteArray.toList_eq]; rfl

set_option maxHeartbeats 1000000 in
theorem longest8 (p r : ByteArray) (a : Option Addr) (n c : Nat) (L : List ByteArray) (HL : Hid (L.length = n)) (w : World) (hn : n ≤ 1048577) (hc : Cells w a L) (hlong : IsLong p L r) :
    Calls Try.prog 8 #[.string p, .slice a n c, .string r] w fun e w' => e = .returned (.bool true) ∧ w' = w := by
  have HI : Hid (IsLong p L r) := hlong
  have hend : (r = emp ∧ anyPos p L = false) ∨ ((r.size == 0) = false ∧ mem r L = true ∧ Hd p r = true ∧ anyPos p L = true) := by
    by_cases h0 : r.size = 0
    · have := size_zero h0
      subst this
      exact .inl ⟨rfl, anyPos_empty hlong⟩
    · rcases hlong.2 with h | h
      · exact absurd h h0
      · exact .inr ⟨by simpa using h0, mem_of h.1, h.2, anyPos_full (by omega) h.1 h.2⟩
  clear hlong
  rcases hc.form with rfl | ⟨b, off, rfl, hcell⟩
  · obtain rfl : n = 0 := HL.out.symm
    rcases hend with ⟨rfl, _⟩ | h
    · go_enter Try.func8, Try.ntmps8
      go_wp2
      refine wp_loop_rounds 1 ?_
      rw [rounds_succ]
      go_wp2
      go_ret
      exact ⟨ret_bool emp_nil, rfl⟩
    · exact absurd h.2.1 (by simp [mem])
  · rw [HL.out] at hcell
    have hcc : Hid (Cells w (some ⟨b, off, none⟩) L) := hc
    clear hc
    have HE : Hid ((r = emp ∧ anyPos p L = false) ∨ ((r.size == 0) = false ∧ mem r L = true ∧ Hd p r = true ∧ anyPos p L = true)) := hend
    clear hend
    go_enter Try.func8, Try.ntmps8
    go_wp2
    go_loop [7, 8] (fun t i => ∃ (k : Nat) (x : Bool), k ≤ n ∧ i = .int .i64 k ∧ t = .bool x ∧ Hid (x = anyPos p (L.take k))) (fun _ i => n - (intOf i).toNat)
    case atStart => exact ⟨0, false, Nat.zero_le _, rfl, rfl, rfl⟩
    case round =>
      obtain ⟨k, x, hk, rfl, rfl, hx⟩ := hrel
      by_cases hlt : k < n
      · have hck := hcell k hlt
        have hkL : k < L.length := by rw [HL.out]; exact hlt
        have hst : Hid (anyPos p (L.take (k + 1)) = (anyPos p (L.take k) || (decide (0 < (L.getD k emp).size) && Hd p (L.getD k emp)))) := anyPos_succ hkL
        have hle : Hd p (L.getD k emp) = true → (L.getD k emp).size ≤ r.size := HI.out.1 _ (getD_mem hkL)
        clear hcell hkL
        generalize L.getD k emp = q at *
        by_cases h0 : 0 < q.size
        · cases hh : Hd p q with
          | true =>
            have hle' := hle hh
            clear hle
            go_wp2_with (go_at_call 10; refine (holds10 _ _ _).mono ?_; rintro e w' ⟨rfl, rfl⟩)
            go_round
            case rel => exact ⟨k + 1, true, by omega, by go_num, rfl, by rw [hst.out, hh]; simp [h0, Hid]⟩
            case measure => simp [intOf]; omega
          | false =>
            clear hle
            go_wp2_with (go_at_call 10; refine (holds10 _ _ _).mono ?_; rintro e w' ⟨rfl, rfl⟩)
            go_round
            case rel => exact ⟨k + 1, x, by omega, by go_num, rfl, by rw [hst.out, hh]; simpa using hx⟩
            case measure => simp [intOf]; omega
        · clear hle
          go_wp2
          go_round
          case rel => exact ⟨k + 1, x, by omega, by go_num, rfl, by rw [hst.out]; simpa [h0] using hx⟩
          case measure => simp [intOf]; omega
      · have hx' : x = anyPos p L := by have := hx.out; rwa [List.take_of_length_le (by rw [HL.out]; omega)] at this
        rcases HE.out with ⟨rfl, ha⟩ | ⟨hr, hm, hd, ha⟩
        · obtain rfl : x = false := by rw [hx', ha]
          clear hx' ha hx HE HI
          go_wp2
          go_ret
          exact ⟨ret_bool emp_nil, rfl⟩
        · obtain rfl : x = true := by rw [hx', ha]
          have hr' : ((r.size : Int) == 0) = false := by simp at hr ⊢; omega
          clear hx' ha hx HE HI hcell hr
          go_wp2_with (first | (go_at_call 10; refine (holds10 _ _ _).mono ?_; rintro e w' ⟨rfl, rfl⟩) | (go_at_call 11; refine (member11 _ _ _ _ L HL _ hn hcc.out).mono ?_; rintro e w' ⟨rfl, rfl⟩))
          go_ret
          exact ⟨rfl, rfl⟩

/-! ### The bounds -/
/-- 'it answers a bool; where it says yes the bounds hold'. -/
def Bnd (p : ByteArray) (n : Nat) (L : List ByteArray) (e : Ending) : Prop :=
  ∃ b, e = .returned (.bool b) ∧ (b = true → p.size ≤ 1048576 ∧ n ≤ 1048576 ∧ ∀ s ∈ L, s.size ≤ 1048576)
theorem Bnd.no {p : ByteArray} {n : Nat} {L : List ByteArray} {e : Ending} (h : e = .returned (.bool false)) : Bnd p n L e := ⟨false, h, by simp⟩
theorem Bnd.yes {p : ByteArray} {n : Nat} {L : List ByteArray} {e : Ending} (h : e = .returned (.bool true)) (h1 : p.size ≤ 1048576) (h2 : n ≤ 1048576) (h3 : ∀ j, j < L.length → (L.getD j emp).size ≤ 1048576) : Bnd p n L e :=
  ⟨true, h, fun _ => ⟨h1, h2, fun s hs => by
    obtain ⟨j, hj, rfl⟩ := List.getElem_of_mem hs
    have := h3 j hj
    simpa [hj] using this⟩⟩

set_option maxHeartbeats 1000000 in
theorem bytes5 (p : ByteArray) (a : Option Addr) (n c : Nat) (k0 : Int) (L : List ByteArray) (HL : Hid (L.length = n)) (w : World) (hp : p.size ≤ 9223372036854775807) (hn : n ≤ 9223372036854775807) (hb : ∀ s ∈ L, s.size ≤ 9223372036854775807) (hc : Cells w a L) :
    Calls Try.prog 5 #[.string p, .slice a n c, .int .i64 k0] w fun e w' => Bnd p n L e ∧ w' = w := by
  by_cases h1 : 1048576 < p.size
  · go_enter Try.func5, Try.ntmps5
    go_wp2
    go_ret
    exact ⟨.no rfl, rfl⟩
  by_cases h2 : 1048576 < n
  · go_enter Try.func5, Try.ntmps5
    go_wp2
    go_ret
    exact ⟨.no rfl, rfl⟩
  by_cases h3 : 1048576 < p.size + n
  · go_enter Try.func5, Try.ntmps5
    go_wp2
    go_ret
    exact ⟨.no rfl, rfl⟩
  rcases hc.form with rfl | ⟨b, off, rfl, hcell⟩
  · obtain rfl : n = 0 := HL.out.symm
    go_enter Try.func5, Try.ntmps5
    go_wp2
    refine wp_loop_rounds 1 ?_
    rw [rounds_succ]
    go_wp2
    go_ret
    exact ⟨.yes rfl (by omega) (by omega) (by simp), rfl⟩
  · rw [HL.out] at hcell
    clear hc
    go_enter Try.func5, Try.ntmps5
    go_wp2
    go_loop [7, 8] (fun t i => ∃ k z : Nat, k ≤ n ∧ i = .int .i64 k ∧ t = .int .i64 z ∧ z ≤ 1048576 ∧ Hid (∀ j, j < k → (L.getD j emp).size ≤ 1048576)) (fun _ i => n - (intOf i).toNat)
    case atStart => exact ⟨0, p.size + n, Nat.zero_le _, rfl, by go_num, by omega, fun j hj => absurd hj (by omega)⟩
    case round =>
      obtain ⟨k, z, hk, rfl, rfl, hz, hall⟩ := hrel
      by_cases hlt : k < n
      · have hck := hcell k hlt
        have hsz := hb _ (getD_mem (by rw [HL.out]; exact hlt : k < L.length))
        clear hcell hb
        generalize hq : L.getD k emp = q at *
        have HQ : Hid (L.getD k emp = q) := hq
        clear hq
        by_cases g1 : 1048576 < q.size
        · go_wp2
          go_ret
          exact ⟨.no rfl, rfl⟩
        · by_cases g2 : 1048576 < z + q.size
          · go_wp2
            go_ret
            exact ⟨.no rfl, rfl⟩
          · go_wp2
            go_round
            case rel =>
              refine ⟨k + 1, z + q.size, by omega, by go_num, by go_num, by omega, fun j hj => ?_⟩
              by_cases hjk : j = k
              · subst hjk; rw [HQ.out]; omega
              · exact hall.out j (by omega)
            case measure => simp [intOf]; omega
      · go_wp2
        go_ret
        exact ⟨.yes rfl (by omega) (by omega) fun j hj => hall.out j (by have := HL.out; omega), rfl⟩

/-- The same with the one root more. -/
def Bnd9 (p x : ByteArray) (n : Nat) (L : List ByteArray) (e : Ending) : Prop :=
  ∃ b, e = .returned (.bool b) ∧ (b = true → p.size ≤ 1048576 ∧ x.size ≤ 1048576 ∧ n ≤ 1048576 ∧ ∀ s ∈ L, s.size ≤ 1048576)
theorem Bnd9.no {p x : ByteArray} {n : Nat} {L : List ByteArray} {e : Ending} (h : e = .returned (.bool false)) : Bnd9 p x n L e := ⟨false, h, by simp⟩
theorem Bnd9.yes {p x : ByteArray} {n : Nat} {L : List ByteArray} {e : Ending} (h : e = .returned (.bool true)) (h1 : p.size ≤ 1048576) (h4 : x.size ≤ 1048576) (h2 : n ≤ 1048576) (h3 : ∀ j, j < L.length → (L.getD j emp).size ≤ 1048576) : Bnd9 p x n L e :=
  ⟨true, h, fun _ => ⟨h1, h4, h2, fun s hs => by
    obtain ⟨j, hj, rfl⟩ := List.getElem_of_mem hs
    have := h3 j hj
    simpa [hj] using this⟩⟩

set_option maxHeartbeats 1000000 in
theorem bytes9 (p : ByteArray) (a : Option Addr) (n c : Nat) (k0 : Int) (x : ByteArray) (L : List ByteArray) (HL : Hid (L.length = n)) (w : World) (hp : p.size ≤ 9223372036854775807) (hx : x.size ≤ 9223372036854775807) (hn : n ≤ 9223372036854775807) (hb : ∀ s ∈ L, s.size ≤ 9223372036854775807) (hc : Cells w a L) :
    Calls Try.prog 9 #[.string p, .slice a n c, .int .i64 k0, .string x] w fun e w' => Bnd9 p x n L e ∧ w' = w := by
  by_cases h1 : 1048576 < p.size
  · go_enter Try.func9, Try.ntmps9
    go_wp2
    go_ret
    exact ⟨.no rfl, rfl⟩
  by_cases h2 : 1048576 < n
  · go_enter Try.func9, Try.ntmps9
    go_wp2
    go_ret
    exact ⟨.no rfl, rfl⟩
  by_cases h3 : 1048576 < p.size + n
  · go_enter Try.func9, Try.ntmps9
    go_wp2
    go_ret
    exact ⟨.no rfl, rfl⟩
  rcases hc.form with rfl | ⟨b, off, rfl, hcell⟩
  · obtain rfl : n = 0 := HL.out.symm
    go_enter Try.func9, Try.ntmps9
    go_wp2
    refine wp_loop_rounds 1 ?_
    rw [rounds_succ]
    by_cases g1 : 1048576 < x.size
    · go_wp2
      go_ret
      exact ⟨.no rfl, rfl⟩
    by_cases g2 : 1048576 < p.size + x.size
    · go_wp2
      go_ret
      exact ⟨.no rfl, rfl⟩
    go_wp2
    go_ret
    exact ⟨.yes rfl (by omega) (by omega) (by omega) (by simp), rfl⟩
  · rw [HL.out] at hcell
    clear hc
    go_enter Try.func9, Try.ntmps9
    go_wp2
    go_loop [9, 10] (fun t i => ∃ k z : Nat, k ≤ n ∧ i = .int .i64 k ∧ t = .int .i64 z ∧ z ≤ 1048576 ∧ Hid (∀ j, j < k → (L.getD j emp).size ≤ 1048576)) (fun _ i => n - (intOf i).toNat)
    case atStart => exact ⟨0, p.size + n, Nat.zero_le _, rfl, by go_num, by omega, fun j hj => absurd hj (by omega)⟩
    case round =>
      obtain ⟨k, z, hk, rfl, rfl, hz, hall⟩ := hrel
      by_cases hlt : k < n
      · have hck := hcell k hlt
        have hsz := hb _ (getD_mem (by rw [HL.out]; exact hlt : k < L.length))
        clear hcell hb
        generalize hq : L.getD k emp = q at *
        have HQ : Hid (L.getD k emp = q) := hq
        clear hq
        by_cases g1 : 1048576 < q.size
        · go_wp2
          go_ret
          exact ⟨.no rfl, rfl⟩
        · by_cases g2 : 1048576 < z + q.size
          · go_wp2
            go_ret
            exact ⟨.no rfl, rfl⟩
          · go_wp2
            go_round
            case rel =>
              refine ⟨k + 1, z + q.size, by omega, by go_num, by go_num, by omega, fun j hj => ?_⟩
              by_cases hjk : j = k
              · subst hjk; rw [HQ.out]; omega
              · exact hall.out j (by omega)
            case measure => simp [intOf]; omega
      · by_cases g1 : 1048576 < x.size
        · go_wp2
          go_ret
          exact ⟨.no rfl, rfl⟩
        by_cases g2 : 1048576 < z + x.size
        · go_wp2
          go_ret
          exact ⟨.no rfl, rfl⟩
        go_wp2
        go_ret
        exact ⟨.yes rfl (by omega) (by omega) (by omega) fun j hj => hall.out j (by have := HL.out; omega), rfl⟩

/-- 'it answers a bool'. -/
def SomeBool (e : Ending) : Prop := ∃ b, e = .returned (.bool b)

set_option maxHeartbeats 1000000 in
theorem size6 (p x : ByteArray) (a : Option Addr) (n c : Nat) (L : List ByteArray) (HL : Hid (L.length = n)) (w : World) (hp : p.size ≤ 1048576) (hx : x.size ≤ 1048576) (hn : n ≤ 1048576) (hb : ∀ s ∈ L, s.size ≤ 1048576) (hc : Cells w a L) :
    Calls Try.prog 6 #[.string p, .slice a n c, .string x] w fun e w' => SomeBool e ∧ w' = w := by
  by_cases h3 : 1048576 < p.size + x.size
  · go_enter Try.func6, Try.ntmps6
    go_wp2
    go_ret
    exact ⟨⟨_, rfl⟩, rfl⟩
  rcases hc.form with rfl | ⟨b, off, rfl, hcell⟩
  · obtain rfl : n = 0 := HL.out.symm
    go_enter Try.func6, Try.ntmps6
    go_wp2
    refine wp_loop_rounds 1 ?_
    rw [rounds_succ]
    go_wp2
    go_ret
    exact ⟨⟨_, rfl⟩, rfl⟩
  · rw [HL.out] at hcell
    clear hc
    go_enter Try.func6, Try.ntmps6
    go_wp2
    go_loop [7, 8] (fun t i => ∃ k z : Nat, k ≤ n ∧ i = .int .i64 k ∧ t = .int .i64 z ∧ z ≤ 1048576) (fun _ i => n - (intOf i).toNat)
    case atStart => exact ⟨0, p.size + x.size, Nat.zero_le _, rfl, by go_num, by omega⟩
    case round =>
      obtain ⟨k, z, hk, rfl, rfl, hz⟩ := hrel
      by_cases hlt : k < n
      · have hck := hcell k hlt
        have hsz := hb _ (getD_mem (by rw [HL.out]; exact hlt : k < L.length))
        clear hcell hb
        generalize L.getD k emp = q at *
        by_cases g2 : 1048576 < z + (16 + q.size)
        · go_wp2
          go_ret
          exact ⟨⟨_, rfl⟩, rfl⟩
        · go_wp2
          go_round
          case rel => exact ⟨k + 1, z + (16 + q.size), by omega, by go_num, by go_num, by omega⟩
          case measure => simp [intOf]; omega
      · go_wp2
        go_ret
        exact ⟨⟨_, rfl⟩, rfl⟩
end Go.Proofs.Qxb6630829a
