import Derived.Test.Qxb6630914aRows
import Derived.WalkKit
import Derived.WalkSpells
import Derived.WalkLawsBesides
namespace Go.Proofs.Qxb6630914a
open Go.RowKit

theorem ret_bool {a b : Bool} (h : a = b) : Ending.returned (.bool a) = .returned (.bool b) := by rw [h]

/-- 'the first byte is the digit 2'. -/
def two (s : ByteArray) : Bool := s.toList.head? == some 50
theorem two_eq (s : ByteArray) (h : 0 < s.size) : ((s[0].toNat : Int) == 50) = two s := by
  have e : s.toList.head? = some s[0] := by
    rw [ByteArray.toList_eq]
    obtain ⟨⟨l⟩⟩ := s
    cases l with
    | nil => exact absurd h (by decide)
    | cons b l => rfl
  rw [two, e, Bool.eq_iff_iff]
  simp only [beq_iff_eq, Option.some.injEq]
  constructor
  · intro h
    apply UInt8.toNat_inj.1
    have : (s[0]).toNat = 50 := by omega
    rw [this]; rfl
  · intro h; rw [h]; rfl

set_option maxHeartbeats 400000 in
theorem positive6 (s : ByteArray) (w : World) (h : 0 < s.size) :
    Calls Try.prog 6 #[.string s] w fun e w' => e = .returned (.bool (two s)) ∧ w' = w := by
  go_enter Try.func6, Try.ntmps6
  go_wp2
  go_ret
  exact ⟨ret_bool (two_eq s h), rfl⟩

theorem two_cut (s t : ByteArray) (m : Nat) (h : 0 < m) (hs : 0 < s.size) : two (s.extract 0 m ++ t) = two s := by
  unfold two
  rw [ByteArray.toList_eq, ByteArray.toList_eq]
  obtain ⟨⟨l⟩⟩ := s
  rw [ByteArray.extract_mk]
  cases l with
  | nil => exact absurd hs (by decide)
  | cons b l =>
    obtain ⟨m, rfl⟩ : ∃ k, m = k + 1 := ⟨m - 1, by omega⟩
    simp

def SomeBool (e : Ending) : Prop := ∃ b, e = .returned (.bool b)

set_option maxHeartbeats 400000 in
theorem bytes5 (s t : ByteArray) (k : Int) (w : World) (hs : s.size ≤ 9223372036854775807) (ht : t.size ≤ 9223372036854775807) :
    Calls Try.prog 5 #[.string s, .string t, .int .i64 k] w fun e w' => SomeBool e ∧ w' = w := by
  go_enter Try.func5, Try.ntmps5
  go_wp2
  all_goals (go_ret; exact ⟨⟨_, rfl⟩, rfl⟩)

set_option maxHeartbeats 400000 in
theorem bytes7 (s : ByteArray) (w : World) (hs : s.size ≤ 9223372036854775807) :
    Calls Try.prog 7 #[.string s] w fun e w' => SomeBool e ∧ w' = w := by
  go_enter Try.func7, Try.ntmps7
  go_wp2
  all_goals (go_ret; exact ⟨⟨_, rfl⟩, rfl⟩)

set_option maxHeartbeats 400000 in
theorem walk3 (s t : ByteArray) (k : Int) (hs0 : s.size ≤ maxLen) (ht0 : t.size ≤ maxLen) (w : World) :
    Calls Try.prog 3 #[.string s, .string t, .int .i64 k] w fun e w' => e = .returned (.bool true) ∧ Grown w w' := by
  unfold maxLen at hs0 ht0
  go_enter Try.func3, Try.ntmps3
  go_wp2_with fail
  refine (bytes5 s t k w hs0 ht0).mono ?_
  rintro e w' ⟨⟨b, rfl⟩, rfl⟩
  cases b with
  | false =>
    go_wp2
    go_ret
    exact ⟨rfl, Grown.refl _⟩
  | true =>
    by_cases h1 : 524288 < s.size
    · go_wp2
      go_ret
      exact ⟨rfl, Grown.refl _⟩
    by_cases h2 : 524288 < t.size
    · go_wp2
      go_ret
      exact ⟨rfl, Grown.refl _⟩
    by_cases h3 : s.size = 0
    · have h3' : ((s.size : Int) == 0) = true := by simp [h3]
      go_wp2
      go_ret
      exact ⟨rfl, Grown.refl _⟩
    have h3' : ((s.size : Int) == 0) = false := beq_eq_false_iff_ne.2 (by omega)
    by_cases h4 : k < 1
    · go_wp2
      go_ret
      exact ⟨rfl, Grown.refl _⟩
    by_cases h5 : (s.size : Int) < k
    · go_wp2
      go_ret
      exact ⟨rfl, Grown.refl _⟩
    obtain ⟨m, rfl⟩ := Int.eq_ofNat_of_zero_le (by omega : 0 ≤ k)
    have hs : 0 < s.size := by omega
    have hm : 0 < m := by omega
    have hms : m ≤ s.size := by omega
    clear h4 h5 h3
    have e2 := two_eq s hs
    have e3 := two_cut s t m hm hs
    go_wp2_with fail
    refine (positive6 s _ hs).mono ?_
    rintro e w1 ⟨rfl, rfl⟩
    go_wp2_with fail
    refine (positive6 (s.extract 0 m ++ t) _ (by simp; omega)).mono ?_
    rintro e w1 ⟨rfl, rfl⟩
    rw [e3]
    clear e3
    cases two s with
    | true =>
      go_wp2
      go_ret
      exact ⟨rfl, Grown.refl _⟩
    | false =>
      go_wp2
      go_ret
      exact ⟨rfl, Grown.refl _⟩
end Go.Proofs.Qxb6630914a
