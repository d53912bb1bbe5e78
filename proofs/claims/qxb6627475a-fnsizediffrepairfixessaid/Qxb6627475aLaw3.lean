import Derived.Test.Qxb6627475aSame
namespace Go.Proofs.Qxb6627475a
open Go.RowKit

/-- The seats copied one to one. -/
def Copied (w : World) (n : Nat) (S : List Se) (e : Ending) (w' : World) : Prop := ∃ a c, e = .returned (.slice a n c) ∧ SCells w' a S ∧ Below w.heap.size w w'
theorem seats_any (a : Option Addr) (n c : Nat) (S : List Se) (HL : Hid (S.length = n)) (w : World) (hn : n ≤ 131072) (ha : a = none → n = 0 ∧ c = 0) (hc : SCells w a S) :
    Calls Try.prog 6 #[.slice a n c] w fun e w' => Copied w n S e w' := by
  cases a with
  | none =>
    obtain ⟨rfl, rfl⟩ := ha rfl
    obtain rfl : S = [] := List.eq_nil_of_length_eq_zero HL.out
    refine (seats6_nil w).mono ?_
    rintro e w' ⟨rfl, rfl⟩
    exact ⟨none, 0, rfl, no_seats _ _, Below.refl _ _⟩
  | some ad =>
    refine (seats6 ad n c S HL w hn hc).mono ?_
    rintro e w' ⟨rfl, hrow, hb⟩
    exact ⟨_, _, rfl, SCells.of_row HL.out hrow, hb⟩
theorem width_le {R : Int} {n : Nat} (hn : n ≤ 131072) (hR : R ≤ (n : Int) + 65536) : width R n ≤ 1000000 := by unfold width; split <;> omega
theorem law_other' (R O : Int) (S : List Se) : sizedB O true (fixAll R S) = (nonneg O == nonneg R) := by
  rw [law_other, Bool.eq_iff_iff]; simp

set_option maxHeartbeats 2000000 in
theorem law3 (R : Int) (kn : Bool) (a : Option Addr) (n c : Nat) (O : Int) (S : List Se) (HL : Hid (S.length = n)) (w : World) (hn : n ≤ 9223372036854775807) (ha : a = none → n = 0 ∧ c = 0) (hc : SCells w a S) :
    Calls Try.prog 3 #[.int .i64 R, .bool kn, .slice a n c, .int .i64 O] w fun e w' => e = .returned (.bool true) ∧ Below w.heap.size w w' := by
  have HA : Hid (a = none → n = 0 ∧ c = 0) := ha
  have HC : Hid (SCells w a S) := hc
  clear ha hc
  go_enter Try.func3, Try.ntmps3
  go_wp2_with fail
  refine (bytes5 R kn a n c O w hn).mono ?_
  rintro e w' ⟨⟨x, rfl, hbb⟩, rfl⟩
  cases x with
  | false =>
    go_wp2
    go_ret
    exact ⟨rfl, Below.refl _ _⟩
  | true =>
    clear hbb
    by_cases h1 : 131072 < n
    · go_wp2
      go_ret
      exact ⟨rfl, Below.refl _ _⟩
    have hn' : n ≤ 131072 := by omega
    clear hn
    go_wp2_with fail
    refine (seats_any a n c S HL w' hn' HA.out HC.out).mono ?_
    rintro e w1 ⟨sa, sc, rfl, hs1, hb1⟩
    go_wp2_with fail
    refine (sized7 R kn sa n sc S HL w1 (by omega) hs1).mono ?_
    rintro e w2 ⟨rfl, hb2⟩
    have hb12 : Below w'.heap.size w' w2 := hb1.trans (hb2.mono hb1.size)
    have HS2 : Hid (SCells w2 sa S) := hs1.below hb2
    clear hs1 hb1 hb2
    by_cases hR : (n : Int) + 65536 < R
    · have hgot : sizedB R kn S = false := sized_big (by rw [HL.out]; omega)
      go_wp2
      go_ret
      exact ⟨rfl, hb12⟩
    have hR' : R ≤ (n : Int) + 65536 := by omega
    have hW := width_le hn' hR'
    go_wp2_with fail
    refine (rep8 R sa n sc S HL w2 hn' hR' HS2.out).mono ?_
    rintro e w3 ⟨rfl, hrow, hb3⟩
    have HF3 : Hid (SCells w3 (some ⟨w2.heap.size, 0, none⟩) (fixAll R S)) := SCells.of_row (by rw [fixAll_length, HL.out]) hrow
    have HFL : Hid ((fixAll R S).length = width R n) := by rw [Hid, fixAll_length, HL.out]
    have HS3 : Hid (SCells w3 sa S) := HS2.out.below hb3
    have hb13 : Below w'.heap.size w' w3 := hb12.trans (hb3.mono hb12.size)
    have L1 : Hid (sizedB R kn S = (kn && decide (fixAll R S = S))) := law_iff R kn S
    have L2 : Hid (sizedB R true (fixAll R S) = true) := law_fixed R S
    have L3 : Hid (sizedB O false (fixAll R S) = false) := law_unknown O _
    have L4 : Hid (sizedB O true (fixAll R S) = (nonneg O == nonneg R)) := law_other' R O S
    clear hrow hb3 hb12 HS2
    generalize fixAll R S = F at *
    generalize width R n = W at *
    -- the rest, behind 'want'
    cases kn with
    | false =>
      have hg : sizedB R false S = false := rfl
      go_wp2_with fail
      refine (sized7 R true _ W W F HFL w3 hW HF3.out).mono ?_
      rintro e w4 ⟨rfl, hb4⟩
      rw [L2.out]
      go_wp2_with fail
      refine (sized7 O false _ W W F HFL w4 hW (HF3.out.below hb4)).mono ?_
      rintro e w5 ⟨rfl, hb5⟩
      rw [L3.out]
      go_wp2_with fail
      refine (sized7 O true _ W W F HFL w5 hW ((HF3.out.below hb4).below hb5)).mono ?_
      rintro e w6 ⟨rfl, hb6⟩
      have hb16 : Below w'.heap.size w' w6 := ((hb13.trans (hb4.mono hb13.size)).trans (hb5.mono (Nat.le_trans hb13.size hb4.size))).trans (hb6.mono (Nat.le_trans hb13.size (Nat.le_trans hb4.size hb5.size)))
      clear hb4 hb5 hb6 hb13
      rw [L4.out]
      go_wp2_with (go_at_call 10; refine (nonneg10 _ _).mono ?_; rintro e wz ⟨rfl, rfl⟩)
      go_ret
      exact ⟨ret_bool (by simp), hb16⟩
    | true =>
      go_wp2_with fail
      refine (same9 _ sa W W n sc F S HFL HL w3 hW (by omega) HF3.out HS3.out).mono ?_
      rintro e w3' ⟨rfl, hb3'⟩
      have hg : sizedB R true S = decide (F = S) := by rw [L1.out]; simp
      have HF3' : Hid (SCells w3' (some ⟨w2.heap.size, 0, none⟩) F) := HF3.out.below hb3'
      have hb13' : Below w'.heap.size w' w3' := hb13.trans (hb3'.mono hb13.size)
      clear hb3' hb13 HF3 HS3 L1
      generalize decide (F = S) = dd at *
      generalize sizedB R true S = gg at *
      subst hg
      cases gg
      all_goals
        go_wp2_with fail
        refine (sized7 R true _ W W F HFL w3' hW HF3'.out).mono ?_
        rintro e w4 ⟨rfl, hb4⟩
        rw [L2.out]
        go_wp2_with fail
        refine (sized7 O false _ W W F HFL w4 hW (HF3'.out.below hb4)).mono ?_
        rintro e w5 ⟨rfl, hb5⟩
        rw [L3.out]
        go_wp2_with fail
        refine (sized7 O true _ W W F HFL w5 hW ((HF3'.out.below hb4).below hb5)).mono ?_
        rintro e w6 ⟨rfl, hb6⟩
        have hb16 : Below w'.heap.size w' w6 := ((hb13'.trans (hb4.mono hb13'.size)).trans (hb5.mono (Nat.le_trans hb13'.size hb4.size))).trans (hb6.mono (Nat.le_trans hb13'.size (Nat.le_trans hb4.size hb5.size)))
        clear hb4 hb5 hb6 hb13'
        rw [L4.out]
        go_wp2_with (go_at_call 10; refine (nonneg10 _ _).mono ?_; rintro e wz ⟨rfl, rfl⟩)
        go_ret
        exact ⟨ret_bool (by simp), hb16⟩
end Go.Proofs.Qxb6627475a
