import Derived.Test.Qxb6627475aLaw3
namespace Go.Proofs.Qxb6627475a
open Go.RowKit

theorem SCells.take {w : World} {a : Option Addr} {S : List Se} (h : SCells w a S) (m : Nat) : SCells w a (S.take m) := by
  intro i hi
  simp only [List.length_take] at hi
  obtain ⟨b, off, h1, h2⟩ := h i (by omega)
  exact ⟨b, off, h1, by rw [take_getD (by omega)]; exact h2⟩
theorem SCells.drop {w : World} {g : Nat} {S : List Se} (h : SCells w (some ⟨g, 0, none⟩) S) (m : Nat) : SCells w (some ⟨g, m * 5, none⟩) (S.drop m) := by
  intro i hi
  simp only [List.length_drop] at hi
  obtain ⟨b, off, h1, h2⟩ := h (m + i) (by omega)
  simp only [Option.some.injEq, Addr.mk.injEq, and_true] at h1
  obtain ⟨rfl, rfl⟩ := h1
  refine ⟨g, m * 5, rfl, ?_⟩
  rw [drop_getD]
  rw [show 0 + (m + i) * 5 = m * 5 + i * 5 by omega] at h2
  exact h2
theorem SCells.dropAll {w : World} {a : Option Addr} {S : List Se} {m : Nat} (h : S.length = m) : SCells w a (S.drop m) := by
  intro i hi
  simp only [List.length_drop] at hi
  omega
theorem split_hi {R : Int} {kn : Bool} {S : List Se} {x : Nat} (h : (x : Int) < R) (hx : x ≤ S.length) : sizedB R kn S = (sizedB (x : Int) kn (S.take x) && sizedB (R - (x : Int)) kn (S.drop x)) := by
  have := law_split R kn S x hx
  rwa [headR, tailR, if_pos h, if_pos h] at this
theorem split_lo {R : Int} {kn : Bool} {S : List Se} {x : Nat} (h : R ≤ (x : Int)) (hx : x ≤ S.length) : sizedB R kn S = (sizedB R kn (S.take x) && sizedB 0 kn (S.drop x)) := by
  have := law_split R kn S x hx
  rwa [headR, tailR, if_neg (by omega), if_neg (by omega)] at this
theorem split0_hi {R : Int} {kn : Bool} {S : List Se} (h : 0 < R) : sizedB R kn S = (sizedB 0 kn (S.take 0) && sizedB R kn (S.drop 0)) := by
  have := split_hi (R := R) (kn := kn) (S := S) (x := 0) h (Nat.zero_le _)
  rwa [show R - ((0 : Nat) : Int) = R by omega] at this
theorem split0_lo {R : Int} {kn : Bool} {S : List Se} (h : R ≤ 0) : sizedB R kn S = (sizedB R kn (S.take 0) && sizedB 0 kn (S.drop 0)) := split_lo (x := 0) h (Nat.zero_le _)
theorem fixed_hi {R : Int} {S : List Se} {x : Nat} (h : (x : Int) < R) (hx : x ≤ S.length) : sizedB (x : Int) true ((fixAll R S).take x) = true ∧ sizedB (R - (x : Int)) true ((fixAll R S).drop x) = true := by
  have := law_split_fixed R S x hx
  rwa [headR, tailR, if_pos h, if_pos h] at this
theorem fixed_lo {R : Int} {S : List Se} {x : Nat} (h : R ≤ (x : Int)) (hx : x ≤ S.length) : sizedB R true ((fixAll R S).take x) = true ∧ sizedB 0 true ((fixAll R S).drop x) = true := by
  have := law_split_fixed R S x hx
  rwa [headR, tailR, if_neg (by omega), if_neg (by omega)] at this
theorem fixed0_hi {R : Int} {S : List Se} (h : 0 < R) : sizedB 0 true ((fixAll R S).take 0) = true ∧ sizedB R true ((fixAll R S).drop 0) = true := by
  have := fixed_hi (R := R) (S := S) (x := 0) h (Nat.zero_le _)
  rwa [show R - ((0 : Nat) : Int) = R by omega] at this
theorem fixed0_lo {R : Int} {S : List Se} (h : R ≤ 0) : sizedB R true ((fixAll R S).take 0) = true ∧ sizedB 0 true ((fixAll R S).drop 0) = true := fixed_lo (x := 0) h (Nat.zero_le _)

set_option maxHeartbeats 8000000 in
theorem law4 (R : Int) (kn : Bool) (a : Option Addr) (n c : Nat) (cut : Int) (S : List Se) (HL : Hid (S.length = n)) (w : World) (hRw : R ≤ 9223372036854775807) (hn : n ≤ 9223372036854775807) (ha : a = none → n = 0 ∧ c = 0) (hc : SCells w a S) :
    Calls Try.prog 4 #[.int .i64 R, .bool kn, .slice a n c, .int .i64 cut] w fun e w' => e = .returned (.bool true) ∧ Below w.heap.size w w' := by
  have HA : Hid (a = none → n = 0 ∧ c = 0) := ha
  have HC : Hid (SCells w a S) := hc
  clear ha hc
  go_enter Try.func4, Try.ntmps4
  go_wp2_with fail
  refine (bytes11 R kn a n c cut w hn).mono ?_
  rintro e w' ⟨⟨y, rfl, hbb⟩, rfl⟩
  cases y with
  | false =>
    go_wp2
    go_ret
    exact ⟨rfl, Below.refl _ _⟩
  | true =>
    clear hbb
    by_cases h1 : 131072 < n
    · go_wp2
      go_ret
      exact ⟨rfl, Below.refl _ _⟩
    have hn' : n ≤ 131072 := by omega
    clear hn
    by_cases hk0 : cut < 0
    · go_wp2
      go_ret
      exact ⟨rfl, Below.refl _ _⟩
    by_cases hk1 : (n : Int) < cut
    · go_wp2
      go_ret
      exact ⟨rfl, Below.refl _ _⟩
    obtain ⟨x, rfl⟩ := Int.eq_ofNat_of_zero_le (by omega : 0 ≤ cut)
    have hxn : x ≤ n := by omega
    clear hk0 hk1 h1
    go_wp2_with fail
    cases a with
    | none =>
      obtain ⟨rfl, rfl⟩ := HA.out rfl
      obtain rfl : x = 0 := by omega
      refine (seats6_nil w').mono ?_
      rintro e w1 ⟨rfl, hw1⟩
      have hb1 : Below w'.heap.size w' w1 := hw1 ▸ Below.refl _ _
      have hs1 : SCells w1 none S := by rw [List.eq_nil_of_length_eq_zero HL.out]; exact no_seats _ _
      clear hw1
      by_cases hxR : 0 < R
      · go_wp2_with fail
        refine (sized7 R kn none 0 0 S HL w1 (by omega) hs1).mono ?_
        rintro e w2 ⟨rfl, hb2⟩
        have hs2 := hs1.below hb2
        have hb02 : Below w'.heap.size w' w2 := hb1.trans (hb2.mono hb1.size)
        have LB : Hid (((0 : Nat) : Int) + 65536 < R → sizedB R kn S = false) := fun h => sized_big (by rw [HL.out]; omega)
        have LS : Hid (sizedB R kn S = (sizedB 0 kn (S.take 0) && sizedB R kn (S.drop 0))) := split0_hi (by omega)
        clear hb1 hb2 hs1
        generalize sizedB R kn S = gg at *
        go_wp2_with fail
        refine (sized7 0 kn none 0 0 (S.take 0) rfl w2 (by omega) (by rw [List.take_zero]; exact no_seats _ _)).mono ?_
        rintro e w3 ⟨rfl, hb3⟩
        have hs3 := hs2.below hb3
        have hb03 : Below w'.heap.size w' w3 := hb02.trans (hb3.mono hb02.size)
        clear hb02 hb3 hs2
        generalize sizedB 0 kn (S.take 0) = p1 at *
        cases p1 with
        | false =>
          obtain rfl : gg = false := by rw [LS.out]; rfl
          clear LB LS
          by_cases hR : 65536 < R
          · go_wp2
            go_ret
            exact ⟨rfl, hb03⟩
          · have hR' : R ≤ ((0 : Nat) : Int) + 65536 := by omega
            have hbw := hb03
            have HS : Hid (SCells w3 none S) := hs3
            clear hb03 hs3
            go_wp2_with fail
            have hW := width_le (R := R) hn' hR'
            refine (rep8 R none 0 0 S HL w3 hn' hR' HS.out).mono ?_
            rintro e w6 ⟨rfl, hrow, hb6⟩
            have HF6 : Hid (SCells w6 (some ⟨w3.heap.size, 0, none⟩) (fixAll R S)) := SCells.of_row (by rw [fixAll_length, HL.out]) hrow
            have HFL : Hid ((fixAll R S).length = width R 0) := by rw [Hid, fixAll_length, HL.out]
            have hb06 : Below w'.heap.size w' w6 := hbw.trans (hb6.mono hbw.size)
            have L2 : Hid (sizedB R true (fixAll R S) = true) := law_fixed R S
            have L3 : Hid (sizedB 0 true ((fixAll R S).take 0) = true ∧ sizedB R true ((fixAll R S).drop 0) = true) := fixed0_hi (by omega)
            have hwx : 0 ≤ width R 0 := Nat.le_trans hxn (width_ge R 0).1
            clear hrow hb6 hbw HS
            generalize fixAll R S = F at *
            generalize width R 0 = W at *
            go_wp2_with fail
            refine (sized7 R true _ W W F HFL w6 hW HF6.out).mono ?_
            rintro e w7 ⟨rfl, hb7⟩
            rw [L2.out]
            have HF7 : Hid (SCells w7 (some ⟨w3.heap.size, 0, none⟩) F) := HF6.out.below hb7
            have hb07 : Below w'.heap.size w' w7 := hb06.trans (hb7.mono hb06.size)
            clear hb7 hb06 HF6 L2
            go_wp2_with fail
            refine (sized7 0 true _ 0 W (F.take 0) (show (F.take 0).length = 0 by rw [List.length_take, HFL.out]; omega) w7 (by omega) (HF7.out.take 0)).mono ?_
            rintro e w8 ⟨rfl, hb8⟩
            rw [L3.out.1]
            have HF8 : Hid (SCells w8 (some ⟨w3.heap.size, 0, none⟩) F) := HF7.out.below hb8
            have hb08 : Below w'.heap.size w' w8 := hb07.trans (hb8.mono hb07.size)
            clear hb8 hb07 HF7
            go_wp2_with fail
            refine (sized7 R true _ W W (F.drop 0) (show (F.drop 0).length = W by rw [List.drop_zero, HFL.out]) w8 (by omega) (by rw [List.drop_zero]; exact HF8.out)).mono ?_
            rintro e w9 ⟨rfl, hb9⟩
            rw [L3.out.2]
            have hb09 : Below w'.heap.size w' w9 := hb08.trans (hb9.mono hb08.size)
            clear hb9 hb08
            go_wp2
            go_ret
            exact ⟨rfl, hb09⟩
        | true =>
          go_wp2_with fail
          refine (sized7 R kn none 0 0 (S.drop 0) (show (S.drop 0).length = 0 by rw [List.length_drop, HL.out]) w3 (by omega) (by rw [List.eq_nil_of_length_eq_zero HL.out]; exact no_seats _ _)).mono ?_
          rintro e w4 ⟨rfl, hb4⟩
          have hs4 := hs3.below hb4
          have hb04 : Below w'.heap.size w' w4 := hb03.trans (hb4.mono hb03.size)
          clear hb03 hb4 hs3
          generalize sizedB R kn (S.drop 0) = p2 at *
          obtain rfl : gg = p2 := by rw [LS.out]; rfl
          clear LS
          by_cases hR : 65536 < R
          · obtain rfl : gg = false := LB.out (by omega)
            clear LB
            go_wp2
            go_ret
            exact ⟨rfl, hb04⟩
          · have hR' : R ≤ ((0 : Nat) : Int) + 65536 := by omega
            have hbw := hb04
            have HS : Hid (SCells w4 none S) := hs4
            clear hb04 hs4 LB
            cases gg with
            | false =>
              go_wp2_with fail
              have hW := width_le (R := R) hn' hR'
              refine (rep8 R none 0 0 S HL w4 hn' hR' HS.out).mono ?_
              rintro e w6 ⟨rfl, hrow, hb6⟩
              have HF6 : Hid (SCells w6 (some ⟨w4.heap.size, 0, none⟩) (fixAll R S)) := SCells.of_row (by rw [fixAll_length, HL.out]) hrow
              have HFL : Hid ((fixAll R S).length = width R 0) := by rw [Hid, fixAll_length, HL.out]
              have hb06 : Below w'.heap.size w' w6 := hbw.trans (hb6.mono hbw.size)
              have L2 : Hid (sizedB R true (fixAll R S) = true) := law_fixed R S
              have L3 : Hid (sizedB 0 true ((fixAll R S).take 0) = true ∧ sizedB R true ((fixAll R S).drop 0) = true) := fixed0_hi (by omega)
              have hwx : 0 ≤ width R 0 := Nat.le_trans hxn (width_ge R 0).1
              clear hrow hb6 hbw HS
              generalize fixAll R S = F at *
              generalize width R 0 = W at *
              go_wp2_with fail
              refine (sized7 R true _ W W F HFL w6 hW HF6.out).mono ?_
              rintro e w7 ⟨rfl, hb7⟩
              rw [L2.out]
              have HF7 : Hid (SCells w7 (some ⟨w4.heap.size, 0, none⟩) F) := HF6.out.below hb7
              have hb07 : Below w'.heap.size w' w7 := hb06.trans (hb7.mono hb06.size)
              clear hb7 hb06 HF6 L2
              go_wp2_with fail
              refine (sized7 0 true _ 0 W (F.take 0) (show (F.take 0).length = 0 by rw [List.length_take, HFL.out]; omega) w7 (by omega) (HF7.out.take 0)).mono ?_
              rintro e w8 ⟨rfl, hb8⟩
              rw [L3.out.1]
              have HF8 : Hid (SCells w8 (some ⟨w4.heap.size, 0, none⟩) F) := HF7.out.below hb8
              have hb08 : Below w'.heap.size w' w8 := hb07.trans (hb8.mono hb07.size)
              clear hb8 hb07 HF7
              go_wp2_with fail
              refine (sized7 R true _ W W (F.drop 0) (show (F.drop 0).length = W by rw [List.drop_zero, HFL.out]) w8 (by omega) (by rw [List.drop_zero]; exact HF8.out)).mono ?_
              rintro e w9 ⟨rfl, hb9⟩
              rw [L3.out.2]
              have hb09 : Below w'.heap.size w' w9 := hb08.trans (hb9.mono hb08.size)
              clear hb9 hb08
              go_wp2
              go_ret
              exact ⟨rfl, hb09⟩
            | true =>
              go_wp2_with fail
              have hW := width_le (R := R) hn' hR'
              refine (rep8 R none 0 0 S HL w4 hn' hR' HS.out).mono ?_
              rintro e w6 ⟨rfl, hrow, hb6⟩
              have HF6 : Hid (SCells w6 (some ⟨w4.heap.size, 0, none⟩) (fixAll R S)) := SCells.of_row (by rw [fixAll_length, HL.out]) hrow
              have HFL : Hid ((fixAll R S).length = width R 0) := by rw [Hid, fixAll_length, HL.out]
              have hb06 : Below w'.heap.size w' w6 := hbw.trans (hb6.mono hbw.size)
              have L2 : Hid (sizedB R true (fixAll R S) = true) := law_fixed R S
              have L3 : Hid (sizedB 0 true ((fixAll R S).take 0) = true ∧ sizedB R true ((fixAll R S).drop 0) = true) := fixed0_hi (by omega)
              have hwx : 0 ≤ width R 0 := Nat.le_trans hxn (width_ge R 0).1
              clear hrow hb6 hbw HS
              generalize fixAll R S = F at *
              generalize width R 0 = W at *
              go_wp2_with fail
              refine (sized7 R true _ W W F HFL w6 hW HF6.out).mono ?_
              rintro e w7 ⟨rfl, hb7⟩
              rw [L2.out]
              have HF7 : Hid (SCells w7 (some ⟨w4.heap.size, 0, none⟩) F) := HF6.out.below hb7
              have hb07 : Below w'.heap.size w' w7 := hb06.trans (hb7.mono hb06.size)
              clear hb7 hb06 HF6 L2
              go_wp2_with fail
              refine (sized7 0 true _ 0 W (F.take 0) (show (F.take 0).length = 0 by rw [List.length_take, HFL.out]; omega) w7 (by omega) (HF7.out.take 0)).mono ?_
              rintro e w8 ⟨rfl, hb8⟩
              rw [L3.out.1]
              have HF8 : Hid (SCells w8 (some ⟨w4.heap.size, 0, none⟩) F) := HF7.out.below hb8
              have hb08 : Below w'.heap.size w' w8 := hb07.trans (hb8.mono hb07.size)
              clear hb8 hb07 HF7
              go_wp2_with fail
              refine (sized7 R true _ W W (F.drop 0) (show (F.drop 0).length = W by rw [List.drop_zero, HFL.out]) w8 (by omega) (by rw [List.drop_zero]; exact HF8.out)).mono ?_
              rintro e w9 ⟨rfl, hb9⟩
              rw [L3.out.2]
              have hb09 : Below w'.heap.size w' w9 := hb08.trans (hb9.mono hb08.size)
              clear hb9 hb08
              go_wp2
              go_ret
              exact ⟨rfl, hb09⟩
      · go_wp2_with fail
        refine (sized7 R kn none 0 0 S HL w1 (by omega) hs1).mono ?_
        rintro e w2 ⟨rfl, hb2⟩
        have hs2 := hs1.below hb2
        have hb02 : Below w'.heap.size w' w2 := hb1.trans (hb2.mono hb1.size)
        have LB : Hid (((0 : Nat) : Int) + 65536 < R → sizedB R kn S = false) := fun h => sized_big (by rw [HL.out]; omega)
        have LS : Hid (sizedB R kn S = (sizedB R kn (S.take 0) && sizedB 0 kn (S.drop 0))) := split0_lo (by omega)
        clear hb1 hb2 hs1
        generalize sizedB R kn S = gg at *
        go_wp2_with fail
        refine (sized7 R kn none 0 0 (S.take 0) rfl w2 (by omega) (by rw [List.take_zero]; exact no_seats _ _)).mono ?_
        rintro e w3 ⟨rfl, hb3⟩
        have hs3 := hs2.below hb3
        have hb03 : Below w'.heap.size w' w3 := hb02.trans (hb3.mono hb02.size)
        clear hb02 hb3 hs2
        generalize sizedB R kn (S.take 0) = p1 at *
        cases p1 with
        | false =>
          obtain rfl : gg = false := by rw [LS.out]; rfl
          clear LB LS
          by_cases hR : 65536 < R
          · go_wp2
            go_ret
            exact ⟨rfl, hb03⟩
          · have hR' : R ≤ ((0 : Nat) : Int) + 65536 := by omega
            have hbw := hb03
            have HS : Hid (SCells w3 none S) := hs3
            clear hb03 hs3
            go_wp2_with fail
            have hW := width_le (R := R) hn' hR'
            refine (rep8 R none 0 0 S HL w3 hn' hR' HS.out).mono ?_
            rintro e w6 ⟨rfl, hrow, hb6⟩
            have HF6 : Hid (SCells w6 (some ⟨w3.heap.size, 0, none⟩) (fixAll R S)) := SCells.of_row (by rw [fixAll_length, HL.out]) hrow
            have HFL : Hid ((fixAll R S).length = width R 0) := by rw [Hid, fixAll_length, HL.out]
            have hb06 : Below w'.heap.size w' w6 := hbw.trans (hb6.mono hbw.size)
            have L2 : Hid (sizedB R true (fixAll R S) = true) := law_fixed R S
            have L3 : Hid (sizedB R true ((fixAll R S).take 0) = true ∧ sizedB 0 true ((fixAll R S).drop 0) = true) := fixed0_lo (by omega)
            have hwx : 0 ≤ width R 0 := Nat.le_trans hxn (width_ge R 0).1
            clear hrow hb6 hbw HS
            generalize fixAll R S = F at *
            generalize width R 0 = W at *
            go_wp2_with fail
            refine (sized7 R true _ W W F HFL w6 hW HF6.out).mono ?_
            rintro e w7 ⟨rfl, hb7⟩
            rw [L2.out]
            have HF7 : Hid (SCells w7 (some ⟨w3.heap.size, 0, none⟩) F) := HF6.out.below hb7
            have hb07 : Below w'.heap.size w' w7 := hb06.trans (hb7.mono hb06.size)
            clear hb7 hb06 HF6 L2
            go_wp2_with fail
            refine (sized7 R true _ 0 W (F.take 0) (show (F.take 0).length = 0 by rw [List.length_take, HFL.out]; omega) w7 (by omega) (HF7.out.take 0)).mono ?_
            rintro e w8 ⟨rfl, hb8⟩
            rw [L3.out.1]
            have HF8 : Hid (SCells w8 (some ⟨w3.heap.size, 0, none⟩) F) := HF7.out.below hb8
            have hb08 : Below w'.heap.size w' w8 := hb07.trans (hb8.mono hb07.size)
            clear hb8 hb07 HF7
            go_wp2_with fail
            refine (sized7 0 true _ W W (F.drop 0) (show (F.drop 0).length = W by rw [List.drop_zero, HFL.out]) w8 (by omega) (by rw [List.drop_zero]; exact HF8.out)).mono ?_
            rintro e w9 ⟨rfl, hb9⟩
            rw [L3.out.2]
            have hb09 : Below w'.heap.size w' w9 := hb08.trans (hb9.mono hb08.size)
            clear hb9 hb08
            go_wp2
            go_ret
            exact ⟨rfl, hb09⟩
        | true =>
          go_wp2_with fail
          refine (sized7 0 kn none 0 0 (S.drop 0) (show (S.drop 0).length = 0 by rw [List.length_drop, HL.out]) w3 (by omega) (by rw [List.eq_nil_of_length_eq_zero HL.out]; exact no_seats _ _)).mono ?_
          rintro e w4 ⟨rfl, hb4⟩
          have hs4 := hs3.below hb4
          have hb04 : Below w'.heap.size w' w4 := hb03.trans (hb4.mono hb03.size)
          clear hb03 hb4 hs3
          generalize sizedB 0 kn (S.drop 0) = p2 at *
          obtain rfl : gg = p2 := by rw [LS.out]; rfl
          clear LS
          by_cases hR : 65536 < R
          · obtain rfl : gg = false := LB.out (by omega)
            clear LB
            go_wp2
            go_ret
            exact ⟨rfl, hb04⟩
          · have hR' : R ≤ ((0 : Nat) : Int) + 65536 := by omega
            have hbw := hb04
            have HS : Hid (SCells w4 none S) := hs4
            clear hb04 hs4 LB
            cases gg with
            | false =>
              go_wp2_with fail
              have hW := width_le (R := R) hn' hR'
              refine (rep8 R none 0 0 S HL w4 hn' hR' HS.out).mono ?_
              rintro e w6 ⟨rfl, hrow, hb6⟩
              have HF6 : Hid (SCells w6 (some ⟨w4.heap.size, 0, none⟩) (fixAll R S)) := SCells.of_row (by rw [fixAll_length, HL.out]) hrow
              have HFL : Hid ((fixAll R S).length = width R 0) := by rw [Hid, fixAll_length, HL.out]
              have hb06 : Below w'.heap.size w' w6 := hbw.trans (hb6.mono hbw.size)
              have L2 : Hid (sizedB R true (fixAll R S) = true) := law_fixed R S
              have L3 : Hid (sizedB R true ((fixAll R S).take 0) = true ∧ sizedB 0 true ((fixAll R S).drop 0) = true) := fixed0_lo (by omega)
              have hwx : 0 ≤ width R 0 := Nat.le_trans hxn (width_ge R 0).1
              clear hrow hb6 hbw HS
              generalize fixAll R S = F at *
              generalize width R 0 = W at *
              go_wp2_with fail
              refine (sized7 R true _ W W F HFL w6 hW HF6.out).mono ?_
              rintro e w7 ⟨rfl, hb7⟩
              rw [L2.out]
              have HF7 : Hid (SCells w7 (some ⟨w4.heap.size, 0, none⟩) F) := HF6.out.below hb7
              have hb07 : Below w'.heap.size w' w7 := hb06.trans (hb7.mono hb06.size)
              clear hb7 hb06 HF6 L2
              go_wp2_with fail
              refine (sized7 R true _ 0 W (F.take 0) (show (F.take 0).length = 0 by rw [List.length_take, HFL.out]; omega) w7 (by omega) (HF7.out.take 0)).mono ?_
              rintro e w8 ⟨rfl, hb8⟩
              rw [L3.out.1]
              have HF8 : Hid (SCells w8 (some ⟨w4.heap.size, 0, none⟩) F) := HF7.out.below hb8
              have hb08 : Below w'.heap.size w' w8 := hb07.trans (hb8.mono hb07.size)
              clear hb8 hb07 HF7
              go_wp2_with fail
              refine (sized7 0 true _ W W (F.drop 0) (show (F.drop 0).length = W by rw [List.drop_zero, HFL.out]) w8 (by omega) (by rw [List.drop_zero]; exact HF8.out)).mono ?_
              rintro e w9 ⟨rfl, hb9⟩
              rw [L3.out.2]
              have hb09 : Below w'.heap.size w' w9 := hb08.trans (hb9.mono hb08.size)
              clear hb9 hb08
              go_wp2
              go_ret
              exact ⟨rfl, hb09⟩
            | true =>
              go_wp2_with fail
              have hW := width_le (R := R) hn' hR'
              refine (rep8 R none 0 0 S HL w4 hn' hR' HS.out).mono ?_
              rintro e w6 ⟨rfl, hrow, hb6⟩
              have HF6 : Hid (SCells w6 (some ⟨w4.heap.size, 0, none⟩) (fixAll R S)) := SCells.of_row (by rw [fixAll_length, HL.out]) hrow
              have HFL : Hid ((fixAll R S).length = width R 0) := by rw [Hid, fixAll_length, HL.out]
              have hb06 : Below w'.heap.size w' w6 := hbw.trans (hb6.mono hbw.size)
              have L2 : Hid (sizedB R true (fixAll R S) = true) := law_fixed R S
              have L3 : Hid (sizedB R true ((fixAll R S).take 0) = true ∧ sizedB 0 true ((fixAll R S).drop 0) = true) := fixed0_lo (by omega)
              have hwx : 0 ≤ width R 0 := Nat.le_trans hxn (width_ge R 0).1
              clear hrow hb6 hbw HS
              generalize fixAll R S = F at *
              generalize width R 0 = W at *
              go_wp2_with fail
              refine (sized7 R true _ W W F HFL w6 hW HF6.out).mono ?_
              rintro e w7 ⟨rfl, hb7⟩
              rw [L2.out]
              have HF7 : Hid (SCells w7 (some ⟨w4.heap.size, 0, none⟩) F) := HF6.out.below hb7
              have hb07 : Below w'.heap.size w' w7 := hb06.trans (hb7.mono hb06.size)
              clear hb7 hb06 HF6 L2
              go_wp2_with fail
              refine (sized7 R true _ 0 W (F.take 0) (show (F.take 0).length = 0 by rw [List.length_take, HFL.out]; omega) w7 (by omega) (HF7.out.take 0)).mono ?_
              rintro e w8 ⟨rfl, hb8⟩
              rw [L3.out.1]
              have HF8 : Hid (SCells w8 (some ⟨w4.heap.size, 0, none⟩) F) := HF7.out.below hb8
              have hb08 : Below w'.heap.size w' w8 := hb07.trans (hb8.mono hb07.size)
              clear hb8 hb07 HF7
              go_wp2_with fail
              refine (sized7 0 true _ W W (F.drop 0) (show (F.drop 0).length = W by rw [List.drop_zero, HFL.out]) w8 (by omega) (by rw [List.drop_zero]; exact HF8.out)).mono ?_
              rintro e w9 ⟨rfl, hb9⟩
              rw [L3.out.2]
              have hb09 : Below w'.heap.size w' w9 := hb08.trans (hb9.mono hb08.size)
              clear hb9 hb08
              go_wp2
              go_ret
              exact ⟨rfl, hb09⟩
    | some ad =>
      refine (seats6 ad n c S HL w' hn' HC.out).mono ?_
      rintro e w1 ⟨rfl, hrow, hb1⟩
      have hs1 : SCells w1 (some ⟨w'.heap.size, 0, none⟩) S := SCells.of_row HL.out hrow
      clear hrow HC HA
      by_cases hxe : x = n
      · subst hxe
        by_cases hxR : ((x : Nat) : Int) < R
        · go_wp2_with fail
          refine (sized7 R kn (some ⟨w'.heap.size, 0, none⟩) x x S HL w1 (by omega) hs1).mono ?_
          rintro e w2 ⟨rfl, hb2⟩
          have hs2 := hs1.below hb2
          have hb02 : Below w'.heap.size w' w2 := hb1.trans (hb2.mono hb1.size)
          have LB : Hid (((x : Nat) : Int) + 65536 < R → sizedB R kn S = false) := fun h => sized_big (by rw [HL.out]; omega)
          have LS : Hid (sizedB R kn S = (sizedB ((x : Nat) : Int) kn (S.take x) && sizedB (R - ((x : Nat) : Int)) kn (S.drop x))) := split_hi (by omega) (by rw [HL.out]; omega)
          clear hb1 hb2 hs1
          generalize sizedB R kn S = gg at *
          go_wp2_with fail
          refine (sized7 ((x : Nat) : Int) kn (some ⟨w'.heap.size, 0, none⟩) x x (S.take x) (show (S.take x).length = x by rw [List.length_take, HL.out]; omega) w2 (by omega) (hs2.take x)).mono ?_
          rintro e w3 ⟨rfl, hb3⟩
          have hs3 := hs2.below hb3
          have hb03 : Below w'.heap.size w' w3 := hb02.trans (hb3.mono hb02.size)
          clear hb02 hb3 hs2
          generalize sizedB ((x : Nat) : Int) kn (S.take x) = p1 at *
          cases p1 with
          | false =>
            obtain rfl : gg = false := by rw [LS.out]; rfl
            clear LB LS
            by_cases hR : ((x : Nat) : Int) + 65536 < R
            · go_wp2
              go_ret
              exact ⟨rfl, hb03⟩
            · have hR' : R ≤ ((x : Nat) : Int) + 65536 := by omega
              have hbw := hb03
              have HS : Hid (SCells w3 (some ⟨w'.heap.size, 0, none⟩) S) := hs3
              clear hb03 hs3
              go_wp2_with fail
              have hW := width_le (R := R) hn' hR'
              refine (rep8 R (some ⟨w'.heap.size, 0, none⟩) x x S HL w3 hn' hR' HS.out).mono ?_
              rintro e w6 ⟨rfl, hrow, hb6⟩
              have HF6 : Hid (SCells w6 (some ⟨w3.heap.size, 0, none⟩) (fixAll R S)) := SCells.of_row (by rw [fixAll_length, HL.out]) hrow
              have HFL : Hid ((fixAll R S).length = width R x) := by rw [Hid, fixAll_length, HL.out]
              have hb06 : Below w'.heap.size w' w6 := hbw.trans (hb6.mono hbw.size)
              have L2 : Hid (sizedB R true (fixAll R S) = true) := law_fixed R S
              have L3 : Hid (sizedB ((x : Nat) : Int) true ((fixAll R S).take x) = true ∧ sizedB (R - ((x : Nat) : Int)) true ((fixAll R S).drop x) = true) := fixed_hi (by omega) (by rw [HL.out]; omega)
              have hwx : x ≤ width R x := Nat.le_trans hxn (width_ge R x).1
              clear hrow hb6 hbw HS
              generalize fixAll R S = F at *
              generalize width R x = W at *
              go_wp2_with fail
              refine (sized7 R true _ W W F HFL w6 hW HF6.out).mono ?_
              rintro e w7 ⟨rfl, hb7⟩
              rw [L2.out]
              have HF7 : Hid (SCells w7 (some ⟨w3.heap.size, 0, none⟩) F) := HF6.out.below hb7
              have hb07 : Below w'.heap.size w' w7 := hb06.trans (hb7.mono hb06.size)
              clear hb7 hb06 HF6 L2
              go_wp2_with fail
              refine (sized7 ((x : Nat) : Int) true _ x W (F.take x) (show (F.take x).length = x by rw [List.length_take, HFL.out]; omega) w7 (by omega) (HF7.out.take x)).mono ?_
              rintro e w8 ⟨rfl, hb8⟩
              rw [L3.out.1]
              have HF8 : Hid (SCells w8 (some ⟨w3.heap.size, 0, none⟩) F) := HF7.out.below hb8
              have hb08 : Below w'.heap.size w' w8 := hb07.trans (hb8.mono hb07.size)
              clear hb8 hb07 HF7
              by_cases hxW : x = W
              · subst hxW
                go_wp2_with fail
                refine (sized7 (R - ((x : Nat) : Int)) true _ 0 0 (F.drop x) (show (F.drop x).length = 0 by rw [List.length_drop, HFL.out]; omega) w8 (by omega) (SCells.dropAll HFL.out)).mono ?_
                rintro e w9 ⟨rfl, hb9⟩
                rw [L3.out.2]
                have hb09 : Below w'.heap.size w' w9 := hb08.trans (hb9.mono hb08.size)
                clear hb9 hb08
                go_wp2
                go_ret
                exact ⟨rfl, hb09⟩
              · have hxW' : x < W := by omega
                clear hxW
                go_wp2_with fail
                refine (sized7 (R - ((x : Nat) : Int)) true _ (W - x) (W - x) (F.drop x) (show (F.drop x).length = W - x by rw [List.length_drop, HFL.out]) w8 (by omega) (HF8.out.drop x)).mono ?_
                rintro e w9 ⟨rfl, hb9⟩
                rw [L3.out.2]
                have hb09 : Below w'.heap.size w' w9 := hb08.trans (hb9.mono hb08.size)
                clear hb9 hb08
                go_wp2
                go_ret
                exact ⟨rfl, hb09⟩
          | true =>
            go_wp2_with fail
            refine (sized7 (R - ((x : Nat) : Int)) kn (some ⟨w'.heap.size, 0, none⟩) 0 0 (S.drop x) (show (S.drop x).length = 0 by rw [List.length_drop, HL.out]; omega) w3 (by omega) (SCells.dropAll HL.out)).mono ?_
            rintro e w4 ⟨rfl, hb4⟩
            have hs4 := hs3.below hb4
            have hb04 : Below w'.heap.size w' w4 := hb03.trans (hb4.mono hb03.size)
            clear hb03 hb4 hs3
            generalize sizedB (R - ((x : Nat) : Int)) kn (S.drop x) = p2 at *
            obtain rfl : gg = p2 := by rw [LS.out]; rfl
            clear LS
            by_cases hR : ((x : Nat) : Int) + 65536 < R
            · obtain rfl : gg = false := LB.out hR
              clear LB
              go_wp2
              go_ret
              exact ⟨rfl, hb04⟩
            · have hR' : R ≤ ((x : Nat) : Int) + 65536 := by omega
              have hbw := hb04
              have HS : Hid (SCells w4 (some ⟨w'.heap.size, 0, none⟩) S) := hs4
              clear hb04 hs4 LB
              cases gg with
              | false =>
                go_wp2_with fail
                have hW := width_le (R := R) hn' hR'
                refine (rep8 R (some ⟨w'.heap.size, 0, none⟩) x x S HL w4 hn' hR' HS.out).mono ?_
                rintro e w6 ⟨rfl, hrow, hb6⟩
                have HF6 : Hid (SCells w6 (some ⟨w4.heap.size, 0, none⟩) (fixAll R S)) := SCells.of_row (by rw [fixAll_length, HL.out]) hrow
                have HFL : Hid ((fixAll R S).length = width R x) := by rw [Hid, fixAll_length, HL.out]
                have hb06 : Below w'.heap.size w' w6 := hbw.trans (hb6.mono hbw.size)
                have L2 : Hid (sizedB R true (fixAll R S) = true) := law_fixed R S
                have L3 : Hid (sizedB ((x : Nat) : Int) true ((fixAll R S).take x) = true ∧ sizedB (R - ((x : Nat) : Int)) true ((fixAll R S).drop x) = true) := fixed_hi (by omega) (by rw [HL.out]; omega)
                have hwx : x ≤ width R x := Nat.le_trans hxn (width_ge R x).1
                clear hrow hb6 hbw HS
                generalize fixAll R S = F at *
                generalize width R x = W at *
                go_wp2_with fail
                refine (sized7 R true _ W W F HFL w6 hW HF6.out).mono ?_
                rintro e w7 ⟨rfl, hb7⟩
                rw [L2.out]
                have HF7 : Hid (SCells w7 (some ⟨w4.heap.size, 0, none⟩) F) := HF6.out.below hb7
                have hb07 : Below w'.heap.size w' w7 := hb06.trans (hb7.mono hb06.size)
                clear hb7 hb06 HF6 L2
                go_wp2_with fail
                refine (sized7 ((x : Nat) : Int) true _ x W (F.take x) (show (F.take x).length = x by rw [List.length_take, HFL.out]; omega) w7 (by omega) (HF7.out.take x)).mono ?_
                rintro e w8 ⟨rfl, hb8⟩
                rw [L3.out.1]
                have HF8 : Hid (SCells w8 (some ⟨w4.heap.size, 0, none⟩) F) := HF7.out.below hb8
                have hb08 : Below w'.heap.size w' w8 := hb07.trans (hb8.mono hb07.size)
                clear hb8 hb07 HF7
                by_cases hxW : x = W
                · subst hxW
                  go_wp2_with fail
                  refine (sized7 (R - ((x : Nat) : Int)) true _ 0 0 (F.drop x) (show (F.drop x).length = 0 by rw [List.length_drop, HFL.out]; omega) w8 (by omega) (SCells.dropAll HFL.out)).mono ?_
                  rintro e w9 ⟨rfl, hb9⟩
                  rw [L3.out.2]
                  have hb09 : Below w'.heap.size w' w9 := hb08.trans (hb9.mono hb08.size)
                  clear hb9 hb08
                  go_wp2
                  go_ret
                  exact ⟨rfl, hb09⟩
                · have hxW' : x < W := by omega
                  clear hxW
                  go_wp2_with fail
                  refine (sized7 (R - ((x : Nat) : Int)) true _ (W - x) (W - x) (F.drop x) (show (F.drop x).length = W - x by rw [List.length_drop, HFL.out]) w8 (by omega) (HF8.out.drop x)).mono ?_
                  rintro e w9 ⟨rfl, hb9⟩
                  rw [L3.out.2]
                  have hb09 : Below w'.heap.size w' w9 := hb08.trans (hb9.mono hb08.size)
                  clear hb9 hb08
                  go_wp2
                  go_ret
                  exact ⟨rfl, hb09⟩
              | true =>
                go_wp2_with fail
                have hW := width_le (R := R) hn' hR'
                refine (rep8 R (some ⟨w'.heap.size, 0, none⟩) x x S HL w4 hn' hR' HS.out).mono ?_
                rintro e w6 ⟨rfl, hrow, hb6⟩
                have HF6 : Hid (SCells w6 (some ⟨w4.heap.size, 0, none⟩) (fixAll R S)) := SCells.of_row (by rw [fixAll_length, HL.out]) hrow
                have HFL : Hid ((fixAll R S).length = width R x) := by rw [Hid, fixAll_length, HL.out]
                have hb06 : Below w'.heap.size w' w6 := hbw.trans (hb6.mono hbw.size)
                have L2 : Hid (sizedB R true (fixAll R S) = true) := law_fixed R S
                have L3 : Hid (sizedB ((x : Nat) : Int) true ((fixAll R S).take x) = true ∧ sizedB (R - ((x : Nat) : Int)) true ((fixAll R S).drop x) = true) := fixed_hi (by omega) (by rw [HL.out]; omega)
                have hwx : x ≤ width R x := Nat.le_trans hxn (width_ge R x).1
                clear hrow hb6 hbw HS
                generalize fixAll R S = F at *
                generalize width R x = W at *
                go_wp2_with fail
                refine (sized7 R true _ W W F HFL w6 hW HF6.out).mono ?_
                rintro e w7 ⟨rfl, hb7⟩
                rw [L2.out]
                have HF7 : Hid (SCells w7 (some ⟨w4.heap.size, 0, none⟩) F) := HF6.out.below hb7
                have hb07 : Below w'.heap.size w' w7 := hb06.trans (hb7.mono hb06.size)
                clear hb7 hb06 HF6 L2
                go_wp2_with fail
                refine (sized7 ((x : Nat) : Int) true _ x W (F.take x) (show (F.take x).length = x by rw [List.length_take, HFL.out]; omega) w7 (by omega) (HF7.out.take x)).mono ?_
                rintro e w8 ⟨rfl, hb8⟩
                rw [L3.out.1]
                have HF8 : Hid (SCells w8 (some ⟨w4.heap.size, 0, none⟩) F) := HF7.out.below hb8
                have hb08 : Below w'.heap.size w' w8 := hb07.trans (hb8.mono hb07.size)
                clear hb8 hb07 HF7
                by_cases hxW : x = W
                · subst hxW
                  go_wp2_with fail
                  refine (sized7 (R - ((x : Nat) : Int)) true _ 0 0 (F.drop x) (show (F.drop x).length = 0 by rw [List.length_drop, HFL.out]; omega) w8 (by omega) (SCells.dropAll HFL.out)).mono ?_
                  rintro e w9 ⟨rfl, hb9⟩
                  rw [L3.out.2]
                  have hb09 : Below w'.heap.size w' w9 := hb08.trans (hb9.mono hb08.size)
                  clear hb9 hb08
                  go_wp2
                  go_ret
                  exact ⟨rfl, hb09⟩
                · have hxW' : x < W := by omega
                  clear hxW
                  go_wp2_with fail
                  refine (sized7 (R - ((x : Nat) : Int)) true _ (W - x) (W - x) (F.drop x) (show (F.drop x).length = W - x by rw [List.length_drop, HFL.out]) w8 (by omega) (HF8.out.drop x)).mono ?_
                  rintro e w9 ⟨rfl, hb9⟩
                  rw [L3.out.2]
                  have hb09 : Below w'.heap.size w' w9 := hb08.trans (hb9.mono hb08.size)
                  clear hb9 hb08
                  go_wp2
                  go_ret
                  exact ⟨rfl, hb09⟩
        · go_wp2_with fail
          refine (sized7 R kn (some ⟨w'.heap.size, 0, none⟩) x x S HL w1 (by omega) hs1).mono ?_
          rintro e w2 ⟨rfl, hb2⟩
          have hs2 := hs1.below hb2
          have hb02 : Below w'.heap.size w' w2 := hb1.trans (hb2.mono hb1.size)
          have LB : Hid (((x : Nat) : Int) + 65536 < R → sizedB R kn S = false) := fun h => sized_big (by rw [HL.out]; omega)
          have LS : Hid (sizedB R kn S = (sizedB R kn (S.take x) && sizedB 0 kn (S.drop x))) := split_lo (by omega) (by rw [HL.out]; omega)
          clear hb1 hb2 hs1
          generalize sizedB R kn S = gg at *
          go_wp2_with fail
          refine (sized7 R kn (some ⟨w'.heap.size, 0, none⟩) x x (S.take x) (show (S.take x).length = x by rw [List.length_take, HL.out]; omega) w2 (by omega) (hs2.take x)).mono ?_
          rintro e w3 ⟨rfl, hb3⟩
          have hs3 := hs2.below hb3
          have hb03 : Below w'.heap.size w' w3 := hb02.trans (hb3.mono hb02.size)
          clear hb02 hb3 hs2
          generalize sizedB R kn (S.take x) = p1 at *
          cases p1 with
          | false =>
            obtain rfl : gg = false := by rw [LS.out]; rfl
            clear LB LS
            by_cases hR : ((x : Nat) : Int) + 65536 < R
            · go_wp2
              go_ret
              exact ⟨rfl, hb03⟩
            · have hR' : R ≤ ((x : Nat) : Int) + 65536 := by omega
              have hbw := hb03
              have HS : Hid (SCells w3 (some ⟨w'.heap.size, 0, none⟩) S) := hs3
              clear hb03 hs3
              go_wp2_with fail
              have hW := width_le (R := R) hn' hR'
              refine (rep8 R (some ⟨w'.heap.size, 0, none⟩) x x S HL w3 hn' hR' HS.out).mono ?_
              rintro e w6 ⟨rfl, hrow, hb6⟩
              have HF6 : Hid (SCells w6 (some ⟨w3.heap.size, 0, none⟩) (fixAll R S)) := SCells.of_row (by rw [fixAll_length, HL.out]) hrow
              have HFL : Hid ((fixAll R S).length = width R x) := by rw [Hid, fixAll_length, HL.out]
              have hb06 : Below w'.heap.size w' w6 := hbw.trans (hb6.mono hbw.size)
              have L2 : Hid (sizedB R true (fixAll R S) = true) := law_fixed R S
              have L3 : Hid (sizedB R true ((fixAll R S).take x) = true ∧ sizedB 0 true ((fixAll R S).drop x) = true) := fixed_lo (by omega) (by rw [HL.out]; omega)
              have hwx : x ≤ width R x := Nat.le_trans hxn (width_ge R x).1
              clear hrow hb6 hbw HS
              generalize fixAll R S = F at *
              generalize width R x = W at *
              go_wp2_with fail
              refine (sized7 R true _ W W F HFL w6 hW HF6.out).mono ?_
              rintro e w7 ⟨rfl, hb7⟩
              rw [L2.out]
              have HF7 : Hid (SCells w7 (some ⟨w3.heap.size, 0, none⟩) F) := HF6.out.below hb7
              have hb07 : Below w'.heap.size w' w7 := hb06.trans (hb7.mono hb06.size)
              clear hb7 hb06 HF6 L2
              go_wp2_with fail
              refine (sized7 R true _ x W (F.take x) (show (F.take x).length = x by rw [List.length_take, HFL.out]; omega) w7 (by omega) (HF7.out.take x)).mono ?_
              rintro e w8 ⟨rfl, hb8⟩
              rw [L3.out.1]
              have HF8 : Hid (SCells w8 (some ⟨w3.heap.size, 0, none⟩) F) := HF7.out.below hb8
              have hb08 : Below w'.heap.size w' w8 := hb07.trans (hb8.mono hb07.size)
              clear hb8 hb07 HF7
              by_cases hxW : x = W
              · subst hxW
                go_wp2_with fail
                refine (sized7 0 true _ 0 0 (F.drop x) (show (F.drop x).length = 0 by rw [List.length_drop, HFL.out]; omega) w8 (by omega) (SCells.dropAll HFL.out)).mono ?_
                rintro e w9 ⟨rfl, hb9⟩
                rw [L3.out.2]
                have hb09 : Below w'.heap.size w' w9 := hb08.trans (hb9.mono hb08.size)
                clear hb9 hb08
                go_wp2
                go_ret
                exact ⟨rfl, hb09⟩
              · have hxW' : x < W := by omega
                clear hxW
                go_wp2_with fail
                refine (sized7 0 true _ (W - x) (W - x) (F.drop x) (show (F.drop x).length = W - x by rw [List.length_drop, HFL.out]) w8 (by omega) (HF8.out.drop x)).mono ?_
                rintro e w9 ⟨rfl, hb9⟩
                rw [L3.out.2]
                have hb09 : Below w'.heap.size w' w9 := hb08.trans (hb9.mono hb08.size)
                clear hb9 hb08
                go_wp2
                go_ret
                exact ⟨rfl, hb09⟩
          | true =>
            go_wp2_with fail
            refine (sized7 0 kn (some ⟨w'.heap.size, 0, none⟩) 0 0 (S.drop x) (show (S.drop x).length = 0 by rw [List.length_drop, HL.out]; omega) w3 (by omega) (SCells.dropAll HL.out)).mono ?_
            rintro e w4 ⟨rfl, hb4⟩
            have hs4 := hs3.below hb4
            have hb04 : Below w'.heap.size w' w4 := hb03.trans (hb4.mono hb03.size)
            clear hb03 hb4 hs3
            generalize sizedB 0 kn (S.drop x) = p2 at *
            obtain rfl : gg = p2 := by rw [LS.out]; rfl
            clear LS
            by_cases hR : ((x : Nat) : Int) + 65536 < R
            · obtain rfl : gg = false := LB.out hR
              clear LB
              go_wp2
              go_ret
              exact ⟨rfl, hb04⟩
            · have hR' : R ≤ ((x : Nat) : Int) + 65536 := by omega
              have hbw := hb04
              have HS : Hid (SCells w4 (some ⟨w'.heap.size, 0, none⟩) S) := hs4
              clear hb04 hs4 LB
              cases gg with
              | false =>
                go_wp2_with fail
                have hW := width_le (R := R) hn' hR'
                refine (rep8 R (some ⟨w'.heap.size, 0, none⟩) x x S HL w4 hn' hR' HS.out).mono ?_
                rintro e w6 ⟨rfl, hrow, hb6⟩
                have HF6 : Hid (SCells w6 (some ⟨w4.heap.size, 0, none⟩) (fixAll R S)) := SCells.of_row (by rw [fixAll_length, HL.out]) hrow
                have HFL : Hid ((fixAll R S).length = width R x) := by rw [Hid, fixAll_length, HL.out]
                have hb06 : Below w'.heap.size w' w6 := hbw.trans (hb6.mono hbw.size)
                have L2 : Hid (sizedB R true (fixAll R S) = true) := law_fixed R S
                have L3 : Hid (sizedB R true ((fixAll R S).take x) = true ∧ sizedB 0 true ((fixAll R S).drop x) = true) := fixed_lo (by omega) (by rw [HL.out]; omega)
                have hwx : x ≤ width R x := Nat.le_trans hxn (width_ge R x).1
                clear hrow hb6 hbw HS
                generalize fixAll R S = F at *
                generalize width R x = W at *
                go_wp2_with fail
                refine (sized7 R true _ W W F HFL w6 hW HF6.out).mono ?_
                rintro e w7 ⟨rfl, hb7⟩
                rw [L2.out]
                have HF7 : Hid (SCells w7 (some ⟨w4.heap.size, 0, none⟩) F) := HF6.out.below hb7
                have hb07 : Below w'.heap.size w' w7 := hb06.trans (hb7.mono hb06.size)
                clear hb7 hb06 HF6 L2
                go_wp2_with fail
                refine (sized7 R true _ x W (F.take x) (show (F.take x).length = x by rw [List.length_take, HFL.out]; omega) w7 (by omega) (HF7.out.take x)).mono ?_
                rintro e w8 ⟨rfl, hb8⟩
                rw [L3.out.1]
                have HF8 : Hid (SCells w8 (some ⟨w4.heap.size, 0, none⟩) F) := HF7.out.below hb8
                have hb08 : Below w'.heap.size w' w8 := hb07.trans (hb8.mono hb07.size)
                clear hb8 hb07 HF7
                by_cases hxW : x = W
                · subst hxW
                  go_wp2_with fail
                  refine (sized7 0 true _ 0 0 (F.drop x) (show (F.drop x).length = 0 by rw [List.length_drop, HFL.out]; omega) w8 (by omega) (SCells.dropAll HFL.out)).mono ?_
                  rintro e w9 ⟨rfl, hb9⟩
                  rw [L3.out.2]
                  have hb09 : Below w'.heap.size w' w9 := hb08.trans (hb9.mono hb08.size)
                  clear hb9 hb08
                  go_wp2
                  go_ret
                  exact ⟨rfl, hb09⟩
                · have hxW' : x < W := by omega
                  clear hxW
                  go_wp2_with fail
                  refine (sized7 0 true _ (W - x) (W - x) (F.drop x) (show (F.drop x).length = W - x by rw [List.length_drop, HFL.out]) w8 (by omega) (HF8.out.drop x)).mono ?_
                  rintro e w9 ⟨rfl, hb9⟩
                  rw [L3.out.2]
                  have hb09 : Below w'.heap.size w' w9 := hb08.trans (hb9.mono hb08.size)
                  clear hb9 hb08
                  go_wp2
                  go_ret
                  exact ⟨rfl, hb09⟩
              | true =>
                go_wp2_with fail
                have hW := width_le (R := R) hn' hR'
                refine (rep8 R (some ⟨w'.heap.size, 0, none⟩) x x S HL w4 hn' hR' HS.out).mono ?_
                rintro e w6 ⟨rfl, hrow, hb6⟩
                have HF6 : Hid (SCells w6 (some ⟨w4.heap.size, 0, none⟩) (fixAll R S)) := SCells.of_row (by rw [fixAll_length, HL.out]) hrow
                have HFL : Hid ((fixAll R S).length = width R x) := by rw [Hid, fixAll_length, HL.out]
                have hb06 : Below w'.heap.size w' w6 := hbw.trans (hb6.mono hbw.size)
                have L2 : Hid (sizedB R true (fixAll R S) = true) := law_fixed R S
                have L3 : Hid (sizedB R true ((fixAll R S).take x) = true ∧ sizedB 0 true ((fixAll R S).drop x) = true) := fixed_lo (by omega) (by rw [HL.out]; omega)
                have hwx : x ≤ width R x := Nat.le_trans hxn (width_ge R x).1
                clear hrow hb6 hbw HS
                generalize fixAll R S = F at *
                generalize width R x = W at *
                go_wp2_with fail
                refine (sized7 R true _ W W F HFL w6 hW HF6.out).mono ?_
                rintro e w7 ⟨rfl, hb7⟩
                rw [L2.out]
                have HF7 : Hid (SCells w7 (some ⟨w4.heap.size, 0, none⟩) F) := HF6.out.below hb7
                have hb07 : Below w'.heap.size w' w7 := hb06.trans (hb7.mono hb06.size)
                clear hb7 hb06 HF6 L2
                go_wp2_with fail
                refine (sized7 R true _ x W (F.take x) (show (F.take x).length = x by rw [List.length_take, HFL.out]; omega) w7 (by omega) (HF7.out.take x)).mono ?_
                rintro e w8 ⟨rfl, hb8⟩
                rw [L3.out.1]
                have HF8 : Hid (SCells w8 (some ⟨w4.heap.size, 0, none⟩) F) := HF7.out.below hb8
                have hb08 : Below w'.heap.size w' w8 := hb07.trans (hb8.mono hb07.size)
                clear hb8 hb07 HF7
                by_cases hxW : x = W
                · subst hxW
                  go_wp2_with fail
                  refine (sized7 0 true _ 0 0 (F.drop x) (show (F.drop x).length = 0 by rw [List.length_drop, HFL.out]; omega) w8 (by omega) (SCells.dropAll HFL.out)).mono ?_
                  rintro e w9 ⟨rfl, hb9⟩
                  rw [L3.out.2]
                  have hb09 : Below w'.heap.size w' w9 := hb08.trans (hb9.mono hb08.size)
                  clear hb9 hb08
                  go_wp2
                  go_ret
                  exact ⟨rfl, hb09⟩
                · have hxW' : x < W := by omega
                  clear hxW
                  go_wp2_with fail
                  refine (sized7 0 true _ (W - x) (W - x) (F.drop x) (show (F.drop x).length = W - x by rw [List.length_drop, HFL.out]) w8 (by omega) (HF8.out.drop x)).mono ?_
                  rintro e w9 ⟨rfl, hb9⟩
                  rw [L3.out.2]
                  have hb09 : Below w'.heap.size w' w9 := hb08.trans (hb9.mono hb08.size)
                  clear hb9 hb08
                  go_wp2
                  go_ret
                  exact ⟨rfl, hb09⟩
      · have hxl : x < n := by omega
        clear hxe
        by_cases hxR : ((x : Nat) : Int) < R
        · go_wp2_with fail
          refine (sized7 R kn (some ⟨w'.heap.size, 0, none⟩) n n S HL w1 (by omega) hs1).mono ?_
          rintro e w2 ⟨rfl, hb2⟩
          have hs2 := hs1.below hb2
          have hb02 : Below w'.heap.size w' w2 := hb1.trans (hb2.mono hb1.size)
          have LB : Hid (((n : Nat) : Int) + 65536 < R → sizedB R kn S = false) := fun h => sized_big (by rw [HL.out]; omega)
          have LS : Hid (sizedB R kn S = (sizedB ((x : Nat) : Int) kn (S.take x) && sizedB (R - ((x : Nat) : Int)) kn (S.drop x))) := split_hi (by omega) (by rw [HL.out]; omega)
          clear hb1 hb2 hs1
          generalize sizedB R kn S = gg at *
          go_wp2_with fail
          refine (sized7 ((x : Nat) : Int) kn (some ⟨w'.heap.size, 0, none⟩) x n (S.take x) (show (S.take x).length = x by rw [List.length_take, HL.out]; omega) w2 (by omega) (hs2.take x)).mono ?_
          rintro e w3 ⟨rfl, hb3⟩
          have hs3 := hs2.below hb3
          have hb03 : Below w'.heap.size w' w3 := hb02.trans (hb3.mono hb02.size)
          clear hb02 hb3 hs2
          generalize sizedB ((x : Nat) : Int) kn (S.take x) = p1 at *
          cases p1 with
          | false =>
            obtain rfl : gg = false := by rw [LS.out]; rfl
            clear LB LS
            by_cases hR : ((n : Nat) : Int) + 65536 < R
            · go_wp2
              go_ret
              exact ⟨rfl, hb03⟩
            · have hR' : R ≤ ((n : Nat) : Int) + 65536 := by omega
              have hbw := hb03
              have HS : Hid (SCells w3 (some ⟨w'.heap.size, 0, none⟩) S) := hs3
              clear hb03 hs3
              go_wp2_with fail
              have hW := width_le (R := R) hn' hR'
              refine (rep8 R (some ⟨w'.heap.size, 0, none⟩) n n S HL w3 hn' hR' HS.out).mono ?_
              rintro e w6 ⟨rfl, hrow, hb6⟩
              have HF6 : Hid (SCells w6 (some ⟨w3.heap.size, 0, none⟩) (fixAll R S)) := SCells.of_row (by rw [fixAll_length, HL.out]) hrow
              have HFL : Hid ((fixAll R S).length = width R n) := by rw [Hid, fixAll_length, HL.out]
              have hb06 : Below w'.heap.size w' w6 := hbw.trans (hb6.mono hbw.size)
              have L2 : Hid (sizedB R true (fixAll R S) = true) := law_fixed R S
              have L3 : Hid (sizedB ((x : Nat) : Int) true ((fixAll R S).take x) = true ∧ sizedB (R - ((x : Nat) : Int)) true ((fixAll R S).drop x) = true) := fixed_hi (by omega) (by rw [HL.out]; omega)
              have hwx : x ≤ width R n := Nat.le_trans hxn (width_ge R n).1
              clear hrow hb6 hbw HS
              generalize fixAll R S = F at *
              generalize width R n = W at *
              go_wp2_with fail
              refine (sized7 R true _ W W F HFL w6 hW HF6.out).mono ?_
              rintro e w7 ⟨rfl, hb7⟩
              rw [L2.out]
              have HF7 : Hid (SCells w7 (some ⟨w3.heap.size, 0, none⟩) F) := HF6.out.below hb7
              have hb07 : Below w'.heap.size w' w7 := hb06.trans (hb7.mono hb06.size)
              clear hb7 hb06 HF6 L2
              go_wp2_with fail
              refine (sized7 ((x : Nat) : Int) true _ x W (F.take x) (show (F.take x).length = x by rw [List.length_take, HFL.out]; omega) w7 (by omega) (HF7.out.take x)).mono ?_
              rintro e w8 ⟨rfl, hb8⟩
              rw [L3.out.1]
              have HF8 : Hid (SCells w8 (some ⟨w3.heap.size, 0, none⟩) F) := HF7.out.below hb8
              have hb08 : Below w'.heap.size w' w8 := hb07.trans (hb8.mono hb07.size)
              clear hb8 hb07 HF7
              by_cases hxW : x = W
              · subst hxW
                go_wp2_with fail
                refine (sized7 (R - ((x : Nat) : Int)) true _ 0 0 (F.drop x) (show (F.drop x).length = 0 by rw [List.length_drop, HFL.out]; omega) w8 (by omega) (SCells.dropAll HFL.out)).mono ?_
                rintro e w9 ⟨rfl, hb9⟩
                rw [L3.out.2]
                have hb09 : Below w'.heap.size w' w9 := hb08.trans (hb9.mono hb08.size)
                clear hb9 hb08
                go_wp2
                go_ret
                exact ⟨rfl, hb09⟩
              · have hxW' : x < W := by omega
                clear hxW
                go_wp2_with fail
                refine (sized7 (R - ((x : Nat) : Int)) true _ (W - x) (W - x) (F.drop x) (show (F.drop x).length = W - x by rw [List.length_drop, HFL.out]) w8 (by omega) (HF8.out.drop x)).mono ?_
                rintro e w9 ⟨rfl, hb9⟩
                rw [L3.out.2]
                have hb09 : Below w'.heap.size w' w9 := hb08.trans (hb9.mono hb08.size)
                clear hb9 hb08
                go_wp2
                go_ret
                exact ⟨rfl, hb09⟩
          | true =>
            go_wp2_with fail
            refine (sized7 (R - ((x : Nat) : Int)) kn (some ⟨w'.heap.size, x * 5, none⟩) (n - x) (n - x) (S.drop x) (show (S.drop x).length = n - x by rw [List.length_drop, HL.out]) w3 (by omega) (hs3.drop x)).mono ?_
            rintro e w4 ⟨rfl, hb4⟩
            have hs4 := hs3.below hb4
            have hb04 : Below w'.heap.size w' w4 := hb03.trans (hb4.mono hb03.size)
            clear hb03 hb4 hs3
            generalize sizedB (R - ((x : Nat) : Int)) kn (S.drop x) = p2 at *
            obtain rfl : gg = p2 := by rw [LS.out]; rfl
            clear LS
            by_cases hR : ((n : Nat) : Int) + 65536 < R
            · obtain rfl : gg = false := LB.out hR
              clear LB
              go_wp2
              go_ret
              exact ⟨rfl, hb04⟩
            · have hR' : R ≤ ((n : Nat) : Int) + 65536 := by omega
              have hbw := hb04
              have HS : Hid (SCells w4 (some ⟨w'.heap.size, 0, none⟩) S) := hs4
              clear hb04 hs4 LB
              cases gg with
              | false =>
                go_wp2_with fail
                have hW := width_le (R := R) hn' hR'
                refine (rep8 R (some ⟨w'.heap.size, 0, none⟩) n n S HL w4 hn' hR' HS.out).mono ?_
                rintro e w6 ⟨rfl, hrow, hb6⟩
                have HF6 : Hid (SCells w6 (some ⟨w4.heap.size, 0, none⟩) (fixAll R S)) := SCells.of_row (by rw [fixAll_length, HL.out]) hrow
                have HFL : Hid ((fixAll R S).length = width R n) := by rw [Hid, fixAll_length, HL.out]
                have hb06 : Below w'.heap.size w' w6 := hbw.trans (hb6.mono hbw.size)
                have L2 : Hid (sizedB R true (fixAll R S) = true) := law_fixed R S
                have L3 : Hid (sizedB ((x : Nat) : Int) true ((fixAll R S).take x) = true ∧ sizedB (R - ((x : Nat) : Int)) true ((fixAll R S).drop x) = true) := fixed_hi (by omega) (by rw [HL.out]; omega)
                have hwx : x ≤ width R n := Nat.le_trans hxn (width_ge R n).1
                clear hrow hb6 hbw HS
                generalize fixAll R S = F at *
                generalize width R n = W at *
                go_wp2_with fail
                refine (sized7 R true _ W W F HFL w6 hW HF6.out).mono ?_
                rintro e w7 ⟨rfl, hb7⟩
                rw [L2.out]
                have HF7 : Hid (SCells w7 (some ⟨w4.heap.size, 0, none⟩) F) := HF6.out.below hb7
                have hb07 : Below w'.heap.size w' w7 := hb06.trans (hb7.mono hb06.size)
                clear hb7 hb06 HF6 L2
                go_wp2_with fail
                refine (sized7 ((x : Nat) : Int) true _ x W (F.take x) (show (F.take x).length = x by rw [List.length_take, HFL.out]; omega) w7 (by omega) (HF7.out.take x)).mono ?_
                rintro e w8 ⟨rfl, hb8⟩
                rw [L3.out.1]
                have HF8 : Hid (SCells w8 (some ⟨w4.heap.size, 0, none⟩) F) := HF7.out.below hb8
                have hb08 : Below w'.heap.size w' w8 := hb07.trans (hb8.mono hb07.size)
                clear hb8 hb07 HF7
                by_cases hxW : x = W
                · subst hxW
                  go_wp2_with fail
                  refine (sized7 (R - ((x : Nat) : Int)) true _ 0 0 (F.drop x) (show (F.drop x).length = 0 by rw [List.length_drop, HFL.out]; omega) w8 (by omega) (SCells.dropAll HFL.out)).mono ?_
                  rintro e w9 ⟨rfl, hb9⟩
                  rw [L3.out.2]
                  have hb09 : Below w'.heap.size w' w9 := hb08.trans (hb9.mono hb08.size)
                  clear hb9 hb08
                  go_wp2
                  go_ret
                  exact ⟨rfl, hb09⟩
                · have hxW' : x < W := by omega
                  clear hxW
                  go_wp2_with fail
                  refine (sized7 (R - ((x : Nat) : Int)) true _ (W - x) (W - x) (F.drop x) (show (F.drop x).length = W - x by rw [List.length_drop, HFL.out]) w8 (by omega) (HF8.out.drop x)).mono ?_
                  rintro e w9 ⟨rfl, hb9⟩
                  rw [L3.out.2]
                  have hb09 : Below w'.heap.size w' w9 := hb08.trans (hb9.mono hb08.size)
                  clear hb9 hb08
                  go_wp2
                  go_ret
                  exact ⟨rfl, hb09⟩
              | true =>
                go_wp2_with fail
                have hW := width_le (R := R) hn' hR'
                refine (rep8 R (some ⟨w'.heap.size, 0, none⟩) n n S HL w4 hn' hR' HS.out).mono ?_
                rintro e w6 ⟨rfl, hrow, hb6⟩
                have HF6 : Hid (SCells w6 (some ⟨w4.heap.size, 0, none⟩) (fixAll R S)) := SCells.of_row (by rw [fixAll_length, HL.out]) hrow
                have HFL : Hid ((fixAll R S).length = width R n) := by rw [Hid, fixAll_length, HL.out]
                have hb06 : Below w'.heap.size w' w6 := hbw.trans (hb6.mono hbw.size)
                have L2 : Hid (sizedB R true (fixAll R S) = true) := law_fixed R S
                have L3 : Hid (sizedB ((x : Nat) : Int) true ((fixAll R S).take x) = true ∧ sizedB (R - ((x : Nat) : Int)) true ((fixAll R S).drop x) = true) := fixed_hi (by omega) (by rw [HL.out]; omega)
                have hwx : x ≤ width R n := Nat.le_trans hxn (width_ge R n).1
                clear hrow hb6 hbw HS
                generalize fixAll R S = F at *
                generalize width R n = W at *
                go_wp2_with fail
                refine (sized7 R true _ W W F HFL w6 hW HF6.out).mono ?_
                rintro e w7 ⟨rfl, hb7⟩
                rw [L2.out]
                have HF7 : Hid (SCells w7 (some ⟨w4.heap.size, 0, none⟩) F) := HF6.out.below hb7
                have hb07 : Below w'.heap.size w' w7 := hb06.trans (hb7.mono hb06.size)
                clear hb7 hb06 HF6 L2
                go_wp2_with fail
                refine (sized7 ((x : Nat) : Int) true _ x W (F.take x) (show (F.take x).length = x by rw [List.length_take, HFL.out]; omega) w7 (by omega) (HF7.out.take x)).mono ?_
                rintro e w8 ⟨rfl, hb8⟩
                rw [L3.out.1]
                have HF8 : Hid (SCells w8 (some ⟨w4.heap.size, 0, none⟩) F) := HF7.out.below hb8
                have hb08 : Below w'.heap.size w' w8 := hb07.trans (hb8.mono hb07.size)
                clear hb8 hb07 HF7
                by_cases hxW : x = W
                · subst hxW
                  go_wp2_with fail
                  refine (sized7 (R - ((x : Nat) : Int)) true _ 0 0 (F.drop x) (show (F.drop x).length = 0 by rw [List.length_drop, HFL.out]; omega) w8 (by omega) (SCells.dropAll HFL.out)).mono ?_
                  rintro e w9 ⟨rfl, hb9⟩
                  rw [L3.out.2]
                  have hb09 : Below w'.heap.size w' w9 := hb08.trans (hb9.mono hb08.size)
                  clear hb9 hb08
                  go_wp2
                  go_ret
                  exact ⟨rfl, hb09⟩
                · have hxW' : x < W := by omega
                  clear hxW
                  go_wp2_with fail
                  refine (sized7 (R - ((x : Nat) : Int)) true _ (W - x) (W - x) (F.drop x) (show (F.drop x).length = W - x by rw [List.length_drop, HFL.out]) w8 (by omega) (HF8.out.drop x)).mono ?_
                  rintro e w9 ⟨rfl, hb9⟩
                  rw [L3.out.2]
                  have hb09 : Below w'.heap.size w' w9 := hb08.trans (hb9.mono hb08.size)
                  clear hb9 hb08
                  go_wp2
                  go_ret
                  exact ⟨rfl, hb09⟩
        · go_wp2_with fail
          refine (sized7 R kn (some ⟨w'.heap.size, 0, none⟩) n n S HL w1 (by omega) hs1).mono ?_
          rintro e w2 ⟨rfl, hb2⟩
          have hs2 := hs1.below hb2
          have hb02 : Below w'.heap.size w' w2 := hb1.trans (hb2.mono hb1.size)
          have LB : Hid (((n : Nat) : Int) + 65536 < R → sizedB R kn S = false) := fun h => sized_big (by rw [HL.out]; omega)
          have LS : Hid (sizedB R kn S = (sizedB R kn (S.take x) && sizedB 0 kn (S.drop x))) := split_lo (by omega) (by rw [HL.out]; omega)
          clear hb1 hb2 hs1
          generalize sizedB R kn S = gg at *
          go_wp2_with fail
          refine (sized7 R kn (some ⟨w'.heap.size, 0, none⟩) x n (S.take x) (show (S.take x).length = x by rw [List.length_take, HL.out]; omega) w2 (by omega) (hs2.take x)).mono ?_
          rintro e w3 ⟨rfl, hb3⟩
          have hs3 := hs2.below hb3
          have hb03 : Below w'.heap.size w' w3 := hb02.trans (hb3.mono hb02.size)
          clear hb02 hb3 hs2
          generalize sizedB R kn (S.take x) = p1 at *
          cases p1 with
          | false =>
            obtain rfl : gg = false := by rw [LS.out]; rfl
            clear LB LS
            by_cases hR : ((n : Nat) : Int) + 65536 < R
            · go_wp2
              go_ret
              exact ⟨rfl, hb03⟩
            · have hR' : R ≤ ((n : Nat) : Int) + 65536 := by omega
              have hbw := hb03
              have HS : Hid (SCells w3 (some ⟨w'.heap.size, 0, none⟩) S) := hs3
              clear hb03 hs3
              go_wp2_with fail
              have hW := width_le (R := R) hn' hR'
              refine (rep8 R (some ⟨w'.heap.size, 0, none⟩) n n S HL w3 hn' hR' HS.out).mono ?_
              rintro e w6 ⟨rfl, hrow, hb6⟩
              have HF6 : Hid (SCells w6 (some ⟨w3.heap.size, 0, none⟩) (fixAll R S)) := SCells.of_row (by rw [fixAll_length, HL.out]) hrow
              have HFL : Hid ((fixAll R S).length = width R n) := by rw [Hid, fixAll_length, HL.out]
              have hb06 : Below w'.heap.size w' w6 := hbw.trans (hb6.mono hbw.size)
              have L2 : Hid (sizedB R true (fixAll R S) = true) := law_fixed R S
              have L3 : Hid (sizedB R true ((fixAll R S).take x) = true ∧ sizedB 0 true ((fixAll R S).drop x) = true) := fixed_lo (by omega) (by rw [HL.out]; omega)
              have hwx : x ≤ width R n := Nat.le_trans hxn (width_ge R n).1
              clear hrow hb6 hbw HS
              generalize fixAll R S = F at *
              generalize width R n = W at *
              go_wp2_with fail
              refine (sized7 R true _ W W F HFL w6 hW HF6.out).mono ?_
              rintro e w7 ⟨rfl, hb7⟩
              rw [L2.out]
              have HF7 : Hid (SCells w7 (some ⟨w3.heap.size, 0, none⟩) F) := HF6.out.below hb7
              have hb07 : Below w'.heap.size w' w7 := hb06.trans (hb7.mono hb06.size)
              clear hb7 hb06 HF6 L2
              go_wp2_with fail
              refine (sized7 R true _ x W (F.take x) (show (F.take x).length = x by rw [List.length_take, HFL.out]; omega) w7 (by omega) (HF7.out.take x)).mono ?_
              rintro e w8 ⟨rfl, hb8⟩
              rw [L3.out.1]
              have HF8 : Hid (SCells w8 (some ⟨w3.heap.size, 0, none⟩) F) := HF7.out.below hb8
              have hb08 : Below w'.heap.size w' w8 := hb07.trans (hb8.mono hb07.size)
              clear hb8 hb07 HF7
              by_cases hxW : x = W
              · subst hxW
                go_wp2_with fail
                refine (sized7 0 true _ 0 0 (F.drop x) (show (F.drop x).length = 0 by rw [List.length_drop, HFL.out]; omega) w8 (by omega) (SCells.dropAll HFL.out)).mono ?_
                rintro e w9 ⟨rfl, hb9⟩
                rw [L3.out.2]
                have hb09 : Below w'.heap.size w' w9 := hb08.trans (hb9.mono hb08.size)
                clear hb9 hb08
                go_wp2
                go_ret
                exact ⟨rfl, hb09⟩
              · have hxW' : x < W := by omega
                clear hxW
                go_wp2_with fail
                refine (sized7 0 true _ (W - x) (W - x) (F.drop x) (show (F.drop x).length = W - x by rw [List.length_drop, HFL.out]) w8 (by omega) (HF8.out.drop x)).mono ?_
                rintro e w9 ⟨rfl, hb9⟩
                rw [L3.out.2]
                have hb09 : Below w'.heap.size w' w9 := hb08.trans (hb9.mono hb08.size)
                clear hb9 hb08
                go_wp2
                go_ret
                exact ⟨rfl, hb09⟩
          | true =>
            go_wp2_with fail
            refine (sized7 0 kn (some ⟨w'.heap.size, x * 5, none⟩) (n - x) (n - x) (S.drop x) (show (S.drop x).length = n - x by rw [List.length_drop, HL.out]) w3 (by omega) (hs3.drop x)).mono ?_
            rintro e w4 ⟨rfl, hb4⟩
            have hs4 := hs3.below hb4
            have hb04 : Below w'.heap.size w' w4 := hb03.trans (hb4.mono hb03.size)
            clear hb03 hb4 hs3
            generalize sizedB 0 kn (S.drop x) = p2 at *
            obtain rfl : gg = p2 := by rw [LS.out]; rfl
            clear LS
            by_cases hR : ((n : Nat) : Int) + 65536 < R
            · obtain rfl : gg = false := LB.out hR
              clear LB
              go_wp2
              go_ret
              exact ⟨rfl, hb04⟩
            · have hR' : R ≤ ((n : Nat) : Int) + 65536 := by omega
              have hbw := hb04
              have HS : Hid (SCells w4 (some ⟨w'.heap.size, 0, none⟩) S) := hs4
              clear hb04 hs4 LB
              cases gg with
              | false =>
                go_wp2_with fail
                have hW := width_le (R := R) hn' hR'
                refine (rep8 R (some ⟨w'.heap.size, 0, none⟩) n n S HL w4 hn' hR' HS.out).mono ?_
                rintro e w6 ⟨rfl, hrow, hb6⟩
                have HF6 : Hid (SCells w6 (some ⟨w4.heap.size, 0, none⟩) (fixAll R S)) := SCells.of_row (by rw [fixAll_length, HL.out]) hrow
                have HFL : Hid ((fixAll R S).length = width R n) := by rw [Hid, fixAll_length, HL.out]
                have hb06 : Below w'.heap.size w' w6 := hbw.trans (hb6.mono hbw.size)
                have L2 : Hid (sizedB R true (fixAll R S) = true) := law_fixed R S
                have L3 : Hid (sizedB R true ((fixAll R S).take x) = true ∧ sizedB 0 true ((fixAll R S).drop x) = true) := fixed_lo (by omega) (by rw [HL.out]; omega)
                have hwx : x ≤ width R n := Nat.le_trans hxn (width_ge R n).1
                clear hrow hb6 hbw HS
                generalize fixAll R S = F at *
                generalize width R n = W at *
                go_wp2_with fail
                refine (sized7 R true _ W W F HFL w6 hW HF6.out).mono ?_
                rintro e w7 ⟨rfl, hb7⟩
                rw [L2.out]
                have HF7 : Hid (SCells w7 (some ⟨w4.heap.size, 0, none⟩) F) := HF6.out.below hb7
                have hb07 : Below w'.heap.size w' w7 := hb06.trans (hb7.mono hb06.size)
                clear hb7 hb06 HF6 L2
                go_wp2_with fail
                refine (sized7 R true _ x W (F.take x) (show (F.take x).length = x by rw [List.length_take, HFL.out]; omega) w7 (by omega) (HF7.out.take x)).mono ?_
                rintro e w8 ⟨rfl, hb8⟩
                rw [L3.out.1]
                have HF8 : Hid (SCells w8 (some ⟨w4.heap.size, 0, none⟩) F) := HF7.out.below hb8
                have hb08 : Below w'.heap.size w' w8 := hb07.trans (hb8.mono hb07.size)
                clear hb8 hb07 HF7
                by_cases hxW : x = W
                · subst hxW
                  go_wp2_with fail
                  refine (sized7 0 true _ 0 0 (F.drop x) (show (F.drop x).length = 0 by rw [List.length_drop, HFL.out]; omega) w8 (by omega) (SCells.dropAll HFL.out)).mono ?_
                  rintro e w9 ⟨rfl, hb9⟩
                  rw [L3.out.2]
                  have hb09 : Below w'.heap.size w' w9 := hb08.trans (hb9.mono hb08.size)
                  clear hb9 hb08
                  go_wp2
                  go_ret
                  exact ⟨rfl, hb09⟩
                · have hxW' : x < W := by omega
                  clear hxW
                  go_wp2_with fail
                  refine (sized7 0 true _ (W - x) (W - x) (F.drop x) (show (F.drop x).length = W - x by rw [List.length_drop, HFL.out]) w8 (by omega) (HF8.out.drop x)).mono ?_
                  rintro e w9 ⟨rfl, hb9⟩
                  rw [L3.out.2]
                  have hb09 : Below w'.heap.size w' w9 := hb08.trans (hb9.mono hb08.size)
                  clear hb9 hb08
                  go_wp2
                  go_ret
                  exact ⟨rfl, hb09⟩
              | true =>
                go_wp2_with fail
                have hW := width_le (R := R) hn' hR'
                refine (rep8 R (some ⟨w'.heap.size, 0, none⟩) n n S HL w4 hn' hR' HS.out).mono ?_
                rintro e w6 ⟨rfl, hrow, hb6⟩
                have HF6 : Hid (SCells w6 (some ⟨w4.heap.size, 0, none⟩) (fixAll R S)) := SCells.of_row (by rw [fixAll_length, HL.out]) hrow
                have HFL : Hid ((fixAll R S).length = width R n) := by rw [Hid, fixAll_length, HL.out]
                have hb06 : Below w'.heap.size w' w6 := hbw.trans (hb6.mono hbw.size)
                have L2 : Hid (sizedB R true (fixAll R S) = true) := law_fixed R S
                have L3 : Hid (sizedB R true ((fixAll R S).take x) = true ∧ sizedB 0 true ((fixAll R S).drop x) = true) := fixed_lo (by omega) (by rw [HL.out]; omega)
                have hwx : x ≤ width R n := Nat.le_trans hxn (width_ge R n).1
                clear hrow hb6 hbw HS
                generalize fixAll R S = F at *
                generalize width R n = W at *
                go_wp2_with fail
                refine (sized7 R true _ W W F HFL w6 hW HF6.out).mono ?_
                rintro e w7 ⟨rfl, hb7⟩
                rw [L2.out]
                have HF7 : Hid (SCells w7 (some ⟨w4.heap.size, 0, none⟩) F) := HF6.out.below hb7
                have hb07 : Below w'.heap.size w' w7 := hb06.trans (hb7.mono hb06.size)
                clear hb7 hb06 HF6 L2
                go_wp2_with fail
                refine (sized7 R true _ x W (F.take x) (show (F.take x).length = x by rw [List.length_take, HFL.out]; omega) w7 (by omega) (HF7.out.take x)).mono ?_
                rintro e w8 ⟨rfl, hb8⟩
                rw [L3.out.1]
                have HF8 : Hid (SCells w8 (some ⟨w4.heap.size, 0, none⟩) F) := HF7.out.below hb8
                have hb08 : Below w'.heap.size w' w8 := hb07.trans (hb8.mono hb07.size)
                clear hb8 hb07 HF7
                by_cases hxW : x = W
                · subst hxW
                  go_wp2_with fail
                  refine (sized7 0 true _ 0 0 (F.drop x) (show (F.drop x).length = 0 by rw [List.length_drop, HFL.out]; omega) w8 (by omega) (SCells.dropAll HFL.out)).mono ?_
                  rintro e w9 ⟨rfl, hb9⟩
                  rw [L3.out.2]
                  have hb09 : Below w'.heap.size w' w9 := hb08.trans (hb9.mono hb08.size)
                  clear hb9 hb08
                  go_wp2
                  go_ret
                  exact ⟨rfl, hb09⟩
                · have hxW' : x < W := by omega
                  clear hxW
                  go_wp2_with fail
                  refine (sized7 0 true _ (W - x) (W - x) (F.drop x) (show (F.drop x).length = W - x by rw [List.length_drop, HFL.out]) w8 (by omega) (HF8.out.drop x)).mono ?_
                  rintro e w9 ⟨rfl, hb9⟩
                  rw [L3.out.2]
                  have hb09 : Below w'.heap.size w' w9 := hb08.trans (hb9.mono hb08.size)
                  clear hb9 hb08
                  go_wp2
                  go_ret
                  exact ⟨rfl, hb09⟩
end Go.Proofs.Qxb6627475a
