import Derived.Test.Qxb6630829aWalksC
namespace Go.Proofs.Qxb6630829a
open Go.RowKit

set_option maxHeartbeats 1000000 in
theorem law3_nil (p : ByteArray) (k : Int) (w : World) (hp : p.size ≤ 9223372036854775807) :
    Calls Try.prog 3 #[.string p, .slice none 0 0, .int .i64 k] w fun e w' => e = .returned (.bool true) ∧ Below w.heap.size w w' := by
  go_enter Try.func3, Try.ntmps3
  go_wp2_with fail
  refine (bytes5 p none 0 0 k [] rfl w hp (by omega) (by simp) (no_cells _ _)).mono ?_
  rintro e w' ⟨⟨b, rfl, hb⟩, rfl⟩
  cases b with
  | false =>
    go_wp2
    go_ret
    exact ⟨rfl, Below.refl _ _⟩
  | true =>
    obtain ⟨b1, b2, b3⟩ := hb rfl
    clear hb b3
    go_wp2_with fail
    refine (size6 p _ none 0 0 [] rfl w' b1 (by decide) (by omega) (by simp) (no_cells _ _)).mono ?_
    rintro e w' ⟨⟨x, rfl⟩, rfl⟩
    cases x with
    | false =>
      go_wp2
      go_ret
      exact ⟨rfl, Below.refl _ _⟩
    | true =>
      by_cases hk : k = 0
      · subst hk
        go_wp2_with fail
        refine (holder7 p none 0 0 [] rfl w' (by omega) (by simp) (no_cells _ _)).mono ?_
        rintro e w' ⟨rfl, rfl⟩
        go_wp2_with fail
        refine (holder7 p none 0 0 [] rfl w' (by omega) (by simp) (no_cells _ _)).mono ?_
        rintro e w' ⟨rfl, rfl⟩
        go_wp2_with fail
        refine (holder7 p none 0 0 [] rfl w' (by omega) (by simp) (no_cells _ _)).mono ?_
        rintro e w' ⟨rfl, rfl⟩
        go_wp2_with (go_at_call 8; refine (longest8 p _ none 0 0 [] rfl _ (by omega) (no_cells _ _) (hold_long p [])).mono ?_; rintro e w' ⟨rfl, rfl⟩)
        go_ret
        exact ⟨rfl, Below.refl _ _⟩
      · by_cases hk0 : k < 0
        · go_wp2
          go_ret
          exact ⟨rfl, Below.refl _ _⟩
        · have : 0 < k := by omega
          go_wp2
          go_ret
          exact ⟨rfl, Below.refl _ _⟩

set_option maxHeartbeats 1000000 in
theorem law3_some (p : ByteArray) (ad : Addr) (n c : Nat) (k : Int) (L : List ByteArray) (HL : Hid (L.length = n)) (w : World) (hp : p.size ≤ 9223372036854775807) (hn : n ≤ 9223372036854775807) (hb : ∀ s ∈ L, s.size ≤ 9223372036854775807) (hc : Cells w (some ad) L) :
    Calls Try.prog 3 #[.string p, .slice (some ad) n c, .int .i64 k] w fun e w' => e = .returned (.bool true) ∧ Below w.heap.size w w' := by
  obtain ⟨i0, hi, hz0, hz1, hz2⟩ := info_parts Try.info9
  go_enter Try.func3, Try.ntmps3
  go_wp2_with fail
  refine (bytes5 p (some ad) n c k L HL w hp hn hb hc).mono ?_
  rintro e w' ⟨⟨x, rfl, hbb⟩, rfl⟩
  cases x with
  | false =>
    go_wp2
    go_ret
    exact ⟨rfl, Below.refl _ _⟩
  | true =>
    obtain ⟨b1, b2, b3⟩ := hbb rfl
    clear hbb hb
    go_wp2_with fail
    refine (size6 p _ _ n c L HL w' b1 (by decide) (by omega) b3 hc).mono ?_
    rintro e w' ⟨⟨x, rfl⟩, rfl⟩
    cases x with
    | false =>
      go_wp2
      go_ret
      exact ⟨rfl, Below.refl _ _⟩
    | true =>
      by_cases hk0 : k < 0
      · go_wp2
        go_ret
        exact ⟨rfl, Below.refl _ _⟩
      · by_cases hk1 : (n : Int) < k
        · go_wp2
          go_ret
          exact ⟨rfl, Below.refl _ _⟩
        · obtain ⟨m, rfl⟩ := Int.eq_ofNat_of_zero_le (by omega : 0 ≤ k)
          have hm : m ≤ n := by omega
          clear hk0 hk1
          go_wp2_with (at_make; refine wpList_make_full _ rfl _ _ 22 rfl w'.heap.size 9 i0 (.string ⟨#[]⟩) 1 Try.underlying22 hi hz0 hz1 _ _ _ _ n rfl rfl (by omega) (by omega) (by rw [hz2]; omega) (by unfold maxLen; omega) (by omega) ?_)
          intro w1 hown hgrow
          obtain ⟨cur, hcur, hlen⟩ := own_block hown
          have hbel : Below w'.heap.size w' w1 := (Below.refl _ _).grown hgrow (by omega) (by simp)
          clear hown hgrow
          have hmin : (L.map Value.string).length = Nat.min n n := by rw [List.length_map, HL.out]; exact (Nat.min_self n).symm
          have hfit : 0 + (L.map Value.string).length ≤ cur.length := by rw [List.length_map, HL.out, hlen]; omega
          have hpos : 0 < (L.map Value.string).length → (some ⟨w'.heap.size, 0, none⟩ : Option Addr) = some ⟨w'.heap.size, 0, none⟩ ∧ ∃ ad', (some ad : Option Addr) = some ad' ∧ ∀ j v, (L.map Value.string)[j]? = some v → w1.cell? (ad'.add j) = some v := by
            intro _
            exact ⟨rfl, _, rfl, src_cells hc hbel⟩
          go_wp2_with (refine wpList_copy_splice rfl (.tmp 34) (.tmp 35) 22 22 rfl 9 Try.underlying22 (by kernel_rfl) (some ⟨w'.heap.size, 0, none⟩) (some ad) n n n c rfl rfl w'.heap.size 0 cur 9 hcur (L.map Value.string) hmin hpos hfit (by simp [Value.oneCell']) w'.heap.size w' hbel (by omega) ?_)
          intro w2 hc2 hbel2
          have HC : Cells w2 (some ⟨w'.heap.size, 0, none⟩) L := copied (by rw [hlen, HL.out]) hc2
          clear hc2 hcur hpos hbel hc
          go_wp2_with fail
          refine (holder7 p _ n n L HL _ (by omega) b3 HC).mono ?_
          rintro e w3 ⟨rfl, rfl⟩
          go_wp2_with fail
          refine (holder7 p _ m n (L.take m) (show (L.take m).length = m by rw [List.length_take, HL.out]; omega) _ (by omega) (fun s hs => b3 s (List.mem_of_mem_take hs)) (HC.take m)).mono ?_
          rintro e w3 ⟨rfl, rfl⟩
          by_cases hmn : m = n
          · subst hmn
            go_wp2_with fail
            refine (holder7 p _ 0 0 (L.drop m) (show (L.drop m).length = 0 by rw [List.length_drop, HL.out]; omega) _ (by omega) (fun s hs => b3 s (List.mem_of_mem_drop hs)) (Cells.dropAll HL.out)).mono ?_
            rintro e w3 ⟨rfl, rfl⟩
            have hcut := law_cut p L m
            have hlong := hold_long p L
            generalize hold p (L.take m) = ta at *
            generalize hold p (L.drop m) = td at *
            generalize hold p L = wh at *
            have HI : Hid (IsLong p L wh) := hlong
            clear hlong
            by_cases hs : ta.size < td.size
            · rw [if_pos hs] at hcut
              have heq : (wh.toList == td.toList) = true := by rw [hcut]; simp
              clear hcut
              go_wp2_with (go_at_call 8; refine (longest8 p wh _ _ _ L HL _ (by omega) HC HI.out).mono ?_; rintro e w' ⟨rfl, rfl⟩)
              go_ret
              exact ⟨rfl, hbel2⟩
            · rw [if_neg hs] at hcut
              have heq : (wh.toList == ta.toList) = true := by rw [hcut]; simp
              clear hcut
              go_wp2_with (go_at_call 8; refine (longest8 p wh _ _ _ L HL _ (by omega) HC HI.out).mono ?_; rintro e w' ⟨rfl, rfl⟩)
              go_ret
              exact ⟨rfl, hbel2⟩
          · have hmn' : m < n := by omega
            clear hmn
            go_wp2_with fail
            refine (holder7 p _ (n - m) (n - m) (L.drop m) (show (L.drop m).length = n - m by rw [List.length_drop, HL.out]) _ (by omega) (fun s hs => b3 s (List.mem_of_mem_drop hs)) (HC.drop m)).mono ?_
            rintro e w3 ⟨rfl, rfl⟩
            have hcut := law_cut p L m
            have hlong := hold_long p L
            generalize hold p (L.take m) = ta at *
            generalize hold p (L.drop m) = td at *
            generalize hold p L = wh at *
            have HI : Hid (IsLong p L wh) := hlong
            clear hlong
            by_cases hs : ta.size < td.size
            · rw [if_pos hs] at hcut
              have heq : (wh.toList == td.toList) = true := by rw [hcut]; simp
              clear hcut
              go_wp2_with (go_at_call 8; refine (longest8 p wh _ _ _ L HL _ (by omega) HC HI.out).mono ?_; rintro e w' ⟨rfl, rfl⟩)
              go_ret
              exact ⟨rfl, hbel2⟩
            · rw [if_neg hs] at hcut
              have heq : (wh.toList == ta.toList) = true := by rw [hcut]; simp
              clear hcut
              go_wp2_with (go_at_call 8; refine (longest8 p wh _ _ _ L HL _ (by omega) HC HI.out).mono ?_; rintro e w' ⟨rfl, rfl⟩)
              go_ret
              exact ⟨rfl, hbel2⟩
theorem walk3 (p : ByteArray) (a : Option Addr) (n c : Nat) (k : Int) (L : List ByteArray) (w : World) (hp : p.size ≤ maxLen) (h : IsStrs w a n c L) :
    Calls Try.prog 3 #[.string p, .slice a n c, .int .i64 k] w fun e w' => e = .returned (.bool true) ∧ Below w.heap.size w w' := by
  obtain ⟨h1, h2, h3, h4, h5⟩ := h
  unfold maxLen at hp
  cases a with
  | none =>
    obtain ⟨rfl, rfl⟩ := h3 rfl
    exact law3_nil p k w hp
  | some ad => exact law3_some p ad n c k L h1 w hp h2 h5 h4
end Go.Proofs.Qxb6630829a
