import Derived.Test.Qxb6630829aWalksC
namespace Go.Proofs.Qxb6630829a
open Go.RowKit

theorem cell_new (w : World) (s : ByteArray) (t : TypeId) : ∀ j u, [Value.string s][j]? = some u → (w.alloc (.cells #[.string s] t)).cell? ((⟨w.heap.size, 0, none⟩ : Addr).add j) = some u := by
  intro j u hj
  match j, hj with
  | 0, hj => simp at hj; subst hj; simp [Addr.add]
theorem Cells.at' {w wr : World} {g B k : Nat} {L : List ByteArray} (h : Cells w (some ⟨g, 0, none⟩) L) (hb : Below B w wr) (hg : g < B) (hk : k < L.length) : wr.cell? ⟨g, k, none⟩ = some (.string (L.getD k emp)) := by
  obtain ⟨b, off, h1, h2⟩ := h k hk
  simp only [Option.some.injEq, Addr.mk.injEq, and_true] at h1
  obtain ⟨rfl, rfl⟩ := h1
  rw [Nat.zero_add] at h2
  exact (hb.cell (p := ⟨g, k, none⟩) hg).trans h2
def row2 (L : List ByteArray) (k : Nat) (x : ByteArray) (j : Nat) : List Value := (L.take k).map Value.string ++ [.string x] ++ ((L.drop k).take (j - k)).map Value.string
theorem snoc_map2 {L : List ByteArray} {k j : Nat} {x : ByteArray} (hkj : k ≤ j) (h : j < L.length) : row2 L k x j ++ [.string (L.getD j emp)] = row2 L k x (j + 1) := by
  unfold row2
  have e := take_snoc (L := L.drop k) (k := j - k) (by rw [List.length_drop]; omega)
  rw [show j + 1 - k = j - k + 1 by omega, e, List.map_append, List.append_assoc]
  congr 2
  simp [show k + (j - k) = j by omega]
theorem one_str (s : ByteArray) : ∀ u ∈ [Value.string s], u.oneCell' = true := by simp [Value.oneCell']
def row1 (L : List ByteArray) (k : Nat) : List Value := (L.take k).map Value.string
theorem snoc_map {L : List ByteArray} {k : Nat} (h : k < L.length) : row1 L k ++ [.string (L.getD k emp)] = row1 L (k + 1) := by
  unfold row1
  rw [take_snoc h, List.map_append]; rfl

theorem row2_start (L : List ByteArray) (k : Nat) (x : ByteArray) : row1 L k ++ [.string x] = row2 L k x k := by simp [row1, row2]
theorem row2_end {L : List ByteArray} {k n : Nat} (x : ByteArray) (h : L.length = n) : row2 L k x n = (L.take k ++ x :: L.drop k).map Value.string := by
  unfold row2
  rw [List.take_of_length_le (l := L.drop k) (by rw [List.length_drop, h]; exact Nat.le_refl _)]
  simp
theorem own_cells {w : World} {base e g n c : Nat} {M : List ByteArray} (hl : M.length = n) (h : w.ownsRow base e 1 (.slice (some ⟨g, 0, none⟩) n c) n (M.map Value.string)) : Cells w (some ⟨g, 0, none⟩) M := by
  intro i hi
  refine ⟨g, 0, rfl, ?_⟩
  rw [h.cellAt (0 + i) (by omega)]
  simp [hi]
theorem Cells.later {w wr : World} {g B : Nat} {L : List ByteArray} (h : Cells w (some ⟨g, 0, none⟩) L) (hb : Below B w wr) (hg : g < B) : Cells wr (some ⟨g, 0, none⟩) L :=
  fun i hi => ⟨g, 0, rfl, by rw [Nat.zero_add]; exact h.at' hb hg hi⟩
theorem empty_iff (s : ByteArray) : s.toList.isEmpty = decide (s.size = 0) := by
  rw [← size_toList, Bool.eq_iff_iff]; simp
theorem before_ok (p : ByteArray) (L : List ByteArray) : (hold p L).toList.isEmpty = true ∨ ((hold p L).toList.isEmpty = false ∧ Hd p (hold p L) = true ∧ mem (hold p L) L = true) := by
  obtain ⟨_, h⟩ := hold_long p L
  rw [empty_iff]
  by_cases h0 : (hold p L).size = 0
  · exact .inl (by simp [h0])
  · rcases h with h | h
    · exact absurd h h0
    · exact .inr ⟨by simp [h0], h.2, mem_of h.1⟩
theorem insert_yes {p x : ByteArray} {L : List ByteArray} {i : Nat} (h : Hd p x = true) (hs : (hold p L).size < x.size) : ((hold p (L.take i ++ x :: L.drop i)).toList == x.toList) = true := by
  rw [law_insert, if_pos ⟨h, hs⟩]; simp
theorem insert_short {p x : ByteArray} {L : List ByteArray} {i : Nat} (hs : ¬ (hold p L).size < x.size) : ((hold p (L.take i ++ x :: L.drop i)).toList == (hold p L).toList) = true := by
  rw [law_insert, if_neg (fun h => hs h.2)]; simp
theorem insert_no {p x : ByteArray} {L : List ByteArray} {i : Nat} (h : Hd p x = false) : ((hold p (L.take i ++ x :: L.drop i)).toList == (hold p L).toList) = true := by
  rw [law_insert, if_neg (fun h' => by rw [h] at h'; simp at h')]; simp

set_option maxHeartbeats 1000000 in
theorem law4_some (p : ByteArray) (ad : Addr) (n c : Nat) (k : Int) (x : ByteArray) (L : List ByteArray) (HL : Hid (L.length = n)) (w : World) (hp : p.size ≤ 9223372036854775807) (hx : x.size ≤ 9223372036854775807) (hn : n ≤ 9223372036854775807) (hb : ∀ s ∈ L, s.size ≤ 9223372036854775807) (hc : Cells w (some ad) L) :
    Calls Try.prog 4 #[.string p, .slice (some ad) n c, .int .i64 k, .string x] w fun e w' => e = .returned (.bool true) ∧ Below w.heap.size w w' := by
  obtain ⟨i0, hi, hz0, hz1, hz2⟩ := info_parts Try.info9
  go_enter Try.func4, Try.ntmps4
  go_wp2_with fail
  refine (bytes9 p (some ad) n c k x L HL w hp hx hn hb hc).mono ?_
  rintro e w' ⟨⟨y, rfl, hbb⟩, rfl⟩
  cases y with
  | false =>
    go_wp2
    go_ret
    exact ⟨rfl, Below.refl _ _⟩
  | true =>
    obtain ⟨b1, bx, b2, b3⟩ := hbb rfl
    clear hbb hb hp hx hn
    go_wp2_with fail
    refine (size6 p x _ n c L HL w' b1 bx (by omega) b3 hc).mono ?_
    rintro e w' ⟨⟨y, rfl⟩, rfl⟩
    cases y with
    | false =>
      go_wp2
      go_ret
      exact ⟨rfl, Below.refl _ _⟩
    | true =>
      by_cases hk0 : k < 0
      · go_wp2
        go_ret
        exact ⟨rfl, Below.refl _ _⟩
      · by_cases hk1 : (n : Int) < k
        · go_wp2
          go_ret
          exact ⟨rfl, Below.refl _ _⟩
        · obtain ⟨m, rfl⟩ := Int.eq_ofNat_of_zero_le (by omega : 0 ≤ k)
          have hm : m ≤ n := by omega
          clear hk0 hk1
          go_wp2_with (at_make; refine wpList_make_full _ rfl _ _ 22 rfl w'.heap.size 9 i0 (.string ⟨#[]⟩) 1 Try.underlying22 hi hz0 hz1 _ _ _ _ n rfl rfl (by omega) (by omega) (by rw [hz2]; omega) (by unfold maxLen; omega) (by omega) ?_)
          intro w1 hown hgrow
          obtain ⟨cur, hcur, hlen⟩ := own_block hown
          have hbel : Below w'.heap.size w' w1 := (Below.refl _ _).grown hgrow (by omega) (by simp)
          clear hown hgrow
          have hmin : (L.map Value.string).length = Nat.min n n := by rw [List.length_map, HL.out]; exact (Nat.min_self n).symm
          have hfit : 0 + (L.map Value.string).length ≤ cur.length := by rw [List.length_map, HL.out, hlen]; omega
          have hpos : 0 < (L.map Value.string).length → (some ⟨w'.heap.size, 0, none⟩ : Option Addr) = some ⟨w'.heap.size, 0, none⟩ ∧ ∃ ad', (some ad : Option Addr) = some ad' ∧ ∀ j v, (L.map Value.string)[j]? = some v → w1.cell? (ad'.add j) = some v := by
            intro _
            exact ⟨rfl, _, rfl, src_cells hc hbel⟩
          go_wp2_with (refine wpList_copy_splice rfl (.tmp 41) (.tmp 42) 22 22 rfl 9 Try.underlying22 (by kernel_rfl) (some ⟨w'.heap.size, 0, none⟩) (some ad) n n n c rfl rfl w'.heap.size 0 cur 9 hcur (L.map Value.string) hmin hpos hfit (by simp [Value.oneCell']) w'.heap.size w' hbel (by omega) ?_)
          intro w2 hc2 hbel2
          have HC : Cells w2 (some ⟨w'.heap.size, 0, none⟩) L := copied (by rw [hlen, HL.out]) hc2
          have hlt : w'.heap.size < w2.heap.size := by
            have := Array.getElem?_eq_some_iff.1 hc2.out
            exact this.1
          clear hc2 hcur hpos hbel hc hmin hfit hlen
          go_wp2_with fail
          refine (holder7 p _ n n L HL _ (by omega) b3 HC).mono ?_
          rintro e w3 ⟨rfl, rfl⟩
          go_wp2_with (at_make; refine wpList_make_own _ rfl _ _ 22 rfl w3.heap.size 9 i0 (.string ⟨#[]⟩) 1 Try.underlying22 hi hz0 hz1 _ _ _ (n + 1) rfl rfl (by omega) (by rw [hz2]; omega) (by unfold maxLen; omega) (by omega) ?_)
          intro w4 hown hgrow
          have hbel4 : Below w3.heap.size w3 w4 := (Below.refl _ _).grown hgrow (by omega) (by simp)
          clear hgrow
          go_wp2
          go_loopw [11, 12] (fun v i wr => ∃ k : Nat, k ≤ m ∧ i = .int .i64 k ∧ v = .slice (some ⟨w3.heap.size, 0, none⟩) k (n + 1) ∧ wr.ownsRow w3.heap.size 9 1 (.slice (some ⟨w3.heap.size, 0, none⟩) k (n + 1)) k (row1 L k) ∧ Below w3.heap.size w3 wr) (fun _ i _ => m - (intOf i).toNat)
          case atStart => exact ⟨0, Nat.zero_le _, rfl, rfl, hown, hbel4⟩
          case round =>
            obtain ⟨k, hk, rfl, rfl, hownr, hbelr⟩ := hrel
            by_cases hkm : k < m
            · have hkL : k < L.length := by rw [HL.out]; omega
              have hck := HC.at' hbelr hlt hkL
              have hsn : Hid (row1 L k ++ [.string (L.getD k emp)] = row1 L (k + 1)) := snoc_map hkL
              generalize L.getD k emp = r at *
              go_wp2_with (at_builtin; refine wpList_append_fits _ rfl (.tmp 57) (.tmp 62) 22 rfl w3.heap.size 9 i0 1 Try.underlying22 hi hz1 w3.heap.size k (n + 1) _ rfl (hownr.alloc _) ⟨wr.heap.size, 0, none⟩ 1 1 [.string r] rfl rfl (cell_new _ _ _) (one_str _) (by omega) ?_)
              intro w5 hown5 hgrow5
              have hbel5 : Below w3.heap.size w3 w5 := (hbelr.alloc hbelr.size _).grown hgrow5 (by have := hbelr.size; simp; omega) (by simp)
              rw [hsn.out] at hown5
              clear hgrow5 hck hsn
              go_wp2
              go_roundw
              case rel => exact ⟨k + 1, by omega, by go_num, rfl, hown5, hbel5⟩
              case measure => simp [intOf]; omega
            · obtain rfl : k = m := by omega
              clear hkm hk hown hbel4
              go_wp2_with (at_builtin; refine wpList_append_fits _ rfl (.tmp 64) (.tmp 66) 22 rfl w3.heap.size 9 i0 1 Try.underlying22 hi hz1 w3.heap.size k (n + 1) _ rfl (hownr.alloc _) ⟨wr.heap.size, 0, none⟩ 1 1 [.string x] rfl rfl (cell_new _ _ _) (one_str _) (by omega) ?_)
              intro w5 hown5 hgrow5
              have hbel5 : Below w3.heap.size w3 w5 := (hbelr.alloc hbelr.size _).grown hgrow5 (by have := hbelr.size; simp; omega) (by simp)
              clear hgrow5 hownr hbelr
              go_wp2
              go_loopw [11, 13] (fun v i wr => ∃ j : Nat, k ≤ j ∧ j ≤ n ∧ i = .int .i64 j ∧ v = .slice (some ⟨w3.heap.size, 0, none⟩) (j + 1) (n + 1) ∧ wr.ownsRow w3.heap.size 9 1 (.slice (some ⟨w3.heap.size, 0, none⟩) (j + 1) (n + 1)) (j + 1) (row2 L k x j) ∧ Below w3.heap.size w3 wr) (fun _ i _ => n - (intOf i).toNat)
              case atStart => exact ⟨k, Nat.le_refl _, hm, rfl, rfl, by rw [← row2_start]; exact hown5, hbel5⟩
              case round =>
                obtain ⟨j, hkj, hj, rfl, rfl, hownr, hbelr⟩ := hrel
                by_cases hjn : j < n
                · have hjL : j < L.length := by rw [HL.out]; omega
                  have hck := HC.at' hbelr hlt hjL
                  have hsn : Hid (row2 L k x j ++ [.string (L.getD j emp)] = row2 L k x (j + 1)) := snoc_map2 hkj hjL
                  generalize L.getD j emp = r at *
                  go_wp2_with (at_builtin; refine wpList_append_fits _ rfl (.tmp 75) (.tmp 80) 22 rfl w3.heap.size 9 i0 1 Try.underlying22 hi hz1 w3.heap.size (j + 1) (n + 1) _ rfl (hownr.alloc _) ⟨wr.heap.size, 0, none⟩ 1 1 [.string r] rfl rfl (cell_new _ _ _) (one_str _) (by omega) ?_)
                  intro w6 hown6 hgrow6
                  have hbel6 : Below w3.heap.size w3 w6 := (hbelr.alloc hbelr.size _).grown hgrow6 (by have := hbelr.size; simp; omega) (by simp)
                  rw [hsn.out] at hown6
                  clear hgrow6 hck hsn
                  go_wp2
                  go_roundw
                  case rel => exact ⟨j + 1, by omega, by omega, by go_num, rfl, hown6, hbel6⟩
                  case measure => simp [intOf]; omega
                · obtain rfl : j = n := by omega
                  clear hjn hj hown5 hbel5
                  go_wp2_with fail
                  rw [row2_end x HL.out] at hownr
                  have hML : (L.take k ++ x :: L.drop k).length = j + 1 := by
                    have := HL.out
                    simp; omega
                  have HM := own_cells hML hownr
                  have HC' := HC.later hbelr hlt
                  have hbel7 : Below w'.heap.size w' wr := hbel2.trans (hbelr.mono (by omega))
                  clear hownr hbelr HC hbel2 hi hz0 hz1 hz2
                  refine (holder7 p _ (j + 1) (j + 1) (L.take k ++ x :: L.drop k) hML _ (by omega) ?_ HM).mono ?_
                  · intro s hs
                    simp only [List.mem_append, List.mem_cons] at hs
                    rcases hs with h | h | h
                    · exact b3 s (List.mem_of_mem_take h)
                    · rw [h]; exact bx
                    · exact b3 s (List.mem_of_mem_drop h)
                  rintro e wz ⟨rfl, rfl⟩
                  have f1 := @insert_yes p x L k
                  have f2 := @insert_short p x L k
                  have f3 := @insert_no p x L k
                  have f4 := before_ok p L
                  clear HM hML b3
                  generalize hold p (L.take k ++ x :: L.drop k) = af at *
                  generalize hold p L = bf at *
                  rcases f4 with f4 | ⟨f4, f5, f6⟩
                  all_goals
                    cases hh : Hd p x with
                    | true =>
                      by_cases hs : bf.size < x.size
                      · have g := f1 hh hs
                        clear f1 f2 f3
                        go_wp2_with (first | (go_at_call 10; refine (holds10 _ _ _).mono ?_; rintro e wz ⟨rfl, rfl⟩) | (go_at_call 11; refine (member11 _ _ _ _ L HL _ (by omega) HC').mono ?_; rintro e wz ⟨rfl, rfl⟩))
                        go_ret
                        exact ⟨rfl, hbel7⟩
                      · have g := f2 hs
                        clear f1 f2 f3
                        go_wp2_with (first | (go_at_call 10; refine (holds10 _ _ _).mono ?_; rintro e wz ⟨rfl, rfl⟩) | (go_at_call 11; refine (member11 _ _ _ _ L HL _ (by omega) HC').mono ?_; rintro e wz ⟨rfl, rfl⟩))
                        go_ret
                        exact ⟨rfl, hbel7⟩
                    | false =>
                      have g := f3 hh
                      clear f1 f2 f3
                      go_wp2_with (first | (go_at_call 10; refine (holds10 _ _ _).mono ?_; rintro e wz ⟨rfl, rfl⟩) | (go_at_call 11; refine (member11 _ _ _ _ L HL _ (by omega) HC').mono ?_; rintro e wz ⟨rfl, rfl⟩))
                      go_ret
                      exact ⟨rfl, hbel7⟩

set_option maxHeartbeats 1000000 in
theorem law4_nil (p : ByteArray) (k : Int) (x : ByteArray) (w : World) (hp : p.size ≤ 9223372036854775807) (hx : x.size ≤ 9223372036854775807) :
    Calls Try.prog 4 #[.string p, .slice none 0 0, .int .i64 k, .string x] w fun e w' => e = .returned (.bool true) ∧ Below w.heap.size w w' := by
  obtain ⟨i0, hi, hz0, hz1, hz2⟩ := info_parts Try.info9
  go_enter Try.func4, Try.ntmps4
  go_wp2_with fail
  refine (bytes9 p none 0 0 k x [] rfl w hp hx (by omega) (by simp) (no_cells _ _)).mono ?_
  rintro e w' ⟨⟨y, rfl, hbb⟩, rfl⟩
  cases y with
  | false =>
    go_wp2
    go_ret
    exact ⟨rfl, Below.refl _ _⟩
  | true =>
    obtain ⟨b1, bx, _, _⟩ := hbb rfl
    clear hbb hp hx
    go_wp2_with fail
    refine (size6 p x _ 0 0 [] rfl w' b1 bx (by omega) (by simp) (no_cells _ _)).mono ?_
    rintro e w' ⟨⟨y, rfl⟩, rfl⟩
    cases y with
    | false =>
      go_wp2
      go_ret
      exact ⟨rfl, Below.refl _ _⟩
    | true =>
      by_cases hk0 : k < 0
      · go_wp2
        go_ret
        exact ⟨rfl, Below.refl _ _⟩
      · by_cases hk1 : 0 < k
        · go_wp2
          go_ret
          exact ⟨rfl, Below.refl _ _⟩
        · obtain rfl : k = 0 := by omega
          clear hk0 hk1
          go_wp2_with fail
          refine (holder7 p none 0 0 [] rfl _ (by omega) (by simp) (no_cells _ _)).mono ?_
          rintro e w3 ⟨rfl, rfl⟩
          go_wp2_with (at_make; refine wpList_make_own _ rfl _ _ 22 rfl w3.heap.size 9 i0 (.string ⟨#[]⟩) 1 Try.underlying22 hi hz0 hz1 _ _ _ 1 rfl rfl (by omega) (by rw [hz2]; omega) (by unfold maxLen; omega) (by omega) ?_)
          intro w4 hown hgrow
          have hbel4 : Below w3.heap.size w3 w4 := (Below.refl _ _).grown hgrow (by omega) (by simp)
          clear hgrow
          go_wp2
          refine wp_loop_rounds 1 ?_
          rw [rounds_succ]
          go_wp2_with (at_builtin; refine wpList_append_fits _ rfl (.tmp 64) (.tmp 66) 22 rfl w3.heap.size 9 i0 1 Try.underlying22 hi hz1 w3.heap.size 0 1 _ rfl (hown.alloc _) ⟨w4.heap.size, 0, none⟩ 1 1 [.string x] rfl rfl (cell_new _ _ _) (one_str _) (by omega) ?_)
          intro w5 hown5 hgrow5
          have hbel7 : Below w3.heap.size w3 w5 := (hbel4.alloc hbel4.size _).grown hgrow5 (by have := hbel4.size; simp; omega) (by simp)
          clear hgrow5 hbel4 hown
          have HM : Cells w5 (some ⟨w3.heap.size, 0, none⟩) [x] := own_cells rfl hown5
          clear hown5
          go_wp2
          refine wp_loop_rounds 1 ?_
          rw [rounds_succ]
          go_wp2_with fail
          refine (holder7 p _ 1 1 [x] rfl _ (by omega) (by simpa using bx) HM).mono ?_
          rintro e wz ⟨rfl, rfl⟩
          have f1 := @insert_yes p x [] 0
          have f2 := @insert_short p x [] 0
          have f3 := @insert_no p x [] 0
          have f4 := before_ok p []
          clear HM
          simp only [List.take_nil, List.drop_nil, List.nil_append] at f1 f2 f3
          generalize hold p [x] = af at *
          generalize hold p [] = bf at *
          rcases f4 with f4 | ⟨f4, f5, f6⟩
          all_goals
            cases hh : Hd p x with
            | true =>
              by_cases hs : bf.size < x.size
              · have g := f1 hh hs
                clear f1 f2 f3
                go_wp2_with (first | (go_at_call 10; refine (holds10 _ _ _).mono ?_; rintro e wz ⟨rfl, rfl⟩) | (go_at_call 11; refine (member11 _ _ 0 _ [] rfl _ (by omega) (no_cells _ _)).mono ?_; rintro e wz ⟨rfl, rfl⟩))
                go_ret
                exact ⟨rfl, hbel7⟩
              · have g := f2 hs
                clear f1 f2 f3
                go_wp2_with (first | (go_at_call 10; refine (holds10 _ _ _).mono ?_; rintro e wz ⟨rfl, rfl⟩) | (go_at_call 11; refine (member11 _ _ 0 _ [] rfl _ (by omega) (no_cells _ _)).mono ?_; rintro e wz ⟨rfl, rfl⟩))
                go_ret
                exact ⟨rfl, hbel7⟩
            | false =>
              have g := f3 hh
              clear f1 f2 f3
              go_wp2_with (first | (go_at_call 10; refine (holds10 _ _ _).mono ?_; rintro e wz ⟨rfl, rfl⟩) | (go_at_call 11; refine (member11 _ _ 0 _ [] rfl _ (by omega) (no_cells _ _)).mono ?_; rintro e wz ⟨rfl, rfl⟩))
              go_ret
              exact ⟨rfl, hbel7⟩

theorem walk4 (p : ByteArray) (a : Option Addr) (n c : Nat) (k : Int) (x : ByteArray) (L : List ByteArray) (w : World) (hp : p.size ≤ maxLen) (hx : x.size ≤ maxLen) (h : IsStrs w a n c L) :
    Calls Try.prog 4 #[.string p, .slice a n c, .int .i64 k, .string x] w fun e w' => e = .returned (.bool true) ∧ Below w.heap.size w w' := by
  obtain ⟨h1, h2, h3, h4, h5⟩ := h
  unfold maxLen at hp hx
  cases a with
  | none =>
    obtain ⟨rfl, rfl⟩ := h3 rfl
    exact law4_nil p k x w hp hx
  | some ad => exact law4_some p ad n c k x L h1 w hp hx h2 h5 h4
end Go.Proofs.Qxb6630829a
