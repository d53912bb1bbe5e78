import Derived.Test.Qxb6627432aLaw3
namespace Go.Proofs.Qxb6627432a
open Go.RowKit Go.Maps

theorem KCells.take {w : World} {a : Option Addr} {L : List Ky} (h : KCells w a L) (m : Nat) : KCells w a (L.take m) := by
  intro i hi
  simp only [List.length_take] at hi
  obtain ⟨b, off, h1, h2, h3⟩ := h i (by omega)
  have e : (L.take m).getD i nul = L.getD i nul := by simp [show i < m by omega]
  exact ⟨b, off, h1, by rw [e]; exact h2, by rw [e]; exact h3⟩
theorem KCells.drop {w : World} {g : Nat} {L : List Ky} (h : KCells w (some ⟨g, 0, none⟩) L) (m : Nat) : KCells w (some ⟨g, m * 2, none⟩) (L.drop m) := by
  intro i hi
  simp only [List.length_drop] at hi
  obtain ⟨b, off, h1, h2, h3⟩ := h (m + i) (by omega)
  simp only [Option.some.injEq, Addr.mk.injEq, and_true] at h1
  obtain ⟨rfl, rfl⟩ := h1
  have e : (L.drop m).getD i nul = L.getD (m + i) nul := by simp
  refine ⟨g, m * 2, rfl, ?_, ?_⟩
  · rw [e, ← h2, show 0 + (m + i) * 2 = m * 2 + i * 2 by omega]
  · rw [e, ← h3, show 0 + (m + i) * 2 + 1 = m * 2 + i * 2 + 1 by omega]
theorem KCells.dropAll {w : World} {a : Option Addr} {L : List Ky} {m : Nat} (h : L.length = m) : KCells w a (L.drop m) := by
  intro i hi
  simp only [List.length_drop] at hi
  omega
def uni (le ri : List Ky) (c : Ky) : Bool := inC le c || inC ri c
theorem law_uni (L G : List Ky) (m : Nat) : L.filter (uni (eff L (G.take m)) (eff L (G.drop m))) = eff L G := law_union L G m
theorem sz_eff {L G : List Ky} (h : ∀ q ∈ L, Sm q) : ∀ q ∈ eff L G, Sz q := fun q hq => sz_of_sm (h q (mem_eff.1 hq).1)
theorem append_belowE {w wr w5 : World} {v : Value} {o : Obj} {k e : Nat} {xs : List Value} (hB : Below w.heap.size w wr) (hown : wr.ownsRow w.heap.size e 2 v k xs) (hgrow : (wr.alloc o).grownBy w5 v.ownBlock) : Below w.heap.size w w5 := by
  have hsz := hB.size
  exact (hB.alloc hsz o).grown hgrow (by simp; omega) fun b hb => (hown.lt b hb).1

set_option maxHeartbeats 8000000 in
theorem law4 (a a' : Option Addr) (n c m c' : Nat) (cut : Int) (L G : List Ky) (HL : Hid (L.length = n)) (HG : Hid (G.length = m)) (w : World) (hn : n ≤ 9223372036854775807) (hm : m ≤ 9223372036854775807)
    (ha : a = none → n = 0 ∧ c = 0) (ha' : a' = none → m = 0 ∧ c' = 0) (hs : ∀ q ∈ L, Sz q) (hs' : ∀ q ∈ G, Sz q) (hc : KCells w a L) (hc' : KCells w a' G) :
    Calls Try.prog 4 #[.slice a n c, .slice a' m c', .int .i64 cut] w fun e w' => e = .returned (.bool true) ∧ Below w.heap.size w w' := by
  have HA : Hid ((a = none → n = 0 ∧ c = 0) ∧ (a' = none → m = 0 ∧ c' = 0)) := ⟨ha, ha'⟩
  have HC : Hid (KCells w a L) := hc
  have HC' : Hid (KCells w a' G) := hc'
  go_enter Try.func4, Try.ntmps4
  go_wp2_with fail
  refine (bytes13 a a' n c m c' cut L G HL HG w hn hm hs hs' hc hc').mono ?_
  rintro e w' ⟨⟨y, rfl, hbb⟩, rfl⟩
  clear hc hc' hs hs' ha ha'
  cases y with
  | false =>
    go_wp2
    go_ret
    exact ⟨rfl, Below.refl _ _⟩
  | true =>
    obtain ⟨s1, s2⟩ := hbb rfl
    have HS : Hid ((∀ q ∈ L, Sm q) ∧ ∀ q ∈ G, Sm q) := ⟨s1, s2⟩
    clear hbb s1 s2
    by_cases h1 : 4096 < n
    · go_wp2
      go_ret
      exact ⟨rfl, Below.refl _ _⟩
    by_cases h2 : 4096 < m
    · go_wp2
      go_ret
      exact ⟨rfl, Below.refl _ _⟩
    have hn' : n ≤ 4096 := by omega
    have hm' : m ≤ 4096 := by omega
    clear hn hm
    go_wp2_with fail
    refine (size6 a a' n c m c' L G HL HG w' hn' hm' HS.out.1 HS.out.2 HC.out HC'.out).mono ?_
    rintro e w1 ⟨⟨y, rfl⟩, rfl⟩
    by_cases hx : 1048576 < y
    · go_wp2
      go_ret
      exact ⟨rfl, Below.refl _ _⟩
    by_cases hk0 : cut < 0
    · go_wp2
      go_ret
      exact ⟨rfl, Below.refl _ _⟩
    by_cases hk1 : (m : Int) < cut
    · go_wp2
      go_ret
      exact ⟨rfl, Below.refl _ _⟩
    obtain ⟨x, rfl⟩ := Int.eq_ofNat_of_zero_le (by omega : 0 ≤ cut)
    have hxm : x ≤ m := by omega
    clear hk0 hk1
    go_wp2_with fail
    refine (cat7 a n c L HL w1 hn' HA.out.1 (fun q hq => sz_of_sm (HS.out.1 q hq)) HC.out).mono ?_
    rintro e w2 ⟨hb2, rfl | ⟨Pb, rfl, hcat⟩⟩
    · go_wp2
      go_ret
      exact ⟨rfl, hb2⟩
    have HCat : Hid (CatOk w2 Pb n L) := hcat
    clear hcat
    go_wp2_with fail
    cases a' with
    | none =>
      obtain ⟨rfl, rfl⟩ := HA.out.2 rfl
      obtain rfl : x = 0 := by omega
      refine (keys9_nil w2).mono ?_
      rintro e w3 ⟨rfl, rfl⟩
      have hb3 : Below w3.heap.size w3 w3 := Below.refl _ _
      have hk3 : KCells w3 none G := by rw [List.eq_nil_of_length_eq_zero HG.out]; exact no_keys _ _
      go_wp2_with fail
      refine (eff8 Pb n L HL none 0 0 G HG w3 hn' hm' (HCat.out.below hb3) (fun q hq => sz_of_sm (HS.out.2 q hq)) hk3).mono ?_
      rintro e w4 ⟨ga, gc, rfl, hg4, _, _, _, hb4⟩
      generalize hwh : eff L G = wh at *
      have HWH : Hid (eff L G = wh) := hwh
      clear hwh
      go_wp2_with fail
      refine (eff8 Pb n L HL none 0 0 (G.take 0) rfl w4 hn' (by omega) (HCat.out.below (hb3.trans (hb4.mono hb3.size))) (fun q hq => sz_of_sm (HS.out.2 q (List.mem_of_mem_take hq))) (no_keys _ _)).mono ?_
      rintro e w5 ⟨la, lc, rfl, hl5, _, _, _, hb5⟩
      generalize hle : eff L (G.take 0) = le at *
      have HLE : Hid (eff L (G.take 0) = le) := hle
      clear hle
      go_wp2_with fail
      refine (eff8 Pb n L HL none 0 0 (G.drop 0) (show (G.drop 0).length = 0 by rw [List.length_drop, HG.out]) w5 hn' (by omega) (HCat.out.below ((hb3.trans (hb4.mono hb3.size)).trans (hb5.mono (Nat.le_trans hb3.size hb4.size)))) (fun q hq => sz_of_sm (HS.out.2 q (List.mem_of_mem_drop hq))) (by rw [List.eq_nil_of_length_eq_zero HG.out]; exact no_keys _ _)).mono ?_
      rintro e w6 ⟨ra, rc, rfl, hr6, _, _, _, hb6⟩
      generalize hri : eff L (G.drop 0) = ri at *
      have HRI : Hid (eff L (G.drop 0) = ri) := hri
      clear hri
      have hb26 : Below w3.heap.size w3 w6 := ((hb3.trans (hb4.mono hb3.size)).trans (hb5.mono (Nat.le_trans hb3.size hb4.size))).trans (hb6.mono (Nat.le_trans hb3.size (Nat.le_trans hb4.size hb5.size)))
      have hg6 := (hg4.below hb5).below hb6
      have hl6 := hl5.below hb6
      clear hb3 hb4 hb5 hb6 hg4 hl5 hk3
      go_wp2_with fail
      have hwl : wh.length ≤ 4096 := by rw [← HWH.out]; have := eff_le (G := G) HL.out; omega
      have hll : le.length ≤ 4096 := by rw [← HLE.out]; have := eff_le (G := G.take 0) HL.out; omega
      have hrl : ri.length ≤ 4096 := by rw [← HRI.out]; have := eff_le (G := G.drop 0) HL.out; omega
      refine (eff8 Pb n L HL ga wh.length gc wh rfl w6 hn' hwl (HCat.out.below hb26) (by rw [← HWH.out]; exact sz_eff HS.out.1) hg6).mono ?_
      rintro e w7 ⟨na, nc, rfl, hn7, _, _, _, hb7⟩
      have e7 : eff L wh = wh := by rw [← HWH.out, law_again]
      rw [e7] at hn7 ⊢
      clear e7
      have hb : Below w1.heap.size w1 w7 := (hb2.trans (hb26.mono hb2.size)).trans (hb7.mono (Nat.le_trans hb2.size hb26.size))
      have HC7 : Hid (KCells w7 a L) := HC.out.below hb
      have HC7' : Hid (KCells w7 none G) := HC'.out.below hb
      have HW7 : Hid (KCells w7 ga wh) := hg6.below hb7
      have HL7 : Hid (KCells w7 la le) := hl6.below hb7
      have HR7 : Hid (KCells w7 ra ri) := hr6.below hb7
      have HN7 : Hid (KCells w7 na wh) := hn7
      have HB : Hid (Below w1.heap.size w1 w7) := hb
      clear hn7 hb hg6 hl6 hr6 hb7 hb26 hb2 HCat HC HC'
      have HU : Hid (L.filter (uni le ri) = wh) := by rw [← HLE.out, ← HRI.out, ← HWH.out]; exact law_uni L G 0
      have _HGR : Hid (∀ g ∈ G, inC L g = true → inC wh g = true) := by rw [← HWH.out]; exact fun g hg h => law_grant hg h
      obtain ⟨i0, hi, hz0, hz1, hz2⟩ := info_parts Try.info34
      go_wp2
      go_loopw [14, 15] (fun v i wr => ∃ j : Nat, j ≤ n ∧ i = .int .i64 j ∧ wr.ownsRow w7.heap.size 34 2 v (filT (uni le ri) L j).length (flat (filT (uni le ri) L j)) ∧ Below w7.heap.size w7 wr) (fun _ i _ => n - (intOf i).toNat)
      case atStart => exact ⟨0, Nat.zero_le _, rfl, World.ownsRow_nil _ _ _ _, Below.refl _ _⟩
      case round =>
        obtain ⟨j, hj, rfl, hown, hBr⟩ := hrel
        by_cases hlt : j < n
        · have HK : Hid (j < L.length) := by rw [Hid, HL.out]; exact hlt
          obtain ⟨b, off, hga, hb, c1, c2⟩ := HC7.out.form' HK.out
          have HX : Hid (w7.cell? ⟨b, off + j * 2, none⟩ = some (.string (L.getD j nul).1) ∧ w7.cell? ⟨b, off + j * 2 + 1, none⟩ = some (.string (L.getD j nul).2)) := ⟨c1, c2⟩
          rw [← hBr.cell (p := ⟨b, off + j * 2, none⟩) hb] at c1
          rw [← hBr.cell (p := ⟨b, off + j * 2 + 1, none⟩) hb] at c2
          subst hga
          have g1 : Hid (uni le ri (L.getD j nul) = true → filT (uni le ri) L (j + 1) = filT (uni le ri) L j ++ [L.getD j nul]) := filT_hit HK.out
          have g2 : Hid (uni le ri (L.getD j nul) = false → filT (uni le ri) L (j + 1) = filT (uni le ri) L j) := filT_miss HK.out
          have HUN : Hid (uni le ri (L.getD j nul) = (inC le (L.getD j nul) || inC ri (L.getD j nul))) := rfl
          have hle := filT_le (uni le ri) L j
          generalize L.getD j nul = r at *
          obtain ⟨r1, r2⟩ := r
          simp only at c1 c2 HX
          have HO : Hid (wr.ownsRow w7.heap.size 34 2 u14 (filT (uni le ri) L j).length (flat (filT (uni le ri) L j))) := hown
          clear hown
          go_wp2_with fail
          refine (has14 la le.length lc le rfl r1 r2 wr hll (HL7.out.below hBr)).mono ?_
          rintro e w8 ⟨rfl, hb8⟩
          have hB8 : Below w7.heap.size w7 w8 := hBr.trans (hb8.mono hBr.size)
          have HO8 : Hid (w8.ownsRow w7.heap.size 34 2 u14 (filT (uni le ri) L j).length (flat (filT (uni le ri) L j))) := ownsRow_below HO.out hb8
          clear c1 c2 hb8 HO
          obtain ⟨c1, c2⟩ := HX.out
          rw [← hB8.cell (p := ⟨b, off + j * 2, none⟩) hb] at c1
          rw [← hB8.cell (p := ⟨b, off + j * 2 + 1, none⟩) hb] at c2
          have hs8 := hB8.size
          cases hx : inC le (r1, r2) with
          | true =>
            have E : Hid (filT (uni le ri) L (j + 1) = filT (uni le ri) L j ++ [(r1, r2)]) := g1.out (by rw [HUN.out, hx]; rfl)
            clear g1 g2
            have hown8 := HO8.out
            go_wp2_with (at_builtin; refine wpList_append_own _ rfl (.tmp 87) (.tmp 92) 22 rfl w7.heap.size 34 i0 _ 2 32 Try.underlying22 hi hz0 hz1 hz2 rfl (by decide) _ _ _ rfl (hown8.alloc _) ⟨w8.heap.size, 0, none⟩ 1 1 [.string r1, .string r2] rfl rfl (cells2_newE _ _ _ _) (two_strs _ _) (by unfold maxLen; omega) (by omega) (by simp; omega) ?_)
            intro v' w9 hown' hgrow _
            have R : Hid (Below w7.heap.size w7 w9) := append_belowE hB8 hown8 hgrow
            have HO : Hid (w9.ownsRow w7.heap.size 34 2 v' ((filT (uni le ri) L j).length + 1) (flat (filT (uni le ri) L j) ++ [.string r1, .string r2])) := hown'
            clear hown' hgrow hown8 c1 c2
            go_wp2
            go_roundw
            case rel => exact ⟨j + 1, by omega, by go_num, by rw [E.out, flat_snoc, List.length_append]; exact HO.out, R.out⟩
            case measure => simp [intOf]; omega
          | false =>
            go_wp2_with fail
            refine (has14 ra ri.length rc ri rfl r1 r2 w8 hrl (HR7.out.below hB8)).mono ?_
            rintro e w9 ⟨rfl, hb9⟩
            have hB9 : Below w7.heap.size w7 w9 := hB8.trans (hb9.mono hB8.size)
            have HO9 : Hid (w9.ownsRow w7.heap.size 34 2 u14 (filT (uni le ri) L j).length (flat (filT (uni le ri) L j))) := ownsRow_below HO8.out hb9
            clear c1 c2 hb9 HO8
            obtain ⟨c1, c2⟩ := HX.out
            rw [← hB9.cell (p := ⟨b, off + j * 2, none⟩) hb] at c1
            rw [← hB9.cell (p := ⟨b, off + j * 2 + 1, none⟩) hb] at c2
            have hs9 := hB9.size
            cases hy : inC ri (r1, r2) with
            | true =>
              have E : Hid (filT (uni le ri) L (j + 1) = filT (uni le ri) L j ++ [(r1, r2)]) := g1.out (by rw [HUN.out, hx, hy]; rfl)
              clear g1 g2
              have hown9 := HO9.out
              go_wp2_with (at_builtin; refine wpList_append_own _ rfl (.tmp 87) (.tmp 92) 22 rfl w7.heap.size 34 i0 _ 2 32 Try.underlying22 hi hz0 hz1 hz2 rfl (by decide) _ _ _ rfl (hown9.alloc _) ⟨w9.heap.size, 0, none⟩ 1 1 [.string r1, .string r2] rfl rfl (cells2_newE _ _ _ _) (two_strs _ _) (by unfold maxLen; omega) (by omega) (by simp; omega) ?_)
              intro v' w10 hown' hgrow _
              have R : Hid (Below w7.heap.size w7 w10) := append_belowE hB9 hown9 hgrow
              have HO : Hid (w10.ownsRow w7.heap.size 34 2 v' ((filT (uni le ri) L j).length + 1) (flat (filT (uni le ri) L j) ++ [.string r1, .string r2])) := hown'
              clear hown' hgrow hown9 c1 c2
              go_wp2
              go_roundw
              case rel => exact ⟨j + 1, by omega, by go_num, by rw [E.out, flat_snoc, List.length_append]; exact HO.out, R.out⟩
              case measure => simp [intOf]; omega
            | false =>
              have E : Hid (filT (uni le ri) L (j + 1) = filT (uni le ri) L j) := g2.out (by rw [HUN.out, hx, hy]; rfl)
              clear g1 g2
              go_wp2
              go_roundw
              case rel => exact ⟨j + 1, by omega, by go_num, by rw [E.out]; exact HO9.out, hB9⟩
              case measure => simp [intOf]; omega
        · obtain rfl : j = n := by omega
          rw [filT_all HL.out, HU.out] at hown
          obtain ⟨wa, wc, hv, hkw⟩ := own_keysE rfl hown
          clear hown hlt hj hi hz0 hz1 hz2
          subst hv
          have HBr : Hid (Below w7.heap.size w7 wr) := hBr
          go_wp2_with fail
          refine (matches12 ga wa wh.length gc wc wh rfl wr hwl (HW7.out.below hBr) hkw).mono ?_
          rintro e w8 ⟨rfl, hb8⟩
          have hB8 : Below w7.heap.size w7 w8 := hBr.trans (hb8.mono hBr.size)
          clear hb8 hkw hBr
          go_wp2_with fail
          refine (same15 na ga wh.length nc gc wh rfl w8 hwl (HN7.out.below hB8) (HW7.out.below hB8)).mono ?_
          rintro e w9 ⟨rfl, hb9⟩
          have hB9 : Below w7.heap.size w7 w9 := hB8.trans (hb9.mono hB8.size)
          clear hb9 hB8
          go_wp2
          go_loopw [16] (fun i wr => ∃ k : Nat, k ≤ 0 ∧ i = .int .i64 k ∧ Below w7.heap.size w7 wr) (fun i _ => 0 - (intOf i).toNat)
          case atStart => exact ⟨0, Nat.zero_le _, rfl, hB9⟩
          case round =>
            obtain ⟨k, hk, rfl, hBk⟩ := hrel
            by_cases hlt : k < 0
            · exact absurd hlt (by omega)
            · go_wp2
              go_ret
              exact ⟨rfl, HB.out.trans (hBk.mono HB.out.size)⟩
    | some ad =>
      refine (keys9 ad m c' G HG w2 hm' (HC'.out.below hb2)).mono ?_
      rintro e w3 ⟨rfl, hrow, hb3⟩
      have hk3 : KCells w3 (some ⟨w2.heap.size, 0, none⟩) G := KCells.of_row HG.out hrow
      clear hrow
      go_wp2_with fail
      refine (eff8 Pb n L HL (some ⟨w2.heap.size, 0, none⟩) m m G HG w3 hn' hm' (HCat.out.below hb3) (fun q hq => sz_of_sm (HS.out.2 q hq)) hk3).mono ?_
      rintro e w4 ⟨ga, gc, rfl, hg4, _, _, _, hb4⟩
      generalize hwh : eff L G = wh at *
      have HWH : Hid (eff L G = wh) := hwh
      clear hwh
      go_wp2_with fail
      refine (eff8 Pb n L HL (some ⟨w2.heap.size, 0, none⟩) x m (G.take x) (show (G.take x).length = x by rw [List.length_take, HG.out]; omega) w4 hn' (by omega) (HCat.out.below (hb3.trans (hb4.mono hb3.size))) (fun q hq => sz_of_sm (HS.out.2 q (List.mem_of_mem_take hq))) ((hk3.below hb4).take x)).mono ?_
      rintro e w5 ⟨la, lc, rfl, hl5, _, _, _, hb5⟩
      generalize hle : eff L (G.take x) = le at *
      have HLE : Hid (eff L (G.take x) = le) := hle
      clear hle
      by_cases hxe : x = m
      · subst hxe
        go_wp2_with fail
        refine (eff8 Pb n L HL (some ⟨w2.heap.size, 0, none⟩) 0 0 (G.drop x) (show (G.drop x).length = 0 by rw [List.length_drop, HG.out]; omega) w5 hn' (by omega) (HCat.out.below ((hb3.trans (hb4.mono hb3.size)).trans (hb5.mono (Nat.le_trans hb3.size hb4.size)))) (fun q hq => sz_of_sm (HS.out.2 q (List.mem_of_mem_drop hq))) (KCells.dropAll HG.out)).mono ?_
        rintro e w6 ⟨ra, rc, rfl, hr6, _, _, _, hb6⟩
        generalize hri : eff L (G.drop x) = ri at *
        have HRI : Hid (eff L (G.drop x) = ri) := hri
        clear hri
        have hb26 : Below w2.heap.size w2 w6 := ((hb3.trans (hb4.mono hb3.size)).trans (hb5.mono (Nat.le_trans hb3.size hb4.size))).trans (hb6.mono (Nat.le_trans hb3.size (Nat.le_trans hb4.size hb5.size)))
        have hg6 := (hg4.below hb5).below hb6
        have hl6 := hl5.below hb6
        clear hb3 hb4 hb5 hb6 hg4 hl5 hk3
        go_wp2_with fail
        have hwl : wh.length ≤ 4096 := by rw [← HWH.out]; have := eff_le (G := G) HL.out; omega
        have hll : le.length ≤ 4096 := by rw [← HLE.out]; have := eff_le (G := G.take x) HL.out; omega
        have hrl : ri.length ≤ 4096 := by rw [← HRI.out]; have := eff_le (G := G.drop x) HL.out; omega
        refine (eff8 Pb n L HL ga wh.length gc wh rfl w6 hn' hwl (HCat.out.below hb26) (by rw [← HWH.out]; exact sz_eff HS.out.1) hg6).mono ?_
        rintro e w7 ⟨na, nc, rfl, hn7, _, _, _, hb7⟩
        have e7 : eff L wh = wh := by rw [← HWH.out, law_again]
        rw [e7] at hn7 ⊢
        clear e7
        have hb : Below w1.heap.size w1 w7 := (hb2.trans (hb26.mono hb2.size)).trans (hb7.mono (Nat.le_trans hb2.size hb26.size))
        have HC7 : Hid (KCells w7 a L) := HC.out.below hb
        have HC7' : Hid (KCells w7 (some ad) G) := HC'.out.below hb
        have HW7 : Hid (KCells w7 ga wh) := hg6.below hb7
        have HL7 : Hid (KCells w7 la le) := hl6.below hb7
        have HR7 : Hid (KCells w7 ra ri) := hr6.below hb7
        have HN7 : Hid (KCells w7 na wh) := hn7
        have HB : Hid (Below w1.heap.size w1 w7) := hb
        clear hn7 hb hg6 hl6 hr6 hb7 hb26 hb2 HCat HC HC'
        have HU : Hid (L.filter (uni le ri) = wh) := by rw [← HLE.out, ← HRI.out, ← HWH.out]; exact law_uni L G x
        have HGR : Hid (∀ g ∈ G, inC L g = true → inC wh g = true) := by rw [← HWH.out]; exact fun g hg h => law_grant hg h
        obtain ⟨i0, hi, hz0, hz1, hz2⟩ := info_parts Try.info34
        go_wp2
        go_loopw [14, 15] (fun v i wr => ∃ j : Nat, j ≤ n ∧ i = .int .i64 j ∧ wr.ownsRow w7.heap.size 34 2 v (filT (uni le ri) L j).length (flat (filT (uni le ri) L j)) ∧ Below w7.heap.size w7 wr) (fun _ i _ => n - (intOf i).toNat)
        case atStart => exact ⟨0, Nat.zero_le _, rfl, World.ownsRow_nil _ _ _ _, Below.refl _ _⟩
        case round =>
          obtain ⟨j, hj, rfl, hown, hBr⟩ := hrel
          by_cases hlt : j < n
          · have HK : Hid (j < L.length) := by rw [Hid, HL.out]; exact hlt
            obtain ⟨b, off, hga, hb, c1, c2⟩ := HC7.out.form' HK.out
            have HX : Hid (w7.cell? ⟨b, off + j * 2, none⟩ = some (.string (L.getD j nul).1) ∧ w7.cell? ⟨b, off + j * 2 + 1, none⟩ = some (.string (L.getD j nul).2)) := ⟨c1, c2⟩
            rw [← hBr.cell (p := ⟨b, off + j * 2, none⟩) hb] at c1
            rw [← hBr.cell (p := ⟨b, off + j * 2 + 1, none⟩) hb] at c2
            subst hga
            have g1 : Hid (uni le ri (L.getD j nul) = true → filT (uni le ri) L (j + 1) = filT (uni le ri) L j ++ [L.getD j nul]) := filT_hit HK.out
            have g2 : Hid (uni le ri (L.getD j nul) = false → filT (uni le ri) L (j + 1) = filT (uni le ri) L j) := filT_miss HK.out
            have HUN : Hid (uni le ri (L.getD j nul) = (inC le (L.getD j nul) || inC ri (L.getD j nul))) := rfl
            have hle := filT_le (uni le ri) L j
            generalize L.getD j nul = r at *
            obtain ⟨r1, r2⟩ := r
            simp only at c1 c2 HX
            have HO : Hid (wr.ownsRow w7.heap.size 34 2 u14 (filT (uni le ri) L j).length (flat (filT (uni le ri) L j))) := hown
            clear hown
            go_wp2_with fail
            refine (has14 la le.length lc le rfl r1 r2 wr hll (HL7.out.below hBr)).mono ?_
            rintro e w8 ⟨rfl, hb8⟩
            have hB8 : Below w7.heap.size w7 w8 := hBr.trans (hb8.mono hBr.size)
            have HO8 : Hid (w8.ownsRow w7.heap.size 34 2 u14 (filT (uni le ri) L j).length (flat (filT (uni le ri) L j))) := ownsRow_below HO.out hb8
            clear c1 c2 hb8 HO
            obtain ⟨c1, c2⟩ := HX.out
            rw [← hB8.cell (p := ⟨b, off + j * 2, none⟩) hb] at c1
            rw [← hB8.cell (p := ⟨b, off + j * 2 + 1, none⟩) hb] at c2
            have hs8 := hB8.size
            cases hx : inC le (r1, r2) with
            | true =>
              have E : Hid (filT (uni le ri) L (j + 1) = filT (uni le ri) L j ++ [(r1, r2)]) := g1.out (by rw [HUN.out, hx]; rfl)
              clear g1 g2
              have hown8 := HO8.out
              go_wp2_with (at_builtin; refine wpList_append_own _ rfl (.tmp 87) (.tmp 92) 22 rfl w7.heap.size 34 i0 _ 2 32 Try.underlying22 hi hz0 hz1 hz2 rfl (by decide) _ _ _ rfl (hown8.alloc _) ⟨w8.heap.size, 0, none⟩ 1 1 [.string r1, .string r2] rfl rfl (cells2_newE _ _ _ _) (two_strs _ _) (by unfold maxLen; omega) (by omega) (by simp; omega) ?_)
              intro v' w9 hown' hgrow _
              have R : Hid (Below w7.heap.size w7 w9) := append_belowE hB8 hown8 hgrow
              have HO : Hid (w9.ownsRow w7.heap.size 34 2 v' ((filT (uni le ri) L j).length + 1) (flat (filT (uni le ri) L j) ++ [.string r1, .string r2])) := hown'
              clear hown' hgrow hown8 c1 c2
              go_wp2
              go_roundw
              case rel => exact ⟨j + 1, by omega, by go_num, by rw [E.out, flat_snoc, List.length_append]; exact HO.out, R.out⟩
              case measure => simp [intOf]; omega
            | false =>
              go_wp2_with fail
              refine (has14 ra ri.length rc ri rfl r1 r2 w8 hrl (HR7.out.below hB8)).mono ?_
              rintro e w9 ⟨rfl, hb9⟩
              have hB9 : Below w7.heap.size w7 w9 := hB8.trans (hb9.mono hB8.size)
              have HO9 : Hid (w9.ownsRow w7.heap.size 34 2 u14 (filT (uni le ri) L j).length (flat (filT (uni le ri) L j))) := ownsRow_below HO8.out hb9
              clear c1 c2 hb9 HO8
              obtain ⟨c1, c2⟩ := HX.out
              rw [← hB9.cell (p := ⟨b, off + j * 2, none⟩) hb] at c1
              rw [← hB9.cell (p := ⟨b, off + j * 2 + 1, none⟩) hb] at c2
              have hs9 := hB9.size
              cases hy : inC ri (r1, r2) with
              | true =>
                have E : Hid (filT (uni le ri) L (j + 1) = filT (uni le ri) L j ++ [(r1, r2)]) := g1.out (by rw [HUN.out, hx, hy]; rfl)
                clear g1 g2
                have hown9 := HO9.out
                go_wp2_with (at_builtin; refine wpList_append_own _ rfl (.tmp 87) (.tmp 92) 22 rfl w7.heap.size 34 i0 _ 2 32 Try.underlying22 hi hz0 hz1 hz2 rfl (by decide) _ _ _ rfl (hown9.alloc _) ⟨w9.heap.size, 0, none⟩ 1 1 [.string r1, .string r2] rfl rfl (cells2_newE _ _ _ _) (two_strs _ _) (by unfold maxLen; omega) (by omega) (by simp; omega) ?_)
                intro v' w10 hown' hgrow _
                have R : Hid (Below w7.heap.size w7 w10) := append_belowE hB9 hown9 hgrow
                have HO : Hid (w10.ownsRow w7.heap.size 34 2 v' ((filT (uni le ri) L j).length + 1) (flat (filT (uni le ri) L j) ++ [.string r1, .string r2])) := hown'
                clear hown' hgrow hown9 c1 c2
                go_wp2
                go_roundw
                case rel => exact ⟨j + 1, by omega, by go_num, by rw [E.out, flat_snoc, List.length_append]; exact HO.out, R.out⟩
                case measure => simp [intOf]; omega
              | false =>
                have E : Hid (filT (uni le ri) L (j + 1) = filT (uni le ri) L j) := g2.out (by rw [HUN.out, hx, hy]; rfl)
                clear g1 g2
                go_wp2
                go_roundw
                case rel => exact ⟨j + 1, by omega, by go_num, by rw [E.out]; exact HO9.out, hB9⟩
                case measure => simp [intOf]; omega
          · obtain rfl : j = n := by omega
            rw [filT_all HL.out, HU.out] at hown
            obtain ⟨wa, wc, hv, hkw⟩ := own_keysE rfl hown
            clear hown hlt hj hi hz0 hz1 hz2
            subst hv
            have HBr : Hid (Below w7.heap.size w7 wr) := hBr
            go_wp2_with fail
            refine (matches12 ga wa wh.length gc wc wh rfl wr hwl (HW7.out.below hBr) hkw).mono ?_
            rintro e w8 ⟨rfl, hb8⟩
            have hB8 : Below w7.heap.size w7 w8 := hBr.trans (hb8.mono hBr.size)
            clear hb8 hkw hBr
            go_wp2_with fail
            refine (same15 na ga wh.length nc gc wh rfl w8 hwl (HN7.out.below hB8) (HW7.out.below hB8)).mono ?_
            rintro e w9 ⟨rfl, hb9⟩
            have hB9 : Below w7.heap.size w7 w9 := hB8.trans (hb9.mono hB8.size)
            clear hb9 hB8
            go_wp2
            go_loopw [16] (fun i wr => ∃ k : Nat, k ≤ x ∧ i = .int .i64 k ∧ Below w7.heap.size w7 wr) (fun i _ => x - (intOf i).toNat)
            case atStart => exact ⟨0, Nat.zero_le _, rfl, hB9⟩
            case round =>
              obtain ⟨k, hk, rfl, hBk⟩ := hrel
              by_cases hlt : k < x
              · have HK : Hid (k < G.length) := by rw [Hid, HG.out]; exact hlt
                obtain ⟨b, off, hga, hb, c1, c2⟩ := HC7'.out.form' HK.out
                have HX : Hid (w7.cell? ⟨b, off + k * 2, none⟩ = some (.string (G.getD k nul).1) ∧ w7.cell? ⟨b, off + k * 2 + 1, none⟩ = some (.string (G.getD k nul).2)) := ⟨c1, c2⟩
                rw [← hBk.cell (p := ⟨b, off + k * 2, none⟩) hb] at c1
                rw [← hBk.cell (p := ⟨b, off + k * 2 + 1, none⟩) hb] at c2
                have HGK : Hid (inC L (G.getD k nul) = true → inC wh (G.getD k nul) = true) := HGR.out _ (getD_mem HK.out)
                obtain rfl : ad = ⟨b, off, none⟩ := Option.some.inj hga
                generalize G.getD k nul = r at *
                obtain ⟨r1, r2⟩ := r
                simp only at c1 c2 HX
                go_wp2_with fail
                refine (inCat10 a j c L HL r1 r2 _ hn' (HC7.out.below hBk)).mono ?_
                rintro e w10 ⟨rfl, hb10⟩
                have hB10 : Below w7.heap.size w7 w10 := hBk.trans (hb10.mono hBk.size)
                clear c1 c2 hb10
                obtain ⟨c1, c2⟩ := HX.out
                rw [← hB10.cell (p := ⟨b, off + k * 2, none⟩) hb] at c1
                rw [← hB10.cell (p := ⟨b, off + k * 2 + 1, none⟩) hb] at c2
                cases hx : inC L (r1, r2) with
                | false =>
                  go_wp2
                  go_roundw
                  case rel => exact ⟨k + 1, by omega, by go_num, hB10⟩
                  case measure => simp [intOf]; omega
                | true =>
                  have hy := HGK.out hx
                  go_wp2_with fail
                  refine (has14 ga wh.length gc wh rfl r1 r2 w10 hwl (HW7.out.below hB10)).mono ?_
                  rintro e w11 ⟨rfl, hb11⟩
                  have hB11 : Below w7.heap.size w7 w11 := hB10.trans (hb11.mono hB10.size)
                  clear c1 c2 hb11
                  go_wp2
                  go_roundw
                  case rel => exact ⟨k + 1, by omega, by go_num, hB11⟩
                  case measure => simp [intOf]; omega
              · go_wp2
                go_ret
                exact ⟨rfl, HB.out.trans (hBk.mono HB.out.size)⟩
      · have hxl : x < m := by omega
        clear hxe
        go_wp2_with fail
        refine (eff8 Pb n L HL (some ⟨w2.heap.size, x * 2, none⟩) (m - x) (m - x) (G.drop x) (show (G.drop x).length = (m - x) by rw [List.length_drop, HG.out]) w5 hn' (by omega) (HCat.out.below ((hb3.trans (hb4.mono hb3.size)).trans (hb5.mono (Nat.le_trans hb3.size hb4.size)))) (fun q hq => sz_of_sm (HS.out.2 q (List.mem_of_mem_drop hq))) (((hk3.below hb4).below hb5).drop x)).mono ?_
        rintro e w6 ⟨ra, rc, rfl, hr6, _, _, _, hb6⟩
        generalize hri : eff L (G.drop x) = ri at *
        have HRI : Hid (eff L (G.drop x) = ri) := hri
        clear hri
        have hb26 : Below w2.heap.size w2 w6 := ((hb3.trans (hb4.mono hb3.size)).trans (hb5.mono (Nat.le_trans hb3.size hb4.size))).trans (hb6.mono (Nat.le_trans hb3.size (Nat.le_trans hb4.size hb5.size)))
        have hg6 := (hg4.below hb5).below hb6
        have hl6 := hl5.below hb6
        clear hb3 hb4 hb5 hb6 hg4 hl5 hk3
        go_wp2_with fail
        have hwl : wh.length ≤ 4096 := by rw [← HWH.out]; have := eff_le (G := G) HL.out; omega
        have hll : le.length ≤ 4096 := by rw [← HLE.out]; have := eff_le (G := G.take x) HL.out; omega
        have hrl : ri.length ≤ 4096 := by rw [← HRI.out]; have := eff_le (G := G.drop x) HL.out; omega
        refine (eff8 Pb n L HL ga wh.length gc wh rfl w6 hn' hwl (HCat.out.below hb26) (by rw [← HWH.out]; exact sz_eff HS.out.1) hg6).mono ?_
        rintro e w7 ⟨na, nc, rfl, hn7, _, _, _, hb7⟩
        have e7 : eff L wh = wh := by rw [← HWH.out, law_again]
        rw [e7] at hn7 ⊢
        clear e7
        have hb : Below w1.heap.size w1 w7 := (hb2.trans (hb26.mono hb2.size)).trans (hb7.mono (Nat.le_trans hb2.size hb26.size))
        have HC7 : Hid (KCells w7 a L) := HC.out.below hb
        have HC7' : Hid (KCells w7 (some ad) G) := HC'.out.below hb
        have HW7 : Hid (KCells w7 ga wh) := hg6.below hb7
        have HL7 : Hid (KCells w7 la le) := hl6.below hb7
        have HR7 : Hid (KCells w7 ra ri) := hr6.below hb7
        have HN7 : Hid (KCells w7 na wh) := hn7
        have HB : Hid (Below w1.heap.size w1 w7) := hb
        clear hn7 hb hg6 hl6 hr6 hb7 hb26 hb2 HCat HC HC'
        have HU : Hid (L.filter (uni le ri) = wh) := by rw [← HLE.out, ← HRI.out, ← HWH.out]; exact law_uni L G x
        have HGR : Hid (∀ g ∈ G, inC L g = true → inC wh g = true) := by rw [← HWH.out]; exact fun g hg h => law_grant hg h
        obtain ⟨i0, hi, hz0, hz1, hz2⟩ := info_parts Try.info34
        go_wp2
        go_loopw [14, 15] (fun v i wr => ∃ j : Nat, j ≤ n ∧ i = .int .i64 j ∧ wr.ownsRow w7.heap.size 34 2 v (filT (uni le ri) L j).length (flat (filT (uni le ri) L j)) ∧ Below w7.heap.size w7 wr) (fun _ i _ => n - (intOf i).toNat)
        case atStart => exact ⟨0, Nat.zero_le _, rfl, World.ownsRow_nil _ _ _ _, Below.refl _ _⟩
        case round =>
          obtain ⟨j, hj, rfl, hown, hBr⟩ := hrel
          by_cases hlt : j < n
          · have HK : Hid (j < L.length) := by rw [Hid, HL.out]; exact hlt
            obtain ⟨b, off, hga, hb, c1, c2⟩ := HC7.out.form' HK.out
            have HX : Hid (w7.cell? ⟨b, off + j * 2, none⟩ = some (.string (L.getD j nul).1) ∧ w7.cell? ⟨b, off + j * 2 + 1, none⟩ = some (.string (L.getD j nul).2)) := ⟨c1, c2⟩
            rw [← hBr.cell (p := ⟨b, off + j * 2, none⟩) hb] at c1
            rw [← hBr.cell (p := ⟨b, off + j * 2 + 1, none⟩) hb] at c2
            subst hga
            have g1 : Hid (uni le ri (L.getD j nul) = true → filT (uni le ri) L (j + 1) = filT (uni le ri) L j ++ [L.getD j nul]) := filT_hit HK.out
            have g2 : Hid (uni le ri (L.getD j nul) = false → filT (uni le ri) L (j + 1) = filT (uni le ri) L j) := filT_miss HK.out
            have HUN : Hid (uni le ri (L.getD j nul) = (inC le (L.getD j nul) || inC ri (L.getD j nul))) := rfl
            have hle := filT_le (uni le ri) L j
            generalize L.getD j nul = r at *
            obtain ⟨r1, r2⟩ := r
            simp only at c1 c2 HX
            have HO : Hid (wr.ownsRow w7.heap.size 34 2 u14 (filT (uni le ri) L j).length (flat (filT (uni le ri) L j))) := hown
            clear hown
            go_wp2_with fail
            refine (has14 la le.length lc le rfl r1 r2 wr hll (HL7.out.below hBr)).mono ?_
            rintro e w8 ⟨rfl, hb8⟩
            have hB8 : Below w7.heap.size w7 w8 := hBr.trans (hb8.mono hBr.size)
            have HO8 : Hid (w8.ownsRow w7.heap.size 34 2 u14 (filT (uni le ri) L j).length (flat (filT (uni le ri) L j))) := ownsRow_below HO.out hb8
            clear c1 c2 hb8 HO
            obtain ⟨c1, c2⟩ := HX.out
            rw [← hB8.cell (p := ⟨b, off + j * 2, none⟩) hb] at c1
            rw [← hB8.cell (p := ⟨b, off + j * 2 + 1, none⟩) hb] at c2
            have hs8 := hB8.size
            cases hx : inC le (r1, r2) with
            | true =>
              have E : Hid (filT (uni le ri) L (j + 1) = filT (uni le ri) L j ++ [(r1, r2)]) := g1.out (by rw [HUN.out, hx]; rfl)
              clear g1 g2
              have hown8 := HO8.out
              go_wp2_with (at_builtin; refine wpList_append_own _ rfl (.tmp 87) (.tmp 92) 22 rfl w7.heap.size 34 i0 _ 2 32 Try.underlying22 hi hz0 hz1 hz2 rfl (by decide) _ _ _ rfl (hown8.alloc _) ⟨w8.heap.size, 0, none⟩ 1 1 [.string r1, .string r2] rfl rfl (cells2_newE _ _ _ _) (two_strs _ _) (by unfold maxLen; omega) (by omega) (by simp; omega) ?_)
              intro v' w9 hown' hgrow _
              have R : Hid (Below w7.heap.size w7 w9) := append_belowE hB8 hown8 hgrow
              have HO : Hid (w9.ownsRow w7.heap.size 34 2 v' ((filT (uni le ri) L j).length + 1) (flat (filT (uni le ri) L j) ++ [.string r1, .string r2])) := hown'
              clear hown' hgrow hown8 c1 c2
              go_wp2
              go_roundw
              case rel => exact ⟨j + 1, by omega, by go_num, by rw [E.out, flat_snoc, List.length_append]; exact HO.out, R.out⟩
              case measure => simp [intOf]; omega
            | false =>
              go_wp2_with fail
              refine (has14 ra ri.length rc ri rfl r1 r2 w8 hrl (HR7.out.below hB8)).mono ?_
              rintro e w9 ⟨rfl, hb9⟩
              have hB9 : Below w7.heap.size w7 w9 := hB8.trans (hb9.mono hB8.size)
              have HO9 : Hid (w9.ownsRow w7.heap.size 34 2 u14 (filT (uni le ri) L j).length (flat (filT (uni le ri) L j))) := ownsRow_below HO8.out hb9
              clear c1 c2 hb9 HO8
              obtain ⟨c1, c2⟩ := HX.out
              rw [← hB9.cell (p := ⟨b, off + j * 2, none⟩) hb] at c1
              rw [← hB9.cell (p := ⟨b, off + j * 2 + 1, none⟩) hb] at c2
              have hs9 := hB9.size
              cases hy : inC ri (r1, r2) with
              | true =>
                have E : Hid (filT (uni le ri) L (j + 1) = filT (uni le ri) L j ++ [(r1, r2)]) := g1.out (by rw [HUN.out, hx, hy]; rfl)
                clear g1 g2
                have hown9 := HO9.out
                go_wp2_with (at_builtin; refine wpList_append_own _ rfl (.tmp 87) (.tmp 92) 22 rfl w7.heap.size 34 i0 _ 2 32 Try.underlying22 hi hz0 hz1 hz2 rfl (by decide) _ _ _ rfl (hown9.alloc _) ⟨w9.heap.size, 0, none⟩ 1 1 [.string r1, .string r2] rfl rfl (cells2_newE _ _ _ _) (two_strs _ _) (by unfold maxLen; omega) (by omega) (by simp; omega) ?_)
                intro v' w10 hown' hgrow _
                have R : Hid (Below w7.heap.size w7 w10) := append_belowE hB9 hown9 hgrow
                have HO : Hid (w10.ownsRow w7.heap.size 34 2 v' ((filT (uni le ri) L j).length + 1) (flat (filT (uni le ri) L j) ++ [.string r1, .string r2])) := hown'
                clear hown' hgrow hown9 c1 c2
                go_wp2
                go_roundw
                case rel => exact ⟨j + 1, by omega, by go_num, by rw [E.out, flat_snoc, List.length_append]; exact HO.out, R.out⟩
                case measure => simp [intOf]; omega
              | false =>
                have E : Hid (filT (uni le ri) L (j + 1) = filT (uni le ri) L j) := g2.out (by rw [HUN.out, hx, hy]; rfl)
                clear g1 g2
                go_wp2
                go_roundw
                case rel => exact ⟨j + 1, by omega, by go_num, by rw [E.out]; exact HO9.out, hB9⟩
                case measure => simp [intOf]; omega
          · obtain rfl : j = n := by omega
            rw [filT_all HL.out, HU.out] at hown
            obtain ⟨wa, wc, hv, hkw⟩ := own_keysE rfl hown
            clear hown hlt hj hi hz0 hz1 hz2
            subst hv
            have HBr : Hid (Below w7.heap.size w7 wr) := hBr
            go_wp2_with fail
            refine (matches12 ga wa wh.length gc wc wh rfl wr hwl (HW7.out.below hBr) hkw).mono ?_
            rintro e w8 ⟨rfl, hb8⟩
            have hB8 : Below w7.heap.size w7 w8 := hBr.trans (hb8.mono hBr.size)
            clear hb8 hkw hBr
            go_wp2_with fail
            refine (same15 na ga wh.length nc gc wh rfl w8 hwl (HN7.out.below hB8) (HW7.out.below hB8)).mono ?_
            rintro e w9 ⟨rfl, hb9⟩
            have hB9 : Below w7.heap.size w7 w9 := hB8.trans (hb9.mono hB8.size)
            clear hb9 hB8
            go_wp2
            go_loopw [16] (fun i wr => ∃ k : Nat, k ≤ m ∧ i = .int .i64 k ∧ Below w7.heap.size w7 wr) (fun i _ => m - (intOf i).toNat)
            case atStart => exact ⟨0, Nat.zero_le _, rfl, hB9⟩
            case round =>
              obtain ⟨k, hk, rfl, hBk⟩ := hrel
              by_cases hlt : k < m
              · have HK : Hid (k < G.length) := by rw [Hid, HG.out]; exact hlt
                obtain ⟨b, off, hga, hb, c1, c2⟩ := HC7'.out.form' HK.out
                have HX : Hid (w7.cell? ⟨b, off + k * 2, none⟩ = some (.string (G.getD k nul).1) ∧ w7.cell? ⟨b, off + k * 2 + 1, none⟩ = some (.string (G.getD k nul).2)) := ⟨c1, c2⟩
                rw [← hBk.cell (p := ⟨b, off + k * 2, none⟩) hb] at c1
                rw [← hBk.cell (p := ⟨b, off + k * 2 + 1, none⟩) hb] at c2
                have HGK : Hid (inC L (G.getD k nul) = true → inC wh (G.getD k nul) = true) := HGR.out _ (getD_mem HK.out)
                obtain rfl : ad = ⟨b, off, none⟩ := Option.some.inj hga
                generalize G.getD k nul = r at *
                obtain ⟨r1, r2⟩ := r
                simp only at c1 c2 HX
                go_wp2_with fail
                refine (inCat10 a j c L HL r1 r2 _ hn' (HC7.out.below hBk)).mono ?_
                rintro e w10 ⟨rfl, hb10⟩
                have hB10 : Below w7.heap.size w7 w10 := hBk.trans (hb10.mono hBk.size)
                clear c1 c2 hb10
                obtain ⟨c1, c2⟩ := HX.out
                rw [← hB10.cell (p := ⟨b, off + k * 2, none⟩) hb] at c1
                rw [← hB10.cell (p := ⟨b, off + k * 2 + 1, none⟩) hb] at c2
                cases hx : inC L (r1, r2) with
                | false =>
                  go_wp2
                  go_roundw
                  case rel => exact ⟨k + 1, by omega, by go_num, hB10⟩
                  case measure => simp [intOf]; omega
                | true =>
                  have hy := HGK.out hx
                  go_wp2_with fail
                  refine (has14 ga wh.length gc wh rfl r1 r2 w10 hwl (HW7.out.below hB10)).mono ?_
                  rintro e w11 ⟨rfl, hb11⟩
                  have hB11 : Below w7.heap.size w7 w11 := hB10.trans (hb11.mono hB10.size)
                  clear c1 c2 hb11
                  go_wp2
                  go_roundw
                  case rel => exact ⟨k + 1, by omega, by go_num, hB11⟩
                  case measure => simp [intOf]; omega
              · go_wp2
                go_ret
                exact ⟨rfl, HB.out.trans (hBk.mono HB.out.size)⟩
end Go.Proofs.Qxb6627432a
