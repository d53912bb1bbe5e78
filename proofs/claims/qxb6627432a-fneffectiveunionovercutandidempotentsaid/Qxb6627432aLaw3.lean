import Derived.Test.Qxb6627432aLawParts
namespace Go.Proofs.Qxb6627432a
open Go.RowKit Go.Maps

theorem gather_step1 {w wr w5 : World} {n : Nat} {f : Nat → Value} {v : Value} {o1 : Obj} {k e : Nat} {xs : List Value} (hB : Below w.heap.size w wr) (hrow : wr.rowIs w.heap.size 4 n f)
    (hown : wr.ownsRow (w.heap.size + 1) e 2 v k xs) (hgrow : (wr.alloc o1).grownBy w5 v.ownBlock) :
    w5.rowIs w.heap.size 4 n f ∧ Below w.heap.size w w5 := by
  have hsz := hB.size
  have hge : ∀ b, v.ownBlock = some b → w.heap.size + 1 ≤ b := fun b hb => (hown.lt b hb).1
  refine ⟨(hrow.alloc o1).of_block (hgrow.block _ (hrow.alloc o1).lt fun e => ?_), ?_⟩
  · have := hge _ e.symm
    omega
  · refine (hB.alloc hsz o1).grown hgrow (by simp; omega) fun b hb => ?_
    have := hge b hb
    omega

set_option maxHeartbeats 2000000 in
theorem law3 (a a' : Option Addr) (n c m c' : Nat) (L G : List Ky) (HL : Hid (L.length = n)) (HG : Hid (G.length = m)) (w : World) (hn : n ≤ 9223372036854775807) (hm : m ≤ 9223372036854775807)
    (ha : a = none → n = 0 ∧ c = 0) (ha' : a' = none → m = 0 ∧ c' = 0) (hs : ∀ q ∈ L, Sz q) (hs' : ∀ q ∈ G, Sz q) (hc : KCells w a L) (hc' : KCells w a' G) :
    Calls Try.prog 3 #[.slice a n c, .slice a' m c'] w fun e w' => e = .returned (.bool true) ∧ Below w.heap.size w w' := by
  have HA : Hid ((a = none → n = 0 ∧ c = 0) ∧ (a' = none → m = 0 ∧ c' = 0)) := ⟨ha, ha'⟩
  have HC : Hid (KCells w a L) := hc
  have HC' : Hid (KCells w a' G) := hc'
  go_enter Try.func3, Try.ntmps3
  go_wp2_with fail
  refine (bytes5 a a' n c m c' L G HL HG w hn hm hs hs' hc hc').mono ?_
  rintro e w' ⟨⟨x, rfl, hbb⟩, rfl⟩
  clear hc hc' hs hs' ha ha'
  cases x with
  | false =>
    go_wp2
    go_ret
    exact ⟨rfl, Below.refl _ _⟩
  | true =>
    obtain ⟨s1, s2⟩ := hbb rfl
    have HS : Hid ((∀ q ∈ L, Sm q) ∧ ∀ q ∈ G, Sm q) := ⟨s1, s2⟩
    clear hbb s1 s2
    by_cases h1 : 4096 < n
    · go_wp2
      go_ret
      exact ⟨rfl, Below.refl _ _⟩
    by_cases h2 : 4096 < m
    · go_wp2
      go_ret
      exact ⟨rfl, Below.refl _ _⟩
    have hn' : n ≤ 4096 := by omega
    have hm' : m ≤ 4096 := by omega
    clear hn hm
    go_wp2_with fail
    refine (size6 a a' n c m c' L G HL HG w' hn' hm' HS.out.1 HS.out.2 HC.out HC'.out).mono ?_
    rintro e w1 ⟨⟨x, rfl⟩, rfl⟩
    by_cases hx : 1048576 < x
    · go_wp2
      go_ret
      exact ⟨rfl, Below.refl _ _⟩
    go_wp2_with fail
    refine (cat7 a n c L HL w1 hn' HA.out.1 (fun q hq => sz_of_sm (HS.out.1 q hq)) HC.out).mono ?_
    rintro e w2 ⟨hb2, rfl | ⟨Pb, rfl, hcat⟩⟩
    · go_wp2
      go_ret
      exact ⟨rfl, hb2⟩
    have HCat : Hid (CatOk w2 Pb n L) := hcat
    clear hcat
    go_wp2_with fail
    refine (keys9_any a' m c' G HG w2 hm' HA.out.2 (HC'.out.below hb2)).mono ?_
    rintro e w3 ⟨ka, kc, rfl, hk3, _, _, _, _, hb3⟩
    go_wp2_with fail
    refine (eff8 Pb n L HL ka m kc G HG w3 hn' hm' (HCat.out.below hb3) (fun q hq => sz_of_sm (HS.out.2 q hq)) hk3).mono ?_
    rintro e w4 ⟨ga, gc, rfl, hg4, hgn, _, _, hb4⟩
    have hb : Below w1.heap.size w1 w4 := (hb2.trans (hb3.mono hb2.size)).trans (hb4.mono (Nat.le_trans hb2.size hb3.size))
    have HC4 : Hid (KCells w4 a L) := HC.out.below hb
    have HC4' : Hid (KCells w4 a' G) := HC'.out.below hb
    have HG4 : Hid (KCells w4 ga (eff L G)) := hg4
    have HGN : Hid (eff L G = [] → ga = none ∧ gc = 0) := hgn
    have HE : Hid ((eff L G).length ≤ n) := eff_le HL.out
    have HB : Hid (Below w1.heap.size w1 w4) := hb
    clear hg4 hgn hb4 hk3 hb3 hb2 HCat hb HC HC'
    have hmk := run_make31 m hm'
    go_wp2
    go_loopw [9] (fun i wr => ∃ k : Nat, k ≤ m ∧ i = .int .i64 k ∧ wr.rowIs w4.heap.size 4 m (knownAt L G k) ∧ Below w4.heap.size w4 wr) (fun i _ => m - (intOf i).toNat)
    case atStart => exact ⟨0, Nat.zero_le _, rfl, known_start w4 L G m, (Below.refl _ _).alloc (Nat.le_refl _) _⟩
    case round =>
      obtain ⟨k, hk, rfl, hrow, hB⟩ := hrel
      have HR : Hid (wr.rowIs w4.heap.size 4 m (knownAt L G k)) := hrow
      clear hrow
      by_cases hlt : k < m
      · have HK : Hid (k < G.length) := by rw [Hid, HG.out]; exact hlt
        obtain ⟨b, off, hga, hb, c1, c2⟩ := HC4'.out.form' HK.out
        rw [← hB.cell (p := ⟨b, off + k * 2, none⟩) hb] at c1
        rw [← hB.cell (p := ⟨b, off + k * 2 + 1, none⟩) hb] at c2
        subst hga
        generalize hr : G.getD k nul = r at *
        obtain ⟨r1, r2⟩ := r
        have HRE : Hid (G.getD k nul = (r1, r2)) := hr
        clear hr
        simp only at c1 c2
        go_wp2_with fail
        refine (inCat10 a n c L HL r1 r2 wr hn' (HC4.out.below hB)).mono ?_
        rintro e w5 ⟨rfl, hb5⟩
        have HR5 : Hid (w5.rowIs w4.heap.size 4 m (knownAt L G k)) := rowIs_below HR.out hb5
        have f1 := HR5.out.frozen k
        have d1 := HR5.out.cell hlt
        generalize knownAt L G k k = o1 at d1
        have hB5 : Below w4.heap.size w4 w5 := hB.trans (hb5.mono hB.size)
        clear c1 c2 hb5
        go_wp2
        go_roundw
        case rel => exact ⟨k + 1, by omega, by go_num, (HR5.out.set k _).congr fun j _ => known_step HRE.out j, hB5.setCell (Nat.le_refl _) _⟩
        case measure => simp [intOf]; omega
      · obtain rfl : k = m := by omega
        obtain ⟨wo, rfl⟩ : ∃ wo : World, wo = wr := ⟨_, rfl⟩
        obtain ⟨i0, hi, hz0, hz1, hz2⟩ := info_parts Try.info34
        clear hmk hlt hk
        go_wp2
        go_loopw [10, 11] (fun v i wr => ∃ j : Nat, j ≤ n ∧ i = .int .i64 j ∧ wr.ownsRow (w4.heap.size + 1) 34 2 v (filT (wantB L G) L j).length (flat (filT (wantB L G) L j)) ∧ wr.rowIs w4.heap.size 4 k (knownAt L G k) ∧ Below w4.heap.size w4 wr) (fun _ i _ => n - (intOf i).toNat)
        case atStart => exact ⟨0, Nat.zero_le _, rfl, World.ownsRow_nil _ _ _ _, HR.out, hB⟩
        case round =>
          obtain ⟨j, hj, rfl, hown, hrow, hBr⟩ := hrel
          have HRr : Hid (wr.rowIs w4.heap.size 4 k (knownAt L G k)) := hrow
          clear hrow
          by_cases hlt : j < n
          · have HK : Hid (j < L.length) := by rw [Hid, HL.out]; exact hlt
            obtain ⟨b, off, hga, hb, c1, c2⟩ := HC4.out.form' HK.out
            have HX : Hid (w4.cell? ⟨b, off + j * 2, none⟩ = some (.string (L.getD j nul).1) ∧ w4.cell? ⟨b, off + j * 2 + 1, none⟩ = some (.string (L.getD j nul).2)) := ⟨c1, c2⟩
            rw [← hBr.cell (p := ⟨b, off + j * 2, none⟩) hb] at c1
            rw [← hBr.cell (p := ⟨b, off + j * 2 + 1, none⟩) hb] at c2
            subst hga
            have g1 : Hid (wantB L G (L.getD j nul) = true → filT (wantB L G) L (j + 1) = filT (wantB L G) L j ++ [L.getD j nul]) := filT_hit HK.out
            have g2 : Hid (wantB L G (L.getD j nul) = false → filT (wantB L G) L (j + 1) = filT (wantB L G) L j) := filT_miss HK.out
            have hle := filT_le (wantB L G) L j
            generalize L.getD j nul = r at *
            obtain ⟨r1, r2⟩ := r
            simp only at c1 c2 HX
            have HO : Hid (wr.ownsRow (w4.heap.size + 1) 34 2 u10 (filT (wantB L G) L j).length (flat (filT (wantB L G) L j))) := hown
            clear hown
            go_wp2_with fail
            refine (held11 L r1 r2 a' k c' w4.heap.size G HG wr hm' (HC4'.out.below hBr) HRr.out.lt (fun i hi => (HRr.out.cell hi).trans (by unfold knownAt; rw [if_pos hi]))).mono ?_
            rintro e w5 ⟨rfl, hb5⟩
            have hB5 : Below w4.heap.size w4 w5 := hBr.trans (hb5.mono hBr.size)
            have HR5 : Hid (w5.rowIs w4.heap.size 4 k (knownAt L G k)) := rowIs_below HRr.out hb5
            have hown5 := ownsRow_below HO.out hb5
            clear c1 c2 hb5 HO
            cases hx : wantB L G (r1, r2) with
            | false =>
              have E : Hid (filT (wantB L G) L (j + 1) = filT (wantB L G) L j) := g2.out hx
              clear g1 g2
              go_wp2
              go_roundw
              case rel => exact ⟨j + 1, by omega, by go_num, by rw [E.out]; exact hown5, HR5.out, hB5⟩
              case measure => simp [intOf]; omega
            | true =>
              have E : Hid (filT (wantB L G) L (j + 1) = filT (wantB L G) L j ++ [(r1, r2)]) := g1.out hx
              clear g1 g2
              obtain ⟨c1, c2⟩ := HX.out
              rw [← hB5.cell (p := ⟨b, off + j * 2, none⟩) hb] at c1
              rw [← hB5.cell (p := ⟨b, off + j * 2 + 1, none⟩) hb] at c2
              have hs5 := hB5.size
              go_wp2_with (at_builtin; refine wpList_append_own _ rfl (.tmp 70) (.tmp 75) 22 rfl (w4.heap.size + 1) 34 i0 _ 2 32 Try.underlying22 hi hz0 hz1 hz2 rfl (by decide) _ _ _ rfl (hown5.alloc _) ⟨w5.heap.size, 0, none⟩ 1 1 [.string r1, .string r2] rfl rfl (cells2_newE _ _ _ _) (two_strs _ _) (by unfold maxLen; omega) (by omega) (by simp; omega) ?_)
              intro v' w6 hown' hgrow _
              have R : Hid (w6.rowIs w4.heap.size 4 k (knownAt L G k) ∧ Below w4.heap.size w4 w6) := gather_step1 hB5 HR5.out hown5 hgrow
              have HO : Hid (w6.ownsRow (w4.heap.size + 1) 34 2 v' ((filT (wantB L G) L j).length + 1) (flat (filT (wantB L G) L j) ++ [.string r1, .string r2])) := hown'
              clear hown' hgrow hown5 c1 c2
              go_wp2
              go_roundw
              case rel => exact ⟨j + 1, by omega, by go_num, by rw [E.out, flat_snoc, List.length_append]; exact HO.out, R.out.1, R.out.2⟩
              case measure => simp [intOf]; omega
          · obtain rfl : j = n := by omega
            rw [filT_all HL.out, law_closure] at hown
            obtain ⟨wa, wc, hv, hkw⟩ := own_keysE rfl hown
            clear hown hlt hj hi hz0 hz1 hz2
            subst hv
            have hbe : Below w1.heap.size w1 wr := HB.out.trans (hBr.mono HB.out.size)
            have HKg : Hid (KCells wr ga (eff L G)) := HG4.out.below hBr
            have HKw : Hid (KCells wr wa (eff L G)) := hkw
            have hle := HE.out
            have h28 := @run_eql28
            clear hkw
            by_cases h0 : eff L G = []
            · obtain ⟨rfl, rfl⟩ := HGN.out h0
              have hl0 : (eff L G).length = 0 := by rw [h0]; rfl
              clear h0
              generalize (eff L G).length = x at *
              subst hl0
              go_wp2
              go_ret
              exact ⟨rfl, hbe⟩
            · have hl0 : ((((eff L G).length : Nat) : Int) == 0) = false := beq_eq_false_iff_ne.2 (by
                have : (eff L G).length ≠ 0 := fun h => h0 (List.eq_nil_of_length_eq_zero h)
                omega)
              clear h0
              go_wp2_with (go_at_call 12; refine (matches12 ga wa _ gc wc (eff L G) rfl wr (by omega) HKg.out HKw.out).mono ?_; rintro e w7 ⟨rfl, hb7⟩)
              go_ret
              exact ⟨rfl, hbe.trans (hb7.mono hbe.size)⟩
end Go.Proofs.Qxb6627432a
