import Derived.Test.Qxb6627475aWalksB
namespace Go.Proofs.Qxb6627475a
open Go.RowKit

theorem getD_none {S : List Se} {k : Nat} (h : S.length ≤ k) : S.getD k nul = nul := by simp [List.getElem?_eq_none h]
theorem put5_size {B : Nat} {a w : World} {b o : Nat} {s : Se} (h : Below B a w) : a.heap.size ≤ (put5 w b o s).heap.size := by
  have := h.size
  simpa [put5, World.setCell] using this

/-- A row of n seats made anew. -/
def NewSeats (w : World) (n : Nat) (F : List Se) (e : Ending) (w' : World) : Prop :=
  e = .returned (.slice (some ⟨w.heap.size, 0, none⟩) n n) ∧ w'.rowIs w.heap.size 32 (n * 5) (rowAt F n) ∧ Below w.heap.size w w'

set_option maxHeartbeats 800000 in
theorem rep8_big (m : Nat) (a : Option Addr) (n c : Nat) (S F : List Se) (HL : Hid (S.length = n)) (R : Int) (HRm : Hid (R = (m : Int))) (HF : Hid (∀ k, k < m → F.getD k nul = fixS R k (S.getD k nul))) (w : World) (hm : m ≤ 1000000) (hnm : n < m) (hc : SCells w a S) :
    Calls Try.prog 8 #[.int .i64 (m : Int), .slice a n c] w fun e w' => e = .returned (.slice (some ⟨w.heap.size, 0, none⟩) m m) ∧ w'.rowIs w.heap.size 32 (m * 5) (rowAt F m) ∧ Below w.heap.size w w' := by
  have hmk := run_make24 m hm
  have HC : Hid (SCells w a S) := hc
  clear hc
  obtain rfl := HRm.out
  go_enter Try.func8, Try.ntmps8
  go_wp2
  go_loopw [7] (fun i wr => ∃ k : Nat, k ≤ m ∧ i = .int .i64 k ∧ wr.rowIs w.heap.size 32 (m * 5) (rowAt F k) ∧ Below w.heap.size w wr) (fun i _ => m - (intOf i).toNat)
  case atStart => exact ⟨0, Nat.zero_le _, rfl, made_row w F m, (Below.refl _ _).alloc (Nat.le_refl _) _⟩
  case round =>
    obtain ⟨k, hk, rfl, hrow, hB⟩ := hrel
    have HR : Hid (wr.rowIs w.heap.size 32 (m * 5) (rowAt F k)) := hrow
    clear hrow
    by_cases hlt : k < m
    · have hgr : w.heap.size < wr.heap.size := HR.out.lt
      have HK : Hid (F.getD k nul = fixS (m : Int) k (S.getD k nul)) := HF.out k hlt
      have f0 := HR.out.frozen (k * 5)
      have f1 := HR.out.frozen (k * 5 + 1)
      have f2 := HR.out.frozen (k * 5 + 2)
      have f3 := HR.out.frozen (k * 5 + 3)
      have f4 := HR.out.frozen (k * 5 + 4)
      have d0 := HR.out.cell (i := k * 5) (by omega)
      have d1 := HR.out.cell (i := k * 5 + 1) (by omega)
      have d2 := HR.out.cell (i := k * 5 + 2) (by omega)
      have d3 := HR.out.cell (i := k * 5 + 3) (by omega)
      have d4 := HR.out.cell (i := k * 5 + 4) (by omega)
      generalize rowAt F k (k * 5) = o0 at d0
      generalize rowAt F k (k * 5 + 1) = o1 at d1
      generalize rowAt F k (k * 5 + 2) = o2 at d2
      generalize rowAt F k (k * 5 + 3) = o3 at d3
      generalize rowAt F k (k * 5 + 4) = o4 at d4
      by_cases hkn : k < n
      · have hkL : k < S.length := by rw [HL.out]; omega
        obtain ⟨b, off, hga, hb, hseat⟩ := HC.out.form hkL
        obtain ⟨c0, c1, c2, c3, c4⟩ := hseat.below hB hb
        have hbr : b < wr.heap.size := Nat.lt_of_lt_of_le hb hB.size
        clear hseat hkL
        subst hga
        generalize S.getD k nul = s at *
        obtain ⟨s0, s1, s2, s3, s4⟩ := s
        simp only at c0 c1 c2 c3 c4
        have HFK : Hid (F.getD k nul = (true, true, false, s3, s4)) := by rw [Hid, HK.out, fixS, if_pos (by omega)]
        go_wp2
        go_roundw
        case rel => exact ⟨k + 1, by omega, by go_num, (row_step (s := (true, true, false, s3, s4)) HR.out HFK.out).alloc _, (put5_below (s := (true, true, false, s3, s4)) hB (Nat.le_refl _)).alloc (put5_size hB) _⟩
        case measure => simp [intOf]; omega
      · have HFK : Hid (F.getD k nul = (true, true, false, false, false)) := by
          rw [Hid, HK.out, fixS, if_pos (by omega), getD_none (by rw [HL.out]; omega)]
          rfl
        go_wp2
        go_roundw
        case rel => exact ⟨k + 1, by omega, by go_num, (row_step (s := (true, true, false, false, false)) HR.out HFK.out).alloc _, (put5_below (s := (true, true, false, false, false)) hB (Nat.le_refl _)).alloc (put5_size hB) _⟩
        case measure => simp [intOf]; omega
    · obtain rfl : k = m := by omega
      go_wp2
      go_ret
      exact ⟨rfl, HR.out, hB⟩

set_option maxHeartbeats 800000 in
theorem rep8_small (R : Int) (a : Option Addr) (n c : Nat) (S F : List Se) (HL : Hid (S.length = n)) (HF : Hid (∀ k, k < n → F.getD k nul = fixS R k (S.getD k nul))) (w : World) (hn : n ≤ 1000000) (hR : R ≤ (n : Int)) (hc : SCells w a S) :
    Calls Try.prog 8 #[.int .i64 R, .slice a n c] w fun e w' => e = .returned (.slice (some ⟨w.heap.size, 0, none⟩) n n) ∧ w'.rowIs w.heap.size 32 (n * 5) (rowAt F n) ∧ Below w.heap.size w w' := by
  have hmk := run_make24 n hn
  have HC : Hid (SCells w a S) := hc
  clear hc
  go_enter Try.func8, Try.ntmps8
  go_wp2
  go_loopw [7] (fun i wr => ∃ k : Nat, k ≤ n ∧ i = .int .i64 k ∧ wr.rowIs w.heap.size 32 (n * 5) (rowAt F k) ∧ Below w.heap.size w wr) (fun i _ => n - (intOf i).toNat)
  case atStart => exact ⟨0, Nat.zero_le _, rfl, made_row w F n, (Below.refl _ _).alloc (Nat.le_refl _) _⟩
  case round =>
    obtain ⟨k, hk, rfl, hrow, hB⟩ := hrel
    have HR : Hid (wr.rowIs w.heap.size 32 (n * 5) (rowAt F k)) := hrow
    clear hrow
    by_cases hlt : k < n
    · have hgr : w.heap.size < wr.heap.size := HR.out.lt
      have HK : Hid (F.getD k nul = fixS R k (S.getD k nul)) := HF.out k hlt
      have f0 := HR.out.frozen (k * 5)
      have f1 := HR.out.frozen (k * 5 + 1)
      have f2 := HR.out.frozen (k * 5 + 2)
      have f3 := HR.out.frozen (k * 5 + 3)
      have f4 := HR.out.frozen (k * 5 + 4)
      have d0 := HR.out.cell (i := k * 5) (by omega)
      have d1 := HR.out.cell (i := k * 5 + 1) (by omega)
      have d2 := HR.out.cell (i := k * 5 + 2) (by omega)
      have d3 := HR.out.cell (i := k * 5 + 3) (by omega)
      have d4 := HR.out.cell (i := k * 5 + 4) (by omega)
      generalize rowAt F k (k * 5) = o0 at d0
      generalize rowAt F k (k * 5 + 1) = o1 at d1
      generalize rowAt F k (k * 5 + 2) = o2 at d2
      generalize rowAt F k (k * 5 + 3) = o3 at d3
      generalize rowAt F k (k * 5 + 4) = o4 at d4
      have hkL : k < S.length := by rw [HL.out]; omega
      obtain ⟨b, off, hga, hb, hseat⟩ := HC.out.form hkL
      obtain ⟨c0, c1, c2, c3, c4⟩ := hseat.below hB hb
      have hbr : b < wr.heap.size := Nat.lt_of_lt_of_le hb hB.size
      clear hseat hkL
      subst hga
      generalize S.getD k nul = s at *
      obtain ⟨s0, s1, s2, s3, s4⟩ := s
      simp only at c0 c1 c2 c3 c4
      by_cases hkR : (k : Int) < R
      · have HFK : Hid (F.getD k nul = (true, true, false, s3, s4)) := by rw [Hid, HK.out, fixS, if_pos (by omega)]
        go_wp2
        go_roundw
        case rel => exact ⟨k + 1, by omega, by go_num, (row_step (s := (true, true, false, s3, s4)) HR.out HFK.out).alloc _, (put5_below (s := (true, true, false, s3, s4)) hB (Nat.le_refl _)).alloc (put5_size hB) _⟩
        case measure => simp [intOf]; omega
      · have HFK : Hid (F.getD k nul = (false, false, s2, s3, s4)) := by rw [Hid, HK.out, fixS, if_neg (by omega)]
        go_wp2
        go_roundw
        case rel => exact ⟨k + 1, by omega, by go_num, (row_step (s := (false, false, s2, s3, s4)) HR.out HFK.out).alloc _, (put5_below (s := (false, false, s2, s3, s4)) hB (Nat.le_refl _)).alloc (put5_size hB) _⟩
        case measure => simp [intOf]; omega
    · obtain rfl : k = n := by omega
      go_wp2
      go_ret
      exact ⟨rfl, HR.out, hB⟩

theorem rep8 (R : Int) (a : Option Addr) (n c : Nat) (S : List Se) (HL : Hid (S.length = n)) (w : World) (hn : n ≤ 131072) (hR : R ≤ (n : Int) + 65536) (hc : SCells w a S) :
    Calls Try.prog 8 #[.int .i64 R, .slice a n c] w fun e w' => NewSeats w (width R n) (fixAll R S) e w' := by
  have hF : ∀ k, k < width R n → (fixAll R S).getD k nul = fixS R k (S.getD k nul) := fun k hk => fixAll_getD (by rw [HL.out]; exact hk)
  by_cases h : (n : Int) < R
  · obtain ⟨m, rfl⟩ := Int.eq_ofNat_of_zero_le (by omega : 0 ≤ R)
    have hw : width (m : Int) n = m := by unfold width; rw [if_pos h]; rfl
    rw [hw] at hF ⊢
    exact rep8_big m a n c S (fixAll m S) HL m rfl hF w (by omega) (by omega) hc
  · have hw : width R n = n := width_eq.2 (by omega)
    rw [hw] at hF ⊢
    exact rep8_small R a n c S (fixAll R S) HL hF w (by omega) (by omega) hc
end Go.Proofs.Qxb6627475a
