import Derived.Test.Qxb6627475aRep
namespace Go.Proofs.Qxb6627475a
open Go.RowKit

theorem Try.stood32 : Try.prog.stoodInHeld 32 = false := by kernel_rfl
theorem Try.guard32 : Try.prog.eqGuardType Try.prog.depth 32 = false := by kernel_rfl
def seq (s t : Se) : Bool := decide (s = t)
theorem neq32 (w : World) (s0 s1 s2 s3 s4 t0 t1 t2 t3 t4 : Bool) : (binOp .neq 32 (.agg #[.bool s0, .bool s1, .bool s2, .bool s3, .bool s4]) (.agg #[.bool t0, .bool t1, .bool t2, .bool t3, .bool t4])).run Try.prog w = .ok (.bool (!seq (s0, s1, s2, s3, s4) (t0, t1, t2, t3, t4))) w := by
  rw [run_neq_struct, run_equalIn_agg _ 9999 _ _ _ (by simp [Program.fieldsOf, Try.underlying32]) Try.stood32]
  simp only [Program.fieldsOf, Try.underlying32]
  simp [go_sem, Op.eqFields]
  unfold seq
  by_cases h0 : s0 = t0
  · by_cases h1 : s1 = t1
    · by_cases h2 : s2 = t2
      · by_cases h3 : s3 = t3
        · by_cases h4 : s4 = t4
          · simp [h0, h1, h2, h3, h4]
          · simp [h0, h1, h2, h3, h4]
        · simp [h0, h1, h2, h3]
      · simp [h0, h1, h2]
    · simp [h0, h1]
  · simp [h0]

theorem ne_of_len {A B : List Se} (h : ¬ A.length = B.length) : false = decide (A = B) := by
  symm; rw [decide_eq_false_iff_not]; intro e; exact h (by rw [e])
theorem ne_at {A B : List Se} {k : Nat} (h : seq (A.getD k nul) (B.getD k nul) = false) : false = decide (A = B) := by
  symm; rw [decide_eq_false_iff_not]; rintro rfl
  rw [seq, decide_eq_false_iff_not] at h
  exact h rfl
theorem eq_all {A B : List Se} {n : Nat} (ha : A.length = n) (hb : B.length = n) (h : ∀ j, j < n → seq (A.getD j nul) (B.getD j nul) = true) : true = decide (A = B) := by
  symm; rw [decide_eq_true_eq]
  refine list_ext (by omega) fun i hi => ?_
  have := h i (by omega)
  rwa [seq, decide_eq_true_eq] at this

set_option maxHeartbeats 1000000 in
theorem same9 (a a' : Option Addr) (n c n' c' : Nat) (A B : List Se) (HA : Hid (A.length = n)) (HB : Hid (B.length = n')) (w : World) (hn : n ≤ 1000000) (hn' : n' ≤ 1000000) (hc : SCells w a A) (hc' : SCells w a' B) :
    Calls Try.prog 9 #[.slice a n c, .slice a' n' c'] w fun e w' => e = .returned (.bool (decide (A = B))) ∧ Below w.heap.size w w' := by
  have HC : Hid (SCells w a A) := hc
  have HC' : Hid (SCells w a' B) := hc'
  clear hc hc'
  by_cases hl : n = n'
  · subst hl
    have e32 := @neq32
    have g32 := Try.guard32
    go_enter Try.func9, Try.ntmps9
    go_wp2
    go_loopw [5] (fun i wr => ∃ k : Nat, k ≤ n ∧ i = .int .i64 k ∧ Hid (∀ j, j < k → seq (A.getD j nul) (B.getD j nul) = true) ∧ Below w.heap.size w wr) (fun i _ => n - (intOf i).toNat)
    case atStart => exact ⟨0, Nat.zero_le _, rfl, fun j hj => absurd hj (by omega), Below.refl _ _⟩
    case round =>
      obtain ⟨k, hk, rfl, hall, hB⟩ := hrel
      by_cases hlt : k < n
      · have HK : Hid (k < A.length ∧ k < B.length) := by rw [Hid, HA.out, HB.out]; exact ⟨hlt, hlt⟩
        obtain ⟨b, off, hga, hb, hseat⟩ := HC.out.form HK.out.1
        obtain ⟨c0, c1, c2, c3, c4⟩ := hseat.below hB hb
        obtain ⟨b', off', hga', hb', hseat'⟩ := HC'.out.form HK.out.2
        obtain ⟨d0, d1, d2, d3, d4⟩ := hseat'.below hB hb'
        clear hseat hseat'
        subst hga hga'
        have hnext : Hid (seq (A.getD k nul) (B.getD k nul) = true → ∀ j, j < k + 1 → seq (A.getD j nul) (B.getD j nul) = true) := fun h j hj => by
          by_cases e : j = k
          · subst e; exact h
          · exact hall.out j (by omega)
        have hstop : Hid (seq (A.getD k nul) (B.getD k nul) = false → false = decide (A = B)) := fun h => ne_at h
        clear hall
        generalize A.getD k nul = s at *
        generalize B.getD k nul = t at *
        obtain ⟨s0, s1, s2, s3, s4⟩ := s
        obtain ⟨t0, t1, t2, t3, t4⟩ := t
        simp only at c0 c1 c2 c3 c4 d0 d1 d2 d3 d4
        cases hh : seq (s0, s1, s2, s3, s4) (t0, t1, t2, t3, t4) with
        | true =>
          go_wp2
          go_quiet (fail)
          go_wp2
          go_roundw
          case rel => exact ⟨k + 1, by omega, by go_num, hnext.out hh, below_drewN hB _⟩
          case measure => simp [intOf]; omega
        | false =>
          go_wp2
          go_quiet (fail)
          go_wp2
          go_ret
          exact ⟨ret_bool (hstop.out hh), below_drewN hB _⟩
      · go_wp2
        go_ret
        exact ⟨ret_bool (eq_all HA.out HB.out fun j hj => hall.out j (by omega)), hB⟩
  · have hne : (((n : Nat) : Int) != ((n' : Nat) : Int)) = true := by rw [bne_iff_ne]; omega
    go_enter Try.func9, Try.ntmps9
    go_wp2
    go_ret
    exact ⟨ret_bool (ne_of_len (by rw [HA.out, HB.out]; exact hl)), Below.refl _ _⟩
end Go.Proofs.Qxb6627475a
