import Derived.WalkKit
namespace Go.Proofs.Qxb6627475a

/-! The plain side: a seat is (Kept, Joined, Learner, Leads, Ready). -/
abbrev Se := Bool × Bool × Bool × Bool × Bool
def nul : Se := (false, false, false, false, false)
def good (R : Int) (i : Nat) (s : Se) : Bool := if (i : Int) < R then s.1 && (s.2.1 && !s.2.2.1) else !(s.1 || s.2.1)
def allGood (R : Int) (S : List Se) : Bool := (List.range S.length).all fun i => good R i (S.getD i nul)
def sizedB (R : Int) (kn : Bool) (S : List Se) : Bool := kn && (decide (R ≤ (S.length : Int)) && allGood R S)
def fixS (R : Int) (i : Nat) (s : Se) : Se := if (i : Int) < R then (true, true, false, s.2.2.2.1, s.2.2.2.2) else (false, false, s.2.2.1, s.2.2.2.1, s.2.2.2.2)
def width (R : Int) (n : Nat) : Nat := if (n : Int) < R then R.toNat else n
def fixAll (R : Int) (S : List Se) : List Se := (List.range (width R S.length)).map fun i => fixS R i (S.getD i nul)
def nonneg (x : Int) : Int := if x < 0 then 0 else x

theorem allGood_iff {R : Int} {S : List Se} : allGood R S = true ↔ ∀ i, i < S.length → good R i (S.getD i nul) = true := by
  unfold allGood
  rw [List.all_eq_true]
  simp only [List.mem_range]
theorem sizedB_iff {R : Int} {kn : Bool} {S : List Se} : sizedB R kn S = true ↔ kn = true ∧ R ≤ S.length ∧ ∀ i, i < S.length → good R i (S.getD i nul) = true := by
  unfold sizedB
  simp only [Bool.and_eq_true, decide_eq_true_eq, allGood_iff]
theorem good_fix (R : Int) (i : Nat) (s : Se) : good R i (fixS R i s) = true := by
  unfold good fixS
  by_cases h : (i : Int) < R <;> simp [h]
theorem fix_good {R : Int} {i : Nat} {s : Se} : fixS R i s = s ↔ good R i s = true := by
  obtain ⟨a, b, c, d, e⟩ := s
  unfold good fixS
  by_cases h : (i : Int) < R <;> cases a <;> cases b <;> cases c <;> simp [h]
theorem good_other {R O : Int} {i : Nat} {s : Se} : good O i (fixS R i s) = decide ((i : Int) < O ↔ (i : Int) < R) := by
  unfold good fixS
  by_cases h : (i : Int) < R <;> by_cases h' : (i : Int) < O <;> simp [h, h']
theorem fixAll_length (R : Int) (S : List Se) : (fixAll R S).length = width R S.length := by simp [fixAll]
theorem width_ge (R : Int) (n : Nat) : n ≤ width R n ∧ R ≤ (width R n : Int) := by
  unfold width; split <;> omega
theorem width_eq {R : Int} {n : Nat} : width R n = n ↔ R ≤ (n : Int) := by
  unfold width; split <;> omega
theorem fixAll_getD {R : Int} {S : List Se} {i : Nat} (h : i < width R S.length) : (fixAll R S).getD i nul = fixS R i (S.getD i nul) := by
  simp [fixAll, h]
theorem list_ext {A B : List Se} (hl : A.length = B.length) (h : ∀ i, i < A.length → A.getD i nul = B.getD i nul) : A = B := by
  apply List.ext_getElem hl
  intro i h1 h2
  have := h i h1
  simpa [h1, h2] using this
theorem fix_eq {R : Int} {S : List Se} : fixAll R S = S ↔ R ≤ S.length ∧ ∀ i, i < S.length → good R i (S.getD i nul) = true := by
  constructor
  · intro h
    have hl : width R S.length = S.length := by rw [← fixAll_length, h]
    refine ⟨width_eq.1 hl, fun i hi => ?_⟩
    rw [← fix_good, ← fixAll_getD (by rw [hl]; exact hi), h]
  · rintro ⟨h1, h2⟩
    have hl := width_eq.2 h1
    refine list_ext (by rw [fixAll_length, hl]) fun i hi => ?_
    rw [fixAll_length] at hi
    rw [fixAll_getD hi]
    exact fix_good.2 (h2 i (by rw [← hl]; exact hi))
/-- The first law, its four parts. -/
theorem law_iff (R : Int) (kn : Bool) (S : List Se) : sizedB R kn S = (kn && decide (fixAll R S = S)) := by
  rw [Bool.eq_iff_iff, sizedB_iff, Bool.and_eq_true, decide_eq_true_eq, fix_eq]
theorem law_fixed (R : Int) (S : List Se) : sizedB R true (fixAll R S) = true := by
  rw [sizedB_iff, fixAll_length]
  refine ⟨rfl, (width_ge R S.length).2, fun i hi => ?_⟩
  rw [fixAll_getD hi]
  exact good_fix R i _
theorem law_unknown (O : Int) (S : List Se) : sizedB O false S = false := rfl
theorem law_other (R O : Int) (S : List Se) : sizedB O true (fixAll R S) = decide (nonneg O = nonneg R) := by
  rw [Bool.eq_iff_iff, sizedB_iff, fixAll_length, decide_eq_true_eq]
  obtain ⟨h1, h2⟩ := width_ge R S.length
  generalize hw : width R S.length = W at *
  have hg : ∀ i, i < W → (good O i ((fixAll R S).getD i nul) = true ↔ ((i : Int) < O ↔ (i : Int) < R)) := fun i hi => by
    rw [fixAll_getD (by rw [hw]; exact hi), good_other, decide_eq_true_eq]
  constructor
  · rintro ⟨_, h3, h4⟩
    unfold nonneg
    by_cases hO : O < 0
    · rw [if_pos hO]
      by_cases hR : R < 0
      · rw [if_pos hR]
      · rw [if_neg hR]
        by_cases hz : R = 0
        · exact hz.symm
        · have := (hg 0 (by omega)).1 (h4 0 (by omega)); omega
    · rw [if_neg hO]
      by_cases hR : R < 0
      · rw [if_pos hR]
        by_cases hz : O = 0
        · exact hz
        · have := (hg 0 (by omega)).1 (h4 0 (by omega)); omega
      · rw [if_neg hR]
        rcases Int.lt_trichotomy O R with h | h | h
        · have := (hg O.toNat (by omega)).1 (h4 O.toNat (by omega)); omega
        · exact h
        · have := (hg R.toNat (by omega)).1 (h4 R.toNat (by omega)); omega
  · intro h
    unfold nonneg at h
    refine ⟨rfl, ?_, fun i hi => (hg i hi).2 ?_⟩
    · split at h <;> split at h <;> omega
    · split at h <;> split at h <;> omega
theorem sized_big {R : Int} {kn : Bool} {S : List Se} (h : (S.length : Int) < R) : sizedB R kn S = false := by
  cases hh : sizedB R kn S with
  | false => rfl
  | true => have := (sizedB_iff.1 hh).2.1; omega

/-! The second law. -/
def headR (R : Int) (c : Nat) : Int := if (c : Int) < R then c else R
def tailR (R : Int) (c : Nat) : Int := if (c : Int) < R then R - c else 0
theorem take_getD {S : List Se} {c i : Nat} (h : i < c) : (S.take c).getD i nul = S.getD i nul := by simp [h]
theorem drop_getD (S : List Se) (c i : Nat) : (S.drop c).getD i nul = S.getD (c + i) nul := by simp
theorem law_split (R : Int) (kn : Bool) (S : List Se) (c : Nat) (hc : c ≤ S.length) :
    sizedB R kn S = (sizedB (headR R c) kn (S.take c) && sizedB (tailR R c) kn (S.drop c)) := by
  rw [Bool.eq_iff_iff, Bool.and_eq_true, sizedB_iff, sizedB_iff, sizedB_iff, List.length_take, List.length_drop]
  have g1 : ∀ i, i < c → good (headR R c) i ((S.take c).getD i nul) = good R i (S.getD i nul) := fun i hi => by
    rw [take_getD hi]
    unfold good headR
    by_cases h : (c : Int) < R
    · rw [if_pos h, if_pos (by omega), if_pos (by omega)]
    · rw [if_neg h]
  have g2 : ∀ i, good (tailR R c) i ((S.drop c).getD i nul) = good R (c + i) (S.getD (c + i) nul) := fun i => by
    rw [drop_getD]
    unfold good tailR
    by_cases h : (c : Int) < R
    · rw [if_pos h]
      by_cases h2 : (i : Int) < R - c
      · rw [if_pos h2, if_pos (by omega)]
      · rw [if_neg h2, if_neg (by omega)]
    · rw [if_neg h, if_neg (by omega), if_neg (by omega)]
  constructor
  · rintro ⟨hk, h1, h2⟩
    refine ⟨⟨hk, by unfold headR; split <;> omega, fun i hi => ?_⟩, hk, by unfold tailR; split <;> omega, fun i hi => ?_⟩
    · rw [g1 i (by omega)]; exact h2 i (by omega)
    · rw [g2 i]; exact h2 (c + i) (by omega)
  · rintro ⟨⟨hk, h1, h2⟩, _, h3, h4⟩
    refine ⟨hk, by unfold tailR at h3; split at h3 <;> omega, fun i hi => ?_⟩
    by_cases h : i < c
    · rw [← g1 i h]; exact h2 i (by omega)
    · have := h4 (i - c) (by omega)
      rw [g2, show c + (i - c) = i by omega] at this
      exact this
theorem law_split_fixed (R : Int) (S : List Se) (c : Nat) (hc : c ≤ S.length) :
    sizedB (headR R c) true ((fixAll R S).take c) = true ∧ sizedB (tailR R c) true ((fixAll R S).drop c) = true := by
  have h := law_split R true (fixAll R S) c (by rw [fixAll_length]; have := (width_ge R S.length).1; omega)
  rw [law_fixed] at h
  exact Bool.and_eq_true_iff.1 h.symm
end Go.Proofs.Qxb6627475a
