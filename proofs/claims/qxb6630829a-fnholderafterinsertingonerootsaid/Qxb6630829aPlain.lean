import Derived.WalkKit
namespace Go.Proofs.Qxb6630829a

/-! The plain side: what the Go functions compute, and the law about it. -/

def pfx (s p : ByteArray) : Bool := p.toList.isPrefixOf s.toList
def Hd (p r : ByteArray) : Bool := p.toList == r.toList || (r.toList ++ [47]).isPrefixOf p.toList
def emp : ByteArray := ⟨#[]⟩
def step (p : ByteArray) (acc r : ByteArray) : ByteArray := if Hd p r = true ∧ acc.size < r.size then r else acc
def hold (p : ByteArray) (L : List ByteArray) : ByteArray := L.foldl (step p) emp

theorem size_eq (s : ByteArray) : s.size = s.data.toList.length := by
  simp only [Array.length_toList]
  rfl
theorem extract_toList (s : ByteArray) (n : Nat) : (s.extract 0 n).toList = s.toList.take n := by
  obtain ⟨⟨l⟩⟩ := s
  rw [ByteArray.extract_mk, ByteArray.toList_eq, ByteArray.toList_eq]
  simp
theorem size_toList (s : ByteArray) : s.toList.length = s.size := by rw [ByteArray.toList_eq, ← size_eq]
theorem toList_inj {s p : ByteArray} (h : s.toList = p.toList) : s = p := by
  rw [ByteArray.toList_eq, ByteArray.toList_eq] at h
  obtain ⟨⟨a⟩⟩ := s
  obtain ⟨⟨b⟩⟩ := p
  simp at h
  rw [h]
theorem emp_size : emp.size = 0 := rfl
theorem size_zero {s : ByteArray} (h : s.size = 0) : s = emp := by
  apply toList_inj
  have h1 := size_toList s
  have h2 := size_toList emp
  rw [emp_size] at h2
  rw [List.eq_nil_of_length_eq_zero (show s.toList.length = 0 by omega), List.eq_nil_of_length_eq_zero h2]

/-! ### What the walks show -/
theorem pfx_yes (s p : ByteArray) : ((s.extract 0 p.size).toList == p.toList) = pfx s p := by
  rw [extract_toList, Bool.eq_iff_iff]
  simp only [pfx, beq_iff_eq, List.isPrefixOf_iff_prefix]
  constructor
  · intro h; exact h ▸ List.take_prefix _ _
  · intro h; rw [← size_toList]; exact (List.prefix_iff_eq_take.1 h).symm
theorem pfx_no (s p : ByteArray) (h : ¬ p.size ≤ s.size) : false = pfx s p := by
  cases hh : pfx s p with
  | false => rfl
  | true =>
    simp only [pfx, List.isPrefixOf_iff_prefix] at hh
    have := hh.length_le
    simp only [size_toList] at this
    omega

theorem Hd_prefix {p r : ByteArray} (h : Hd p r = true) : r.toList <+: p.toList := by
  simp only [Hd, Bool.or_eq_true, beq_iff_eq, List.isPrefixOf_iff_prefix] at h
  rcases h with h | h
  · rw [h]; exact List.prefix_refl _
  · exact (List.prefix_append _ _).trans h

theorem Hd_same {p r : ByteArray} (h : (p.toList == r.toList) = true) : Hd p r = true := by simp [Hd, h]
theorem Hd_app {p r : ByteArray} (h : (p.toList == r.toList) = false) : pfx p (r ++ ⟨#[47]⟩) = Hd p r := by
  have e : (r ++ (⟨#[47]⟩ : ByteArray)).toList = r.toList ++ [47] := by
    rw [ByteArray.toList_eq, ByteArray.toList_eq]; simp
  simp [Hd, h, pfx, e]
theorem Hd_short {p r : ByteArray} (h : (p.toList == r.toList) = false) (hs : p.size ≤ r.size) : false = Hd p r := by
  cases hh : Hd p r with
  | false => rfl
  | true =>
    simp only [Hd, h, Bool.false_or, List.isPrefixOf_iff_prefix] at hh
    have := hh.length_le
    simp [size_toList] at this
    omega
theorem getElem_toList (p : ByteArray) (n : Nat) (h : n < p.size) : p.toList[n]? = some p[n] := by
  rw [ByteArray.toList_eq]
  obtain ⟨⟨l⟩⟩ := p
  rw [List.getElem?_eq_getElem (show n < l.length from h)]
  rfl
theorem Hd_long {p r : ByteArray} (h : (p.toList == r.toList) = false) (hs : r.size < p.size) :
    Hd p r = (((p[r.size].toNat : Int) == 47) && ((p.extract 0 r.size).toList == r.toList)) := by
  rw [Bool.eq_iff_iff]
  simp only [Hd, h, Bool.false_or, List.isPrefixOf_iff_prefix, Bool.and_eq_true, beq_iff_eq]
  have eg := getElem_toList p r.size hs
  have el := size_toList r
  have ex := extract_toList p r.size
  constructor
  · rintro ⟨t, ht⟩
    have e1 : p.toList[r.size]? = some 47 := by rw [← ht, ← el]; simp
    rw [eg] at e1
    refine ⟨by rw [Option.some.inj e1]; rfl, ?_⟩
    rw [ex, ← ht, ← el]; simp
  · rintro ⟨h1, h2⟩
    have h3 : p[r.size] = 47 := by
      apply UInt8.toNat_inj.1
      have : (p[r.size]).toNat = 47 := by omega
      rw [this]; rfl
    rw [ex] at h2
    have h4 : p.toList.take (r.size + 1) = r.toList ++ [47] := by
      rw [List.take_add_one, eg, h2, h3]; rfl
    rw [← h4]
    exact List.take_prefix _ _

/-! ### The longest holding root -/
def IsLong (p : ByteArray) (L : List ByteArray) (r : ByteArray) : Prop :=
  (∀ q ∈ L, Hd p q = true → q.size ≤ r.size) ∧ (r.size = 0 ∨ (r ∈ L ∧ Hd p r = true))

theorem Hd_eq {p a b : ByteArray} (ha : Hd p a = true) (hb : Hd p b = true) (h : a.size = b.size) : a = b := by
  apply toList_inj
  have h1 := List.prefix_iff_eq_take.1 (Hd_prefix ha)
  have h2 := List.prefix_iff_eq_take.1 (Hd_prefix hb)
  rw [h1, h2, size_toList, size_toList, h]
theorem IsLong.uniq {p : ByteArray} {L : List ByteArray} {a b : ByteArray} (ha : IsLong p L a) (hb : IsLong p L b) : a = b := by
  obtain ⟨a1, a2⟩ := ha
  obtain ⟨b1, b2⟩ := hb
  rcases a2 with a2 | ⟨am, ah⟩
  · rcases b2 with b2 | ⟨bm, bh⟩
    · rw [size_zero a2, size_zero b2]
    · have := a1 b bm bh
      rw [size_zero a2, size_zero (show b.size = 0 by omega)]
  · rcases b2 with b2 | ⟨bm, bh⟩
    · have := b1 a am ah
      rw [size_zero b2, size_zero (show a.size = 0 by omega)]
    · have := a1 b bm bh
      have := b1 a am ah
      exact Hd_eq ah bh (by omega)

theorem foldl_long (p : ByteArray) : ∀ (L : List ByteArray) (M : List ByteArray) (acc : ByteArray), IsLong p M acc → IsLong p (M ++ L) (L.foldl (step p) acc)
  | [], M, acc, h => by simpa using h
  | r :: L, M, acc, h => by
    have hs : IsLong p (M ++ [r]) (step p acc r) := by
      unfold step
      obtain ⟨h1, h2⟩ := h
      split
      · rename_i hc
        refine ⟨fun q hq hh => ?_, .inr ⟨by simp, hc.1⟩⟩
        rcases List.mem_append.1 hq with hq | hq
        · have := h1 q hq hh; omega
        · simp at hq; rw [hq]; exact Nat.le_refl _
      · rename_i hc
        refine ⟨fun q hq hh => ?_, ?_⟩
        · rcases List.mem_append.1 hq with hq | hq
          · exact h1 q hq hh
          · simp at hq; subst hq
            have : ¬ acc.size < q.size := fun h => hc ⟨hh, h⟩
            omega
        · rcases h2 with h2 | h2
          · exact .inl h2
          · exact .inr ⟨by simp [h2.1], h2.2⟩
    have := foldl_long p L (M ++ [r]) (step p acc r) hs
    simpa using this
theorem hold_long (p : ByteArray) (L : List ByteArray) : IsLong p L (hold p L) := by
  have := foldl_long p L [] emp ⟨by simp, .inl rfl⟩
  simpa [hold] using this
theorem hold_succ (p : ByteArray) (L : List ByteArray) (k : Nat) (h : k < L.length) : hold p (L.take (k + 1)) = step p (hold p (L.take k)) (L.getD k emp) := by
  unfold hold
  rw [List.take_succ_eq_append_getElem h, List.foldl_append]
  simp [h]

/-- The law of the cut. -/
theorem law_cut (p : ByteArray) (L : List ByteArray) (k : Nat) :
    hold p L = if (hold p (L.take k)).size < (hold p (L.drop k)).size then hold p (L.drop k) else hold p (L.take k) := by
  apply IsLong.uniq (hold_long p L)
  obtain ⟨a1, a2⟩ := hold_long p (L.take k)
  obtain ⟨b1, b2⟩ := hold_long p (L.drop k)
  have hm : ∀ q, q ∈ L ↔ q ∈ L.take k ∨ q ∈ L.drop k := fun q => by
    rw [← List.mem_append, List.take_append_drop]
  split
  · refine ⟨fun q hq hh => ?_, ?_⟩
    · rcases (hm q).1 hq with h | h
      · have := a1 q h hh; omega
      · exact b1 q h hh
    · rcases b2 with h | h
      · exact .inl h
      · exact .inr ⟨(hm _).2 (.inr h.1), h.2⟩
  · refine ⟨fun q hq hh => ?_, ?_⟩
    · rcases (hm q).1 hq with h | h
      · exact a1 q h hh
      · have := b1 q h hh; omega
    · rcases a2 with h | h
      · exact .inl h
      · exact .inr ⟨(hm _).2 (.inl h.1), h.2⟩

/-- The law of one root more. -/
theorem law_insert (p x : ByteArray) (L : List ByteArray) (i : Nat) :
    hold p (L.take i ++ x :: L.drop i) = if Hd p x = true ∧ (hold p L).size < x.size then x else hold p L := by
  apply IsLong.uniq (hold_long p _)
  obtain ⟨a1, a2⟩ := hold_long p L
  have hm : ∀ q, q ∈ L.take i ++ x :: L.drop i ↔ q = x ∨ q ∈ L := fun q => by
    have : q ∈ L ↔ q ∈ L.take i ∨ q ∈ L.drop i := by rw [← List.mem_append, List.take_append_drop]
    simp only [List.mem_append, List.mem_cons, this]
    constructor
    · rintro (h | h | h)
      · exact .inr (.inl h)
      · exact .inl h
      · exact .inr (.inr h)
    · rintro (h | h | h)
      · exact .inr (.inl h)
      · exact .inl h
      · exact .inr (.inr h)
  split
  · rename_i hc
    refine ⟨fun q hq hh => ?_, .inr ⟨(hm x).2 (.inl rfl), hc.1⟩⟩
    rcases (hm q).1 hq with h | h
    · rw [h]; exact Nat.le_refl _
    · have := a1 q h hh; omega
  · rename_i hc
    refine ⟨fun q hq hh => ?_, ?_⟩
    · rcases (hm q).1 hq with h | h
      · subst h
        have : ¬ (hold p L).size < q.size := fun h => hc ⟨hh, h⟩
        omega
      · exact a1 q h hh
    · rcases a2 with h | h
      · exact .inl h
      · exact .inr ⟨(hm _).2 (.inr h.1), h.2⟩
end Go.Proofs.Qxb6630829a
