import Derived.WalkKit
namespace Go.Proofs.Qxb6627432a

/-! The plain side: keys, the closure, the laws. -/
abbrev Ky := ByteArray × ByteArray
def nul : Ky := (⟨#[]⟩, ⟨#[]⟩)
def red : ByteArray := ⟨#[114, 101, 97, 100]⟩
def keq (a b : Ky) : Bool := a.1.toList == b.1.toList && a.2.toList == b.2.toList
def inC (cat : List Ky) (k : Ky) : Bool := cat.any fun q => keq q k
def heldBy (cat : List Ky) (g c : Ky) : Bool := inC cat g && (keq g c || keq (g.1, red) c)
def heldB (cat grants : List Ky) (c : Ky) : Bool := grants.any fun g => heldBy cat g c
def eff (cat grants : List Ky) : List Ky := cat.filter (heldB cat grants)
def wantBy (cat : List Ky) (g c : Ky) : Bool := keq g c || (c.2.toList == red.toList && inC cat g && g.1.toList == c.1.toList)
def wantB (cat grants : List Ky) (c : Ky) : Bool := grants.any fun g => wantBy cat g c
def Distinct (cat : List Ky) : Prop := ∀ i j, i < cat.length → j < cat.length → keq (cat.getD i nul) (cat.getD j nul) = true → i = j

theorem toList_inj {s p : ByteArray} (h : s.toList = p.toList) : s = p := by
  rw [ByteArray.toList_eq, ByteArray.toList_eq] at h
  obtain ⟨⟨a⟩⟩ := s
  obtain ⟨⟨b⟩⟩ := p
  simp at h
  rw [h]
theorem keq_iff {a b : Ky} : keq a b = true ↔ a = b := by
  unfold keq
  simp only [Bool.and_eq_true, beq_iff_eq]
  constructor
  · rintro ⟨h1, h2⟩
    exact Prod.ext (toList_inj h1) (toList_inj h2)
  · rintro rfl; exact ⟨rfl, rfl⟩
theorem keq_self (a : Ky) : keq a a = true := keq_iff.2 rfl
theorem inC_iff {cat : List Ky} {k : Ky} : inC cat k = true ↔ k ∈ cat := by
  unfold inC
  rw [List.any_eq_true]
  constructor
  · rintro ⟨q, h1, h2⟩; rw [← keq_iff.1 h2]; exact h1
  · intro h; exact ⟨k, h, keq_self k⟩
theorem getD_mem {L : List Ky} {k : Nat} (h : k < L.length) : L.getD k nul ∈ L := by simp [h]
theorem mem_getD {L : List Ky} {q : Ky} (h : q ∈ L) : ∃ i, i < L.length ∧ L.getD i nul = q := by
  obtain ⟨i, hi, rfl⟩ := List.getElem_of_mem h
  exact ⟨i, hi, by simp [hi]⟩
theorem take_snoc {L : List Ky} {k : Nat} (h : k < L.length) : L.take (k + 1) = L.take k ++ [L.getD k nul] := by
  rw [List.take_succ_eq_append_getElem h]; simp [h]
theorem inC_take_succ {L : List Ky} {k : Nat} (h : k < L.length) (q : Ky) : inC (L.take (k + 1)) q = (inC (L.take k) q || keq (L.getD k nul) q) := by
  rw [take_snoc h]; simp [inC]
theorem inC_take_all {L : List Ky} {n : Nat} (h : L.length ≤ n) (q : Ky) : inC (L.take n) q = inC L q := by rw [List.take_of_length_le h]
theorem heldB_succ {cat L : List Ky} {k : Nat} (h : k < L.length) (c : Ky) : heldB cat (L.take (k + 1)) c = (heldB cat (L.take k) c || heldBy cat (L.getD k nul) c) := by
  rw [take_snoc h]; simp [heldB]
theorem wantB_succ {cat L : List Ky} {k : Nat} (h : k < L.length) (c : Ky) : wantB cat (L.take (k + 1)) c = (wantB cat (L.take k) c || wantBy cat (L.getD k nul) c) := by
  rw [take_snoc h]; simp [wantB]
theorem heldB_mem {cat grants : List Ky} {c : Ky} : heldB cat grants c = true ↔ ∃ g ∈ grants, g ∈ cat ∧ (g = c ∨ (g.1, red) = c) := by
  simp only [heldB, heldBy, List.any_eq_true, Bool.and_eq_true, Bool.or_eq_true, inC_iff, keq_iff]
theorem mem_eff {cat grants : List Ky} {c : Ky} : c ∈ eff cat grants ↔ c ∈ cat ∧ heldB cat grants c = true := by
  unfold eff; rw [List.mem_filter]

/-- The first law: what is wanted is what is held. -/
theorem want_held {cat grants : List Ky} {c : Ky} (hc : c ∈ cat) : wantB cat grants c = heldB cat grants c := by
  rw [Bool.eq_iff_iff, heldB_mem]
  simp only [wantB, wantBy, List.any_eq_true, Bool.or_eq_true, Bool.and_eq_true, beq_iff_eq, keq_iff, inC_iff]
  constructor
  · rintro ⟨g, hg, h | ⟨⟨h1, h2⟩, h3⟩⟩
    · exact ⟨g, hg, h ▸ hc, .inl h⟩
    · exact ⟨g, hg, h2, .inr (Prod.ext (toList_inj h3) (toList_inj h1).symm)⟩
  · rintro ⟨g, hg, h1, h | h⟩
    · exact ⟨g, hg, .inl h⟩
    · exact ⟨g, hg, .inr ⟨⟨by rw [← h], h1⟩, by rw [← h]⟩⟩
theorem law_closure (cat grants : List Ky) : cat.filter (wantB cat grants) = eff cat grants := by
  unfold eff
  exact List.filter_congr fun c hc => want_held hc

/-- The second law: the union over a cut. -/
theorem law_union (cat grants : List Ky) (m : Nat) :
    cat.filter (fun c => inC (eff cat (grants.take m)) c || inC (eff cat (grants.drop m)) c) = eff cat grants := by
  unfold eff
  refine List.filter_congr fun c hc => ?_
  rw [Bool.eq_iff_iff, Bool.or_eq_true, inC_iff, inC_iff, List.mem_filter, List.mem_filter]
  have e : heldB cat grants c = (heldB cat (grants.take m) c || heldB cat (grants.drop m) c) := by
    have : grants = grants.take m ++ grants.drop m := (List.take_append_drop m grants).symm
    rw [heldB, this, List.any_append]
    simp only [List.take_append_drop, heldB]
  rw [e, Bool.or_eq_true]
  simp [hc]
theorem law_again (cat grants : List Ky) : eff cat (eff cat grants) = eff cat grants := by
  conv => lhs; unfold eff
  conv => rhs; unfold eff
  refine List.filter_congr fun c hc => ?_
  rw [Bool.eq_iff_iff]
  constructor
  · intro h
    obtain ⟨g, hg, hgc, h⟩ := heldB_mem.1 h
    have hg' := (List.mem_filter.1 hg).2
    rcases h with h | h
    · rw [← h]; exact hg'
    · obtain ⟨f, hf, hfc, hh⟩ := heldB_mem.1 hg'
      refine heldB_mem.2 ⟨f, hf, hfc, .inr ?_⟩
      rw [← h]
      rcases hh with hh | hh
      · rw [hh]
      · rw [← hh]
  · intro h
    exact heldB_mem.2 ⟨c, List.mem_filter.2 ⟨hc, h⟩, hc, .inl rfl⟩
theorem law_grant {cat grants : List Ky} {g : Ky} (hg : g ∈ grants) (hc : inC cat g = true) : inC (eff cat grants) g = true := by
  rw [inC_iff] at hc ⊢
  exact mem_eff.2 ⟨hc, heldB_mem.2 ⟨g, hg, hc, .inl rfl⟩⟩
end Go.Proofs.Qxb6627432a
