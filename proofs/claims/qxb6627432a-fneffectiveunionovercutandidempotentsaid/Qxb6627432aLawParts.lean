import Derived.Test.Qxb6627432aBytes
namespace Go.Proofs.Qxb6627432a
open Go.RowKit Go.Maps

theorem Try.info34 : (Try.prog.info? 34).map (fun i => (i.zero, i.size, i.bytes)) = some (some (.agg #[.string ⟨#[]⟩, .string ⟨#[]⟩]), 2, 32) := by kernel_rfl

def filT (p : Ky → Bool) (cat : List Ky) (k : Nat) : List Ky := (cat.take k).filter p
theorem filT_hit {p : Ky → Bool} {cat : List Ky} {k : Nat} (hk : k < cat.length) (h : p (cat.getD k nul) = true) : filT p cat (k + 1) = filT p cat k ++ [cat.getD k nul] := by
  unfold filT
  rw [take_snoc hk, List.filter_append, List.filter_cons, if_pos h, List.filter_nil]
theorem filT_miss {p : Ky → Bool} {cat : List Ky} {k : Nat} (hk : k < cat.length) (h : p (cat.getD k nul) = false) : filT p cat (k + 1) = filT p cat k := by
  unfold filT
  rw [take_snoc hk, List.filter_append, List.filter_cons, if_neg (by rw [h]; simp), List.filter_nil, List.append_nil]
theorem filT_le (p : Ky → Bool) (cat : List Ky) (k : Nat) : (filT p cat k).length ≤ k :=
  Nat.le_trans (List.length_filter_le _ _) (by rw [List.length_take]; omega)
theorem filT_all {p : Ky → Bool} {cat : List Ky} {n : Nat} (h : cat.length = n) : filT p cat n = cat.filter p := by
  unfold filT
  rw [List.take_of_length_le (by omega)]
theorem own_keysE {w : World} {base e n : Nat} {v : Value} {L : List Ky} (hl : L.length = n) (h : w.ownsRow base e 2 v n (flat L)) : ∃ a c, v = .slice a n c ∧ KCells w a L := by
  rcases h.2 with ⟨rfl, h0⟩ | ⟨g, cap, cur, rfl, _, hg, hcap, _, _, ht⟩
  · subst h0
    exact ⟨none, 0, rfl, by rw [List.eq_nil_of_length_eq_zero hl]; exact no_keys _ _⟩
  · refine ⟨_, _, rfl, fun i hi => ⟨g, 0, rfl, ?_, ?_⟩⟩
    · rw [Nat.zero_add, World.ownsRow.cellAt h (i * 2) (by omega)]
      exact (flat_get L i hi).1
    · rw [Nat.zero_add, World.ownsRow.cellAt h (i * 2 + 1) (by omega)]
      exact (flat_get L i hi).2
theorem cells2_newE (w : World) (a b : ByteArray) (t : TypeId) : ∀ j u, [Value.string a, Value.string b][j]? = some u → (w.alloc (.cells #[.string a, .string b] t)).cell? ((⟨w.heap.size, 0, none⟩ : Addr).add j) = some u := by
  intro j u hj
  match j, hj with
  | 0, hj => simp at hj; subst hj; simp [Addr.add]
  | 1, hj => simp at hj; subst hj; simp [Addr.add]
/-- Behind one more append all old blocks stand. -/
theorem append_below {w wr w5 : World} {B : Nat} {v : Value} {o : Obj} {k : Nat} {xs : List Value} {e : TypeId} (hB : Below B w wr) (hBw : B ≤ w.heap.size) (hown : wr.ownsRow B e 2 v k xs) (hgrow : (wr.alloc o).grownBy w5 v.ownBlock) : Below B w w5 := by
  have hsz := hB.size
  refine (hB.alloc (by omega) o).grown hgrow (by simp; omega) fun b hb => (hown.lt b hb).1
theorem ownsRow_below {w w' : World} {base e n : Nat} {v : Value} {xs : List Value} (h : w.ownsRow base e 2 v n xs) (hb : Below w.heap.size w w') : w'.ownsRow base e 2 v n xs := by
  obtain ⟨h1, h2⟩ := h
  refine ⟨h1, ?_⟩
  rcases h2 with h2 | ⟨g, cap, cur, hv, hbg, hg, hr⟩
  · exact .inl h2
  · exact .inr ⟨g, cap, cur, hv, hbg, (hb.block g (Array.getElem?_eq_some_iff.1 hg).1).trans hg, hr⟩
theorem rowIs_below {w w' : World} {b t n : Nat} {f : Nat → Value} (h : w.rowIs b t n f) (hb : Below w.heap.size w w') : w'.rowIs b t n f := h.of_block (hb.block b h.lt)

/-- What the row 'known' holds behind k rounds. -/
def knownAt (cat G : List Ky) (k j : Nat) : Value := .bool (if j < k then inC cat (G.getD j nul) else false)
theorem known_start (w : World) (cat G : List Ky) (m : Nat) : (w.alloc (.cells (madeB m) 4)).rowIs w.heap.size 4 m (knownAt cat G 0) :=
  (World.rowIs_made w (.bool false) m 4).congr fun j _ => by simp [knownAt]
theorem known_step {cat G : List Ky} {k : Nat} {q : Ky} (he : G.getD k nul = q) (j : Nat) : (if j = k then Value.bool (inC cat q) else knownAt cat G k j) = knownAt cat G (k + 1) j := by
  unfold knownAt
  by_cases h : j = k
  · subst h
    rw [if_pos rfl, if_pos (by omega), he]
  · rw [if_neg h]
    by_cases h2 : j < k
    · rw [if_pos h2, if_pos (by omega)]
    · rw [if_neg h2, if_neg (by omega)]
theorem run_eql28 (w : World) (a : Option Addr) (n c : Nat) : (binOp .eql 28 (.slice a n c) (.slice none 0 0)).run Try.prog w = .ok (.bool a.isNone) w := Lib.run_eql_slice_nil (P := Try.prog) w 28 42 a n c 0 0 Try.underlying28
theorem eff_le {cat G : List Ky} {n : Nat} (h : cat.length = n) : (eff cat G).length ≤ n := h ▸ List.length_filter_le _ _
theorem sz_of_sm {q : Ky} (h : Sm q) : Sz q := ⟨by unfold maxLen; have := h.1; omega, by unfold maxLen; have := h.2; omega⟩
theorem CatOk.below {w w' : World} {Pb n : Nat} {L : List Ky} (h : CatOk w Pb n L) (hb : Below w.heap.size w w') : CatOk w' Pb n L := by
  obtain ⟨a, c, B, nn, h1, h2, h3, h4, h5, h6⟩ := h
  exact ⟨a, c, B, nn, (hb.cell (p := ⟨Pb, 0, none⟩) h6).trans h1, (hb.cell (p := ⟨Pb, 1, none⟩) h6).trans h2, h3.below hb, h4.below hb, h5, Nat.lt_of_lt_of_le h6 hb.size⟩
end Go.Proofs.Qxb6627432a
