import Derived.Test.Qxb6627432aCat
namespace Go.Proofs.Qxb6627432a
open Go.RowKit Go.Maps

theorem Try.info4 : (Try.prog.info? 4).map (fun i => (i.zero, i.size, i.bytes)) = some (some (.bool false), 1, 1) := by kernel_rfl
def madeB (n : Nat) : Array Value := madeCells #[.bool false] n
theorem run_make31 (n : Nat) (hn : n ≤ 4096) (w : World) : (Instr.makeSlice 31 (.int .i64 (n : Int)) (.int .i64 (n : Int))).run Try.prog w = .ok (.slice (some ⟨w.heap.size, 0, none⟩) n n) (w.alloc (.cells (madeB n) 4)) :=
  run_make_row' 31 4 (.bool false) 1 Try.underlying31 Try.info4 rfl .i64 .i64 n (by omega) (by omega) w

/-- What the row 'held' holds behind the grants G. -/
def heldAt (cat G : List Ky) (j : Nat) : Value := .bool (heldB cat G (cat.getD j nul))
theorem madeB_row (w : World) (cat : List Ky) (n : Nat) : (w.alloc (.cells (madeB n) 4)).rowIs w.heap.size 4 n (heldAt cat []) :=
  (World.rowIs_made w (.bool false) n 4).congr fun _ _ => rfl
theorem new_cell0 {w : World} {g i nq : Nat} {r1 r2 : ByteArray} {v : Value} (hg : g < w.heap.size) :
    (((w.alloc (.cells #[.string r1, .string r2] 42)).drewN nq).setCell ⟨g, i, none⟩ v).cell? ⟨w.heap.size, 0, none⟩ = some (.string r1) := by
  have h1 : (((w.alloc (.cells #[.string r1, .string r2] 42)).drewN nq).setCell ⟨g, i, none⟩ v).cell? ⟨w.heap.size, 0, none⟩ = (w.alloc (.cells #[.string r1, .string r2] 42)).cell? ⟨w.heap.size, 0, none⟩ :=
    World.cell?_of_block (Below.heap_setCell _ _ _ _ (by simp; omega))
  rw [h1]; simp

theorem keq_at {cat : List Ky} (hd : Distinct cat) {i j : Nat} {q : Ky} (hi : i < cat.length) (hj : j < cat.length) (he : cat.getD i nul = q) : keq q (cat.getD j nul) = decide (j = i) := by
  rw [Bool.eq_iff_iff, decide_eq_true_eq]
  constructor
  · intro h
    rw [← he] at h
    exact (hd i j hi hj h).symm
  · rintro rfl
    rw [he]; exact keq_self q
theorem keq_none {cat : List Ky} {j : Nat} {q : Ky} (hj : j < cat.length) (h : inC cat q = false) : keq q (cat.getD j nul) = false := by
  cases hh : keq q (cat.getD j nul) with
  | false => rfl
  | true =>
    rw [keq_iff.1 hh, inC_iff.2 (getD_mem hj)] at h
    cases h
theorem held_skip {cat G : List Ky} {k : Nat} {q : Ky} (hk : k < G.length) (he : G.getD k nul = q) (hn : inC cat q = false) (j : Nat) : heldAt cat (G.take k) j = heldAt cat (G.take (k + 1)) j := by
  unfold heldAt
  rw [heldB_succ hk, he, heldBy, hn]
  simp
theorem held_one {cat G : List Ky} (hd : Distinct cat) {k i : Nat} {q : Ky} (hk : k < G.length) (he : G.getD k nul = q) (hi : i < cat.length) (hie : cat.getD i nul = q) (hr : inC cat (q.1, red) = false) (j : Nat) (hj : j < cat.length) :
    (if j = i then Value.bool true else heldAt cat (G.take k) j) = heldAt cat (G.take (k + 1)) j := by
  unfold heldAt
  rw [heldB_succ hk, he, heldBy, inC_iff.2 (hie ▸ getD_mem hi), keq_at hd hi hj hie, keq_none hj hr]
  by_cases h : j = i
  · simp [h]
  · simp [h]
theorem held_two {cat G : List Ky} (hd : Distinct cat) {k i i2 : Nat} {q : Ky} (hk : k < G.length) (he : G.getD k nul = q) (hi : i < cat.length) (hie : cat.getD i nul = q) (hi2 : i2 < cat.length) (hie2 : cat.getD i2 nul = (q.1, red)) (j : Nat) (hj : j < cat.length) :
    (if j = i2 then Value.bool true else if j = i then Value.bool true else heldAt cat (G.take k) j) = heldAt cat (G.take (k + 1)) j := by
  unfold heldAt
  rw [heldB_succ hk, he, heldBy, inC_iff.2 (hie ▸ getD_mem hi), keq_at hd hi hj hie, keq_at hd hi2 hj hie2]
  by_cases h2 : j = i2
  · simp [h2]
  · by_cases h : j = i
    · subst h; simp [h2]
    · simp [h, h2]

/-! ### The keys gathered -/
def flat (L : List Ky) : List Value := L.flatMap fun q => [.string q.1, .string q.2]
theorem flat_snoc (L : List Ky) (q : Ky) : flat (L ++ [q]) = flat L ++ [.string q.1, .string q.2] := by simp [flat]
theorem flat_length : ∀ L : List Ky, (flat L).length = L.length * 2
  | [] => rfl
  | q :: L => by
    have := flat_length L
    unfold flat at this ⊢
    simp [this]; omega
theorem flat_get : ∀ (L : List Ky) (i : Nat), i < L.length → (flat L)[i * 2]? = some (.string (L.getD i nul).1) ∧ (flat L)[i * 2 + 1]? = some (.string (L.getD i nul).2)
  | [], i, h => absurd h (by simp)
  | q :: L, 0, _ => by simp [flat]
  | q :: L, i + 1, h => by
    have h' : i < L.length := by simpa using h
    obtain ⟨h1, h2⟩ := flat_get L i h'
    have e : flat (q :: L) = .string q.1 :: .string q.2 :: flat L := rfl
    rw [e, show (i + 1) * 2 = i * 2 + 1 + 1 by omega]
    simp only [List.getElem?_cons_succ, List.getD_cons_succ]
    exact ⟨h1, h2⟩
theorem own_keys {w : World} {base n : Nat} {v : Value} {L : List Ky} (hl : L.length = n) (h : w.ownsRow base 42 2 v n (flat L)) :
    ∃ a c, v = .slice a n c ∧ KCells w a L ∧ (a = none → n = 0 ∧ c = 0) ∧ n ≤ c ∧ (∀ x, a = some x → x.spot = none ∧ x.off = 0) := by
  rcases h.2 with ⟨rfl, h0⟩ | ⟨g, cap, cur, rfl, _, hg, hcap, _, _, ht⟩
  · subst h0
    exact ⟨none, 0, rfl, by rw [List.eq_nil_of_length_eq_zero hl]; exact no_keys _ _, fun _ => ⟨rfl, rfl⟩, Nat.le_refl _, fun x hx => by simp at hx⟩
  · refine ⟨_, _, rfl, fun i hi => ⟨g, 0, rfl, ?_, ?_⟩, fun h => by simp at h, hcap, fun x hx => by simp at hx; subst hx; exact ⟨rfl, rfl⟩⟩
    · rw [Nat.zero_add, World.ownsRow.cellAt h (i * 2) (by omega)]
      exact (flat_get L i hi).1
    · rw [Nat.zero_add, World.ownsRow.cellAt h (i * 2 + 1) (by omega)]
      exact (flat_get L i hi).2
def gath (cat G : List Ky) (k : Nat) : List Ky := (cat.take k).filter (heldB cat G)
theorem gath_hit {cat G : List Ky} {k : Nat} (hk : k < cat.length) (h : heldB cat G (cat.getD k nul) = true) : gath cat G (k + 1) = gath cat G k ++ [cat.getD k nul] := by
  unfold gath
  rw [take_snoc hk, List.filter_append, List.filter_cons, if_pos h, List.filter_nil]
theorem gath_miss {cat G : List Ky} {k : Nat} (hk : k < cat.length) (h : heldB cat G (cat.getD k nul) = false) : gath cat G (k + 1) = gath cat G k := by
  unfold gath
  rw [take_snoc hk, List.filter_append, List.filter_cons, if_neg (by rw [h]; simp), List.filter_nil, List.append_nil]
theorem gath_le (cat G : List Ky) (k : Nat) : (gath cat G k).length ≤ k :=
  Nat.le_trans (List.length_filter_le _ _) (by rw [List.length_take]; omega)
theorem gath_all {cat G : List Ky} {n : Nat} (h : cat.length = n) : gath cat G n = eff cat G := by
  unfold gath eff
  rw [List.take_of_length_le (by omega)]

/-- What Effective hands back. -/
def EffPost (w : World) (L : List Ky) (e : Ending) (w' : World) : Prop :=
  ∃ a c, e = .returned (.slice a L.length c) ∧ KCells w' a L ∧ (L = [] → a = none ∧ c = 0) ∧ (a = none → L.length = 0 ∧ c = 0) ∧ L.length ≤ c ∧ Below w.heap.size w w'
theorem eff_post {w w' : World} {base : Nat} {v : Value} {L : List Ky} {e : Ending} (he : e = .returned v) (h : w'.ownsRow base 42 2 v L.length (flat L)) (hnil : L = [] → v = .slice none 0 0) (hb : Below w.heap.size w w') : EffPost w L e w' := by
  obtain ⟨a, c, rfl, h1, h2, h3, _⟩ := own_keys rfl h
  refine ⟨a, c, he, h1, fun h => ?_, h2, h3, hb⟩
  have := hnil h
  simp only [Value.slice.injEq] at this
  exact ⟨this.1, this.2.2⟩
theorem cells2_new (w : World) (a b : ByteArray) (o : Obj) : ∀ j u, [Value.string a, Value.string b][j]? = some u → ((w.alloc o).alloc (.cells #[.string a, .string b] 42)).cell? ((⟨w.heap.size + 1, 0, none⟩ : Addr).add j) = some u := by
  intro j u hj
  match j, hj with
  | 0, hj => simp at hj; subst hj; simp [Addr.add]
  | 1, hj => simp at hj; subst hj; simp [Addr.add]
theorem two_strs (a b : ByteArray) : ∀ u ∈ [Value.string a, Value.string b], u.oneCell' = true := by simp [Value.oneCell']
end Go.Proofs.Qxb6627432a
