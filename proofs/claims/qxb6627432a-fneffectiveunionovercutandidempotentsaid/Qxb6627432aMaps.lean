import Derived.Test.Qxb6627432aWalksC
import Derived.Maps.OwnSet
import Derived.Maps.OwnOps
import Derived.DeepKeys4
namespace Go.Proofs.Qxb6627432a
open Go.RowKit Go.Maps

theorem Try.laidOut : laidOutB Try.prog = true := by kernel_rfl
theorem Try.row42 : 42 < Try.prog.types.size := of_decide_eq_true (by kernel_rfl)
theorem Try.wide42 : (match Try.prog.underlying 42 with | some (.array _ _) | some (.struct _) => true | _ => false) = true := by rw [Try.underlying42]
theorem law : Keyed Try.prog 42 := Keyed.of_law (deep_law_laid Try.laidOut (m := 2) (by omega) Try.row42 (by kernel_rfl) Try.wide42)
theorem Try.cells9 : Try.prog.cellsOf 9 = 1 := by kernel_rfl
theorem Try.cells42 : Try.prog.cellsOf 42 = 2 := by kernel_rfl
theorem Try.keyType42 : Try.prog.keyType 42 = true := by kernel_rfl
theorem zero3 (w : World) : (zeroValue 3).run Try.prog w = .ok (.int .i64 0) w := by kernel_rfl

/-- What a key reads as. -/
def kl (q : Ky) : Lit := .string (keyBytes [.string q.1.data.toList, .string q.2.data.toList])
theorem lits9 (d : Nat) (s : ByteArray) (h : s.size ≤ maxLen) : Try.prog.keyLits (d + 1) 9 [.string s] = some [.string s.data.toList] := by
  unfold Program.keyLits
  rw [Try.underlying9]
  simp [h]
theorem key_of (a b : ByteArray) (ha : a.size ≤ maxLen) (hb : b.size ≤ maxLen) : keyOf Try.prog 42 (.agg #[.string a, .string b]) = some (kl (a, b)) := by
  unfold keyOf
  rw [Try.underlying42]
  have hf : Value.formed Try.prog 42 (.agg #[.string a, .string b]) = true := by
    simp [Value.formed, Try.underlying42, Try.cells42]
  obtain ⟨d, hd⟩ : ∃ d, Try.prog.types.size + 1 = d + 2 := ⟨_, by have := Try.row42; show _ = (Try.prog.types.size - 1) + 2; omega⟩
  simp only [Try.keyType42, hf, Bool.and_self, if_true, hd]
  unfold Program.keyLits
  rw [Try.underlying42]
  simp [Value.cells, Try.cells42, Try.cells9, lits9, ha, hb, kl]
theorem kl_inj {p q : Ky} (hp1 : p.1.size ≤ maxLen) (hp2 : p.2.size ≤ maxLen) (hq1 : q.1.size ≤ maxLen) (hq2 : q.2.size ≤ maxLen) (h : kl p = kl q) : p = q := by
  have := law.inj (key_of p.1 p.2 hp1 hp2) (by rw [show kl (p.1, p.2) = kl q from h]; exact key_of q.1 q.2 hq1 hq2)
  simp at this
  exact Prod.ext this.1 this.2

def Sz (q : Ky) : Prop := q.1.size ≤ maxLen ∧ q.2.size ≤ maxLen
/-- Block B is a map of at most nn entries that holds, at each key of M, its place in M. -/
def Idx (w : World) (B nn : Nat) (M : List Ky) : Prop :=
  ∃ D : DataW Unit, w.ownsMap Try.prog 42 (plainElem Try.prog 3) B nn D ∧ ∀ q, Sz q → Maps.has D (kl q) = inC M q ∧ ∀ i, i < M.length → M.getD i nul = q → D.atKey (kl q) (.lit (.int .i64 0)) = .lit (.int .i64 (i : Int))
theorem Idx.lt {w : World} {B nn : Nat} {M : List Ky} (h : Idx w B nn M) : B < w.heap.size := by
  obtain ⟨D, h, _⟩ := h
  exact h.lt
theorem Idx.of_block {w w' : World} {B nn : Nat} {M : List Ky} (h : Idx w B nn M) (e : w'.heap[B]? = w.heap[B]?) : Idx w' B nn M := by
  obtain ⟨D, ⟨es, clock, hb, hr⟩, hh⟩ := h
  exact ⟨D, ⟨es, clock, e.trans hb, hr⟩, hh⟩
theorem Idx.below {w w' : World} {B nn : Nat} {M : List Ky} (h : Idx w B nn M) (hb : Below w.heap.size w w') : Idx w' B nn M := h.of_block (hb.block B h.lt)
theorem Idx.drewN {w : World} {B nn : Nat} {M : List Ky} (h : Idx w B nn M) (n : Nat) : Idx (w.drewN n) B nn M := h.of_block rfl
theorem Idx.made (w : World) : Idx (w.alloc (.map #[] 0)) w.heap.size 0 [] :=
  ⟨.map [], World.ownsMap_made w _ _ _, fun q _ => ⟨rfl, fun i hi => absurd hi (by simp)⟩⟩
theorem Idx.yes {w : World} {B nn i : Nat} {M : List Ky} {a b : ByteArray} (h : Idx w B nn M) (hi : i < M.length) (he : M.getD i nul = (a, b)) (hs : Sz (a, b)) :
    (Instr.lookup 40 (.map (some B)) (.agg #[.string a, .string b]) true).run Try.prog w = .ok (.tuple #[.int .i64 (i : Int), .bool true]) w := by
  obtain ⟨D, hown, hh⟩ := h
  obtain ⟨h1, h2⟩ := hh (a, b) hs
  obtain ⟨v, ps, hrun, hv⟩ := hown.look_ok law Try.underlying40 (zero3 w) (plainElem_int Try.underlying3 (by decide)) (key_of a b hs.1 hs.2)
  rw [h2 i hi he] at hv
  obtain ⟨c, rfl, hc, _⟩ := plainElem_int_inv Try.underlying3 hv
  simp only [Prod.mk.injEq, DataW.lit.injEq, Lit.int.injEq, true_and] at hc
  rw [hrun, h1, show inC M (a, b) = true from inC_iff.2 (he ▸ getD_mem hi), hc.1]
theorem Idx.no {w : World} {B nn : Nat} {M : List Ky} {a b : ByteArray} (h : Idx w B nn M) (hn : inC M (a, b) = false) (hs : Sz (a, b)) :
    (Instr.lookup 40 (.map (some B)) (.agg #[.string a, .string b]) true).run Try.prog w = .ok (.tuple #[.int .i64 0, .bool false]) w := by
  obtain ⟨D, hown, hh⟩ := h
  obtain ⟨h1, h2⟩ := hh (a, b) hs
  rw [hn] at h1
  obtain ⟨v, ps, hrun, hv⟩ := hown.look_ok law Try.underlying40 (zero3 w) (plainElem_int Try.underlying3 (by decide)) (key_of a b hs.1 hs.2)
  rw [Maps.atKey_of_not_has h1] at hv
  obtain ⟨c, rfl, hc, _⟩ := plainElem_int_inv Try.underlying3 hv
  simp only [Prod.mk.injEq, DataW.lit.injEq, Lit.int.injEq, true_and] at hc
  rw [hrun, h1, ← hc.1]
theorem Idx.put {w : World} {B nn : Nat} {M : List Ky} {a b : ByteArray} (h : Idx w B nn M) (hn : inC M (a, b) = false) (hs : Sz (a, b)) (hnn : nn < 4097) (hlen : M.length < 4097) :
    ∃ w', (Instr.mapUpdate 40 (.map (some B)) (.agg #[.string a, .string b]) (.int .i64 (M.length : Int))).run Try.prog w = .ok () w' ∧ Idx w' B (nn + 1) (M ++ [(a, b)]) ∧ w.grownBy w' (some B) := by
  obtain ⟨D, hown, hh⟩ := h
  have hkey := key_of a b hs.1 hs.2
  obtain ⟨w', hrun, hown', hg⟩ := hown.update law Try.underlying40 (by unfold maxLen; omega) hkey (plainElem_int (a := (M.length : Int)) Try.underlying3 (WalkArith.wf_i64 (by omega)))
  refine ⟨w', hrun, ⟨_, hown', fun q hq => ?_⟩, hg⟩
  obtain ⟨h1, h2⟩ := hh q hq
  by_cases he : q = (a, b)
  · subst he
    refine ⟨?_, fun i hi hiq => ?_⟩
    · rw [Maps.has_put_same hown.isMap (law.key hkey)]
      symm; rw [inC_iff]; simp
    · rw [Maps.atKey_put_same hown.isMap (law.key hkey)]
      have : i = M.length := by
        rcases Nat.lt_or_ge i M.length with hlt | hge
        · exfalso
          have hm : M.getD i nul ∈ M := getD_mem hlt
          have e : (M ++ [(a, b)]).getD i nul = M.getD i nul := by simp [List.getElem?_append_left hlt]
          rw [← e, hiq] at hm
          rw [inC_iff.2 hm] at hn
          cases hn
        · simp at hi; omega
      rw [this]
  · have hne : kl q ≠ kl (a, b) := fun h => he (kl_inj hq.1 hq.2 hs.1 hs.2 h)
    refine ⟨?_, fun i hi hiq => ?_⟩
    · rw [Maps.has_put_other hne, h1, Bool.eq_iff_iff, inC_iff, inC_iff]
      simp [he]
    · rw [Maps.atKey_put_other hne]
      have hlt : i < M.length := by
        rcases Nat.lt_or_ge i M.length with hlt | hge
        · exact hlt
        · exfalso
          simp at hi
          have : i = M.length := by omega
          subst this
          simp at hiq
          exact he hiq.symm
      have e : (M ++ [(a, b)]).getD i nul = M.getD i nul := by simp [List.getElem?_append_left hlt]
      rw [e] at hiq
      exact h2 i hlt hiq
theorem run_make40 (n : Nat) (w : World) : (Instr.makeMap 40 (some (.int .i64 (n : Int)))).run Try.prog w = .ok (.map (some w.heap.size)) (w.alloc (.map #[] 0)) := by
  simp [Instr.makeMap, run_underlying Try.underlying40, asInt, asIntOf, newObj]
  rfl
end Go.Proofs.Qxb6627432a
