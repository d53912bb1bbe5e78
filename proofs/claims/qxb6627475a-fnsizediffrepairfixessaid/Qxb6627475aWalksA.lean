import Derived.Test.Qxb6627475aRows
import Derived.Test.Qxb6627475aPlain
import Derived.WalkKit
import Derived.WalkSpells
import Derived.WalkLawsBesides
import Derived.Laws.StructEq
import Derived.Deep.QuietTactic
import Derived.Deep.OwnRows
import Derived.BigQuiet
namespace Go.Proofs.Qxb6627475a
open Go.RowKit

theorem ret_bool {a b : Bool} (h : a = b) : Ending.returned (.bool a) = .returned (.bool b) := by rw [h]
theorem ret_int {a b : Int} (h : a = b) : Ending.returned (.int .i64 a) = .returned (.int .i64 b) := by rw [h]
theorem below_drewN {B : Nat} {a w : World} (h : Below B a w) (n : Nat) : Below B a (w.drewN n) := ⟨h.os, h.tape, h.output, h.size, h.block⟩

/-- Cell i of a seat. -/
def cellOf (s : Se) (i : Nat) : Value := .bool (if i = 0 then s.1 else if i = 1 then s.2.1 else if i = 2 then s.2.2.1 else if i = 3 then s.2.2.2.1 else s.2.2.2.2)
/-- The five cells of a seat at an address. -/
def SeatAt (w : World) (b o : Nat) (s : Se) : Prop :=
  w.cell? ⟨b, o, none⟩ = some (.bool s.1) ∧ w.cell? ⟨b, o + 1, none⟩ = some (.bool s.2.1) ∧ w.cell? ⟨b, o + 2, none⟩ = some (.bool s.2.2.1) ∧ w.cell? ⟨b, o + 3, none⟩ = some (.bool s.2.2.2.1) ∧ w.cell? ⟨b, o + 4, none⟩ = some (.bool s.2.2.2.2)
/-- The slice 'a' leads to the seats S, five cells a seat. -/
def SCells (w : World) (a : Option Addr) (S : List Se) : Prop := ∀ i, i < S.length → ∃ b off, a = some ⟨b, off, none⟩ ∧ SeatAt w b (off + i * 5) (S.getD i nul)
theorem SCells.form {w : World} {a : Option Addr} {S : List Se} {k : Nat} (h : SCells w a S) (hk : k < S.length) : ∃ b off, a = some ⟨b, off, none⟩ ∧ b < w.heap.size ∧ SeatAt w b (off + k * 5) (S.getD k nul) := by
  obtain ⟨b, off, h1, h2⟩ := h k hk
  exact ⟨b, off, h1, World.block_lt_of_cell? w _ h2.1, h2⟩
theorem no_seats (w : World) (a : Option Addr) : SCells w a [] := fun i hi => absurd hi (by simp)
theorem SeatAt.below {w w' : World} {B b o : Nat} {s : Se} (h : SeatAt w b o s) (hb : Below B w w') (hlt : b < B) : SeatAt w' b o s := by
  obtain ⟨h0, h1, h2, h3, h4⟩ := h
  exact ⟨(hb.cell (p := ⟨b, o, none⟩) hlt).trans h0, (hb.cell (p := ⟨b, o + 1, none⟩) hlt).trans h1, (hb.cell (p := ⟨b, o + 2, none⟩) hlt).trans h2, (hb.cell (p := ⟨b, o + 3, none⟩) hlt).trans h3, (hb.cell (p := ⟨b, o + 4, none⟩) hlt).trans h4⟩
theorem SCells.below {w w' : World} {a : Option Addr} {S : List Se} (h : SCells w a S) (hb : Below w.heap.size w w') : SCells w' a S := by
  intro i hi
  obtain ⟨b, off, h1, hlt, h2⟩ := h.form hi
  exact ⟨b, off, h1, h2.below hb hlt⟩

set_option maxHeartbeats 400000 in
theorem votes13 (a b c d e : Bool) (w : World) :
    Calls Try.prog 13 #[.agg #[.bool a, .bool b, .bool c, .bool d, .bool e]] w fun r w' => r = .returned (.bool (b && !c)) ∧ Below w.heap.size w w' := by
  cases b
  · go_enter Try.func13, Try.ntmps13
    go_wp2
    go_ret
    exact ⟨rfl, (Below.refl _ _).alloc (Nat.le_refl _) _⟩
  · go_enter Try.func13, Try.ntmps13
    go_wp2
    go_ret
    exact ⟨ret_bool (by simp), (Below.refl _ _).alloc (Nat.le_refl _) _⟩

set_option maxHeartbeats 1000000 in
theorem sized12 (R : Int) (kn : Bool) (a : Option Addr) (n c : Nat) (S : List Se) (HL : Hid (S.length = n)) (w : World) (hn : n ≤ 1000000) (hc : SCells w a S) :
    Calls Try.prog 12 #[.agg #[.int .i64 R, .bool kn, .slice a n c]] w fun e w' => e = .returned (.bool (sizedB R kn S)) ∧ Below w.heap.size w w' := by
  cases kn with
  | false =>
    go_enter Try.func12, Try.ntmps12
    go_wp2
    go_ret
    exact ⟨rfl, (Below.refl _ _).alloc (Nat.le_refl _) _⟩
  | true =>
    by_cases hR : (n : Int) < R
    · go_enter Try.func12, Try.ntmps12
      go_wp2
      go_ret
      exact ⟨ret_bool (sized_big (by rw [HL.out]; exact hR)).symm, (Below.refl _ _).alloc (Nat.le_refl _) _⟩
    have HC : Hid (SCells w a S) := hc
    clear hc
    go_enter Try.func12, Try.ntmps12
    go_wp2
    go_loopw [20] (fun i wr => ∃ k : Nat, k ≤ n ∧ i = .int .i64 k ∧ Hid (∀ j, j < k → good R j (S.getD j nul) = true) ∧ Below (w.heap.size + 1) (w.alloc (.cells #[.int .i64 R, .bool true, .slice a n c] 34)) wr) (fun i _ => n - (intOf i).toNat)
    case atStart => exact ⟨0, Nat.zero_le _, rfl, fun j hj => absurd hj (by omega), Below.refl _ _⟩
    case round =>
      obtain ⟨k, hk, rfl, hall, hbel⟩ := hrel
      have hB : Below w.heap.size w wr := ((Below.refl w.heap.size w).alloc (Nat.le_refl _) _).trans (hbel.mono (by omega))
      by_cases hlt : k < n
      · have HK : Hid (k < S.length) := by rw [Hid, HL.out]; exact hlt
        obtain ⟨b, off, hga, hb, hseat⟩ := HC.out.form HK.out
        obtain ⟨c0, c1, c2, c3, c4⟩ := hseat.below hB hb
        clear hseat
        subst hga
        have m0 : wr.cell? ⟨w.heap.size, 0, none⟩ = some (.int .i64 R) := (hbel.cell (p := ⟨w.heap.size, 0, none⟩) (by simp)).trans (by simp)
        have hgr : w.heap.size + 1 ≤ wr.heap.size := by have := hbel.size; simpa using this
        have hgr' : w.heap.size < wr.heap.size := by omega
        have hnext : Hid (good R k (S.getD k nul) = true → ∀ j, j < k + 1 → good R j (S.getD j nul) = true) := fun h j hj => by
          by_cases e : j = k
          · subst e; exact h
          · exact hall.out j (by omega)
        have hstop : Hid (good R k (S.getD k nul) = false → false = sizedB R true S) := fun h => by
          cases hh : sizedB R true S with
          | false => rfl
          | true =>
            have := (sizedB_iff.1 hh).2.2 k HK.out
            rw [h] at this
            cases this
        clear hall
        generalize S.getD k nul = s at *
        obtain ⟨s0, s1, s2, s3, s4⟩ := s
        simp only at c0 c1 c2 c3 c4
        have hbA : Below (w.heap.size + 1) (w.alloc (.cells #[.int .i64 R, .bool true, .slice (some ⟨b, off, none⟩) n c] 34)) (wr.alloc (.cells #[.bool s0, .bool s1, .bool s2, .bool s3, .bool s4] 32)) := hbel.alloc hgr _
        have hBA : Below w.heap.size w (wr.alloc (.cells #[.bool s0, .bool s1, .bool s2, .bool s3, .bool s4] 32)) := hB.alloc hB.size _
        by_cases hnm : (k : Int) < R
        · have HGd : Hid (good R k (s0, s1, s2, s3, s4) = (s0 && (s1 && !s2))) := by unfold good; rw [if_pos hnm]; rfl
          cases s0 with
          | false =>
            go_wp2
            go_ret
            exact ⟨ret_bool (hstop.out (by rw [HGd.out]; rfl)), hBA⟩
          | true =>
            go_wp2_with fail
            refine (votes13 true s1 s2 s3 s4 _).mono ?_
            rintro e w5 ⟨rfl, hb5⟩
            have hb5' : Below (w.heap.size + 1) (w.alloc (.cells #[.int .i64 R, .bool true, .slice (some ⟨b, off, none⟩) n c] 34)) w5 := hbA.trans (hb5.mono (by simp; omega))
            have hB5 : Below w.heap.size w w5 := hBA.trans (hb5.mono (by simp; omega))
            clear hb5
            cases hv : (s1 && !s2) with
            | false =>
              go_wp2
              go_ret
              exact ⟨ret_bool (hstop.out (by rw [HGd.out, hv]; rfl)), hB5⟩
            | true =>
              go_wp2
              go_roundw
              case rel => exact ⟨k + 1, by omega, by go_num, hnext.out (by rw [HGd.out, hv]; rfl), hb5'⟩
              case measure => simp [intOf]; omega
        · have HGd : Hid (good R k (s0, s1, s2, s3, s4) = !(s0 || s1)) := by unfold good; rw [if_neg hnm]; rfl
          cases s0 with
          | true =>
            go_wp2
            go_ret
            exact ⟨ret_bool (hstop.out (by rw [HGd.out]; rfl)), hBA⟩
          | false =>
            cases s1 with
            | true =>
              go_wp2
              go_ret
              exact ⟨ret_bool (hstop.out (by rw [HGd.out]; rfl)), hBA⟩
            | false =>
              go_wp2
              go_roundw
              case rel => exact ⟨k + 1, by omega, by go_num, hnext.out (by rw [HGd.out]; rfl), hbA⟩
              case measure => simp [intOf]; omega
      · go_wp2
        go_ret
        exact ⟨ret_bool (sizedB_iff.2 ⟨rfl, by have := HL.out; omega, fun i hi => hall.out i (by have := HL.out; omega)⟩).symm, hB⟩

set_option maxHeartbeats 400000 in
theorem sized7 (R : Int) (kn : Bool) (a : Option Addr) (n c : Nat) (S : List Se) (HL : Hid (S.length = n)) (w : World) (hn : n ≤ 1000000) (hc : SCells w a S) :
    Calls Try.prog 7 #[.int .i64 R, .bool kn, .slice a n c] w fun e w' => e = .returned (.bool (sizedB R kn S)) ∧ Below w.heap.size w w' := by
  have HC : Hid (SCells w a S) := hc
  clear hc
  go_enter Try.func7, Try.ntmps7
  go_wp2_with fail
  have hb : Below w.heap.size w (w.alloc (.cells #[.int .i64 R, .bool kn, .slice a n c] 34)) := (Below.refl _ _).alloc (Nat.le_refl _) _
  refine (sized12 R kn a n c S HL _ hn (HC.out.below hb)).mono ?_
  rintro e w1 ⟨rfl, hb1⟩
  have hb1' : Below w.heap.size w w1 := hb.trans (hb1.mono (by simp))
  clear hb hb1
  go_wp2
  go_ret
  exact ⟨rfl, hb1'⟩

set_option maxHeartbeats 400000 in
theorem nonneg10 (x : Int) (w : World) : Calls Try.prog 10 #[.int .i64 x] w fun e w' => e = .returned (.int .i64 (nonneg x)) ∧ w' = w := by
  by_cases h : x < 0
  · go_enter Try.func10, Try.ntmps10
    go_wp2
    go_ret
    exact ⟨ret_int (by unfold nonneg; rw [if_pos h]), rfl⟩
  · go_enter Try.func10, Try.ntmps10
    go_wp2
    go_ret
    exact ⟨ret_int (by unfold nonneg; rw [if_neg (by omega)]), rfl⟩

def SomeBool (n : Nat) (e : Ending) : Prop := ∃ b, e = .returned (.bool b) ∧ (b = true → n ≤ 1048576)
theorem SomeBool.no {n : Nat} {e : Ending} (h : e = .returned (.bool false)) : SomeBool n e := ⟨false, h, by simp⟩
theorem SomeBool.yes {n : Nat} {e : Ending} (h : e = .returned (.bool true)) (hn : n ≤ 1048576) : SomeBool n e := ⟨true, h, fun _ => hn⟩

set_option maxHeartbeats 400000 in
theorem bytes5 (R : Int) (kn : Bool) (a : Option Addr) (n c : Nat) (O : Int) (w : World) (hn : n ≤ 9223372036854775807) :
    Calls Try.prog 5 #[.int .i64 R, .bool kn, .slice a n c, .int .i64 O] w fun e w' => SomeBool n e ∧ w' = w := by
  by_cases h : 1048576 < n
  · go_enter Try.func5, Try.ntmps5
    go_wp2
    go_ret
    exact ⟨.no rfl, rfl⟩
  · go_enter Try.func5, Try.ntmps5
    go_wp2
    go_ret
    exact ⟨.yes rfl (by omega), rfl⟩

set_option maxHeartbeats 400000 in
theorem bytes11 (R : Int) (kn : Bool) (a : Option Addr) (n c : Nat) (O : Int) (w : World) (hn : n ≤ 9223372036854775807) :
    Calls Try.prog 11 #[.int .i64 R, .bool kn, .slice a n c, .int .i64 O] w fun e w' => SomeBool n e ∧ w' = w := by
  by_cases h : 1048576 < n
  · go_enter Try.func11, Try.ntmps11
    go_wp2
    go_ret
    exact ⟨.no rfl, rfl⟩
  · go_enter Try.func11, Try.ntmps11
    go_wp2
    go_ret
    exact ⟨.yes rfl (by omega), rfl⟩
end Go.Proofs.Qxb6627475a
