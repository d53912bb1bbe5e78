import Derived.Test.Qxb6627432aEff
namespace Go.Proofs.Qxb6627432a
open Go.RowKit Go.Maps

def Sm (q : Ky) : Prop := q.1.size ≤ 1048576 ∧ q.2.size ≤ 1048576
/-- 'it answers a bool; where it says yes every string is short'. -/
def Bnd (L G : List Ky) (e : Ending) : Prop := ∃ b, e = .returned (.bool b) ∧ (b = true → (∀ q ∈ L, Sm q) ∧ ∀ q ∈ G, Sm q)
theorem Bnd.no {L G : List Ky} {e : Ending} (h : e = .returned (.bool false)) : Bnd L G e := ⟨false, h, by simp⟩
theorem Bnd.yes {L G : List Ky} {e : Ending} (h : e = .returned (.bool true)) (h1 : ∀ j, j < L.length → Sm (L.getD j nul)) (h2 : ∀ j, j < G.length → Sm (G.getD j nul)) : Bnd L G e :=
  ⟨true, h, fun _ => ⟨fun q hq => by obtain ⟨i, hi, rfl⟩ := mem_getD hq; exact h1 i hi, fun q hq => by obtain ⟨i, hi, rfl⟩ := mem_getD hq; exact h2 i hi⟩⟩
theorem all_step {L : List Ky} {k : Nat} {p : Ky → Prop} (h : ∀ j, j < k → p (L.getD j nul)) (hk : p (L.getD k nul)) : ∀ j, j < k + 1 → p (L.getD j nul) := fun j hj => by
  by_cases e : j = k
  · subst e; exact hk
  · exact h j (by omega)

set_option maxHeartbeats 1000000 in
theorem bytes5 (a a' : Option Addr) (n c m c' : Nat) (L G : List Ky) (HL : Hid (L.length = n)) (HG : Hid (G.length = m)) (w : World) (hn : n ≤ 9223372036854775807) (hm : m ≤ 9223372036854775807) (hs : ∀ q ∈ L, Sz q) (hs' : ∀ q ∈ G, Sz q) (hc : KCells w a L) (hc' : KCells w a' G) :
    Calls Try.prog 5 #[.slice a n c, .slice a' m c'] w fun e w' => Bnd L G e ∧ w' = w := by
  have HC : Hid (KCells w a L) := hc
  have HC' : Hid (KCells w a' G) := hc'
  have HS : Hid (∀ q ∈ L, Sz q) := hs
  have HS' : Hid (∀ q ∈ G, Sz q) := hs'
  clear hc hc' hs hs'
  by_cases h1 : 1048576 < n
  · go_enter Try.func5, Try.ntmps5
    go_wp2
    go_ret
    exact ⟨.no rfl, rfl⟩
  go_enter Try.func5, Try.ntmps5
  go_wp2
  go_loop [5, 6] (fun t i => ∃ k z : Nat, k ≤ n ∧ i = .int .i64 k ∧ t = .int .i64 z ∧ z ≤ 1048576 ∧ Hid (∀ j, j < k → Sm (L.getD j nul))) (fun _ i => n - (intOf i).toNat)
  case atStart => exact ⟨0, n, Nat.zero_le _, rfl, by go_num, by omega, fun j hj => absurd hj (by omega)⟩
  case round =>
    obtain ⟨k, z, hk, rfl, rfl, hz, hall⟩ := hrel
    by_cases hlt : k < n
    · have HK : Hid (k < L.length) := by rw [Hid, HL.out]; exact hlt
      obtain ⟨b, off, hga, hb, c1, c2⟩ := HC.out.form' HK.out
      have hsz := HS.out _ (getD_mem HK.out)
      have hst : Hid (Sm (L.getD k nul) → ∀ j, j < k + 1 → Sm (L.getD j nul)) := all_step hall.out
      subst hga
      generalize L.getD k nul = r at *
      obtain ⟨r1, r2⟩ := r
      simp only [Sz, maxLen] at c1 c2 hsz
      by_cases g1 : 1048576 < r1.size
      · go_wp2
        go_ret
        exact ⟨.no rfl, rfl⟩
      by_cases g2 : 1048576 < z + r1.size
      · go_wp2
        go_ret
        exact ⟨.no rfl, rfl⟩
      by_cases g3 : 1048576 < r2.size
      · go_wp2
        go_ret
        exact ⟨.no rfl, rfl⟩
      by_cases g4 : 1048576 < z + r1.size + r2.size
      · go_wp2
        go_ret
        exact ⟨.no rfl, rfl⟩
      go_wp2
      go_round
      case rel => exact ⟨k + 1, z + r1.size + r2.size, by omega, by go_num, by go_num, by omega, hst.out ⟨by show r1.size ≤ 1048576; omega, by show r2.size ≤ 1048576; omega⟩⟩
      case measure => simp [intOf]; omega
    · obtain rfl : k = n := by omega
      clear hlt hk
      by_cases g1 : 1048576 < m
      · go_wp2
        go_ret
        exact ⟨.no rfl, rfl⟩
      by_cases g2 : 1048576 < z + m
      · go_wp2
        go_ret
        exact ⟨.no rfl, rfl⟩
      go_wp2
      go_loop [5, 7] (fun t i => ∃ j z : Nat, j ≤ m ∧ i = .int .i64 j ∧ t = .int .i64 z ∧ z ≤ 1048576 ∧ Hid (∀ i, i < j → Sm (G.getD i nul))) (fun _ i => m - (intOf i).toNat)
      case atStart => exact ⟨0, z + m, Nat.zero_le _, rfl, by go_num, by omega, fun j hj => absurd hj (by omega)⟩
      case round =>
        obtain ⟨j, y, hj, rfl, rfl, hy, hall'⟩ := hrel
        by_cases hlt : j < m
        · have HK : Hid (j < G.length) := by rw [Hid, HG.out]; exact hlt
          obtain ⟨b, off, hga, hb, c1, c2⟩ := HC'.out.form' HK.out
          have hsz := HS'.out _ (getD_mem HK.out)
          have hst : Hid (Sm (G.getD j nul) → ∀ i, i < j + 1 → Sm (G.getD i nul)) := all_step hall'.out
          subst hga
          generalize G.getD j nul = r at *
          obtain ⟨r1, r2⟩ := r
          simp only [Sz, maxLen] at c1 c2 hsz
          by_cases g1 : 1048576 < r1.size
          · go_wp2
            go_ret
            exact ⟨.no rfl, rfl⟩
          by_cases g2 : 1048576 < y + r1.size
          · go_wp2
            go_ret
            exact ⟨.no rfl, rfl⟩
          by_cases g3 : 1048576 < r2.size
          · go_wp2
            go_ret
            exact ⟨.no rfl, rfl⟩
          by_cases g4 : 1048576 < y + r1.size + r2.size
          · go_wp2
            go_ret
            exact ⟨.no rfl, rfl⟩
          go_wp2
          go_round
          case rel => exact ⟨j + 1, y + r1.size + r2.size, by omega, by go_num, by go_num, by omega, hst.out ⟨by show r1.size ≤ 1048576; omega, by show r2.size ≤ 1048576; omega⟩⟩
          case measure => simp [intOf]; omega
        · obtain rfl : j = m := by omega
          go_wp2
          go_ret
          exact ⟨.yes rfl (fun i hi => hall.out i (by have := HL.out; omega)) (fun i hi => hall'.out i (by have := HG.out; omega)), rfl⟩

set_option maxHeartbeats 1000000 in
theorem bytes13 (a a' : Option Addr) (n c m c' : Nat) (cut : Int) (L G : List Ky) (HL : Hid (L.length = n)) (HG : Hid (G.length = m)) (w : World) (hn : n ≤ 9223372036854775807) (hm : m ≤ 9223372036854775807) (hs : ∀ q ∈ L, Sz q) (hs' : ∀ q ∈ G, Sz q) (hc : KCells w a L) (hc' : KCells w a' G) :
    Calls Try.prog 13 #[.slice a n c, .slice a' m c', .int .i64 cut] w fun e w' => Bnd L G e ∧ w' = w := by
  have HC : Hid (KCells w a L) := hc
  have HC' : Hid (KCells w a' G) := hc'
  have HS : Hid (∀ q ∈ L, Sz q) := hs
  have HS' : Hid (∀ q ∈ G, Sz q) := hs'
  clear hc hc' hs hs'
  by_cases h1 : 1048576 < n
  · go_enter Try.func13, Try.ntmps13
    go_wp2
    go_ret
    exact ⟨.no rfl, rfl⟩
  go_enter Try.func13, Try.ntmps13
  go_wp2
  go_loop [7, 8] (fun t i => ∃ k z : Nat, k ≤ n ∧ i = .int .i64 k ∧ t = .int .i64 z ∧ z ≤ 1048576 ∧ Hid (∀ j, j < k → Sm (L.getD j nul))) (fun _ i => n - (intOf i).toNat)
  case atStart => exact ⟨0, n, Nat.zero_le _, rfl, by go_num, by omega, fun j hj => absurd hj (by omega)⟩
  case round =>
    obtain ⟨k, z, hk, rfl, rfl, hz, hall⟩ := hrel
    by_cases hlt : k < n
    · have HK : Hid (k < L.length) := by rw [Hid, HL.out]; exact hlt
      obtain ⟨b, off, hga, hb, c1, c2⟩ := HC.out.form' HK.out
      have hsz := HS.out _ (getD_mem HK.out)
      have hst : Hid (Sm (L.getD k nul) → ∀ j, j < k + 1 → Sm (L.getD j nul)) := all_step hall.out
      subst hga
      generalize L.getD k nul = r at *
      obtain ⟨r1, r2⟩ := r
      simp only [Sz, maxLen] at c1 c2 hsz
      by_cases g1 : 1048576 < r1.size
      · go_wp2
        go_ret
        exact ⟨.no rfl, rfl⟩
      by_cases g2 : 1048576 < z + r1.size
      · go_wp2
        go_ret
        exact ⟨.no rfl, rfl⟩
      by_cases g3 : 1048576 < r2.size
      · go_wp2
        go_ret
        exact ⟨.no rfl, rfl⟩
      by_cases g4 : 1048576 < z + r1.size + r2.size
      · go_wp2
        go_ret
        exact ⟨.no rfl, rfl⟩
      go_wp2
      go_round
      case rel => exact ⟨k + 1, z + r1.size + r2.size, by omega, by go_num, by go_num, by omega, hst.out ⟨by show r1.size ≤ 1048576; omega, by show r2.size ≤ 1048576; omega⟩⟩
      case measure => simp [intOf]; omega
    · obtain rfl : k = n := by omega
      clear hlt hk
      by_cases g1 : 1048576 < m
      · go_wp2
        go_ret
        exact ⟨.no rfl, rfl⟩
      by_cases g2 : 1048576 < z + m
      · go_wp2
        go_ret
        exact ⟨.no rfl, rfl⟩
      go_wp2
      go_loop [7, 9] (fun t i => ∃ j z : Nat, j ≤ m ∧ i = .int .i64 j ∧ t = .int .i64 z ∧ z ≤ 1048576 ∧ Hid (∀ i, i < j → Sm (G.getD i nul))) (fun _ i => m - (intOf i).toNat)
      case atStart => exact ⟨0, z + m, Nat.zero_le _, rfl, by go_num, by omega, fun j hj => absurd hj (by omega)⟩
      case round =>
        obtain ⟨j, y, hj, rfl, rfl, hy, hall'⟩ := hrel
        by_cases hlt : j < m
        · have HK : Hid (j < G.length) := by rw [Hid, HG.out]; exact hlt
          obtain ⟨b, off, hga, hb, c1, c2⟩ := HC'.out.form' HK.out
          have hsz := HS'.out _ (getD_mem HK.out)
          have hst : Hid (Sm (G.getD j nul) → ∀ i, i < j + 1 → Sm (G.getD i nul)) := all_step hall'.out
          subst hga
          generalize G.getD j nul = r at *
          obtain ⟨r1, r2⟩ := r
          simp only [Sz, maxLen] at c1 c2 hsz
          by_cases g1 : 1048576 < r1.size
          · go_wp2
            go_ret
            exact ⟨.no rfl, rfl⟩
          by_cases g2 : 1048576 < y + r1.size
          · go_wp2
            go_ret
            exact ⟨.no rfl, rfl⟩
          by_cases g3 : 1048576 < r2.size
          · go_wp2
            go_ret
            exact ⟨.no rfl, rfl⟩
          by_cases g4 : 1048576 < y + r1.size + r2.size
          · go_wp2
            go_ret
            exact ⟨.no rfl, rfl⟩
          go_wp2
          go_round
          case rel => exact ⟨j + 1, y + r1.size + r2.size, by omega, by go_num, by go_num, by omega, hst.out ⟨by show r1.size ≤ 1048576; omega, by show r2.size ≤ 1048576; omega⟩⟩
          case measure => simp [intOf]; omega
        · obtain rfl : j = m := by omega
          go_wp2
          go_ret
          exact ⟨.yes rfl (fun i hi => hall.out i (by have := HL.out; omega)) (fun i hi => hall'.out i (by have := HG.out; omega)), rfl⟩

/-- 'it answers an int'. -/
def SomeInt (e : Ending) : Prop := ∃ x : Int, e = .returned (.int .i64 x)

set_option maxHeartbeats 1000000 in
theorem size6 (a a' : Option Addr) (n c m c' : Nat) (L G : List Ky) (HL : Hid (L.length = n)) (HG : Hid (G.length = m)) (w : World) (hn : n ≤ 4096) (hm : m ≤ 4096) (hs : ∀ q ∈ L, Sm q) (hs' : ∀ q ∈ G, Sm q) (hc : KCells w a L) (hc' : KCells w a' G) :
    Calls Try.prog 6 #[.slice a n c, .slice a' m c'] w fun e w' => SomeInt e ∧ w' = w := by
  have HC : Hid (KCells w a L) := hc
  have HC' : Hid (KCells w a' G) := hc'
  have HS : Hid (∀ q ∈ L, Sm q) := hs
  have HS' : Hid (∀ q ∈ G, Sm q) := hs'
  clear hc hc' hs hs'
  go_enter Try.func6, Try.ntmps6
  go_wp2
  go_loop [5, 6] (fun t i => ∃ k z : Nat, k ≤ n ∧ i = .int .i64 k ∧ t = .int .i64 z ∧ z ≤ 1048576) (fun _ i => n - (intOf i).toNat)
  case atStart => exact ⟨0, 32 * (n + m), Nat.zero_le _, rfl, by go_num, by omega⟩
  case round =>
    obtain ⟨k, z, hk, rfl, rfl, hz⟩ := hrel
    by_cases hlt : k < n
    · have HK : Hid (k < L.length) := by rw [Hid, HL.out]; exact hlt
      obtain ⟨b, off, hga, hb, c1, c2⟩ := HC.out.form' HK.out
      have hsz := HS.out _ (getD_mem HK.out)
      subst hga
      generalize L.getD k nul = r at *
      obtain ⟨r1, r2⟩ := r
      simp only [Sm] at c1 c2 hsz
      by_cases g2 : 1048576 < z + r1.size
      · go_wp2
        go_ret
        exact ⟨⟨_, rfl⟩, rfl⟩
      by_cases g4 : 1048576 < z + r1.size + r2.size
      · go_wp2
        go_ret
        exact ⟨⟨_, rfl⟩, rfl⟩
      go_wp2
      go_round
      case rel => exact ⟨k + 1, z + r1.size + r2.size, by omega, by go_num, by go_num, by omega⟩
      case measure => simp [intOf]; omega
    · obtain rfl : k = n := by omega
      clear hlt hk
      go_wp2
      go_loop [5, 7] (fun t i => ∃ j z : Nat, j ≤ m ∧ i = .int .i64 j ∧ t = .int .i64 z ∧ z ≤ 1048576) (fun _ i => m - (intOf i).toNat)
      case atStart => exact ⟨0, z, Nat.zero_le _, rfl, by go_num, by omega⟩
      case round =>
        obtain ⟨j, y, hj, rfl, rfl, hy⟩ := hrel
        by_cases hlt : j < m
        · have HK : Hid (j < G.length) := by rw [Hid, HG.out]; exact hlt
          obtain ⟨b, off, hga, hb, c1, c2⟩ := HC'.out.form' HK.out
          have hsz := HS'.out _ (getD_mem HK.out)
          subst hga
          generalize G.getD j nul = r at *
          obtain ⟨r1, r2⟩ := r
          simp only [Sm] at c1 c2 hsz
          by_cases g2 : 1048576 < y + r1.size
          · go_wp2
            go_ret
            exact ⟨⟨_, rfl⟩, rfl⟩
          by_cases g4 : 1048576 < y + r1.size + r2.size
          · go_wp2
            go_ret
            exact ⟨⟨_, rfl⟩, rfl⟩
          go_wp2
          go_round
          case rel => exact ⟨j + 1, y + r1.size + r2.size, by omega, by go_num, by go_num, by omega⟩
          case measure => simp [intOf]; omega
        · go_wp2
          go_ret
          exact ⟨⟨_, rfl⟩, rfl⟩
end Go.Proofs.Qxb6627432a
