import Derived.Test.Qxb6627432aEffParts
namespace Go.Proofs.Qxb6627432a
open Go.RowKit Go.Maps

theorem KCells.form' {w : World} {a : Option Addr} {L : List Ky} {k : Nat} (h : KCells w a L) (hk : k < L.length) :
    ∃ b off, a = some ⟨b, off, none⟩ ∧ b < w.heap.size ∧ w.cell? ⟨b, off + k * 2, none⟩ = some (.string (L.getD k nul).1) ∧ w.cell? ⟨b, off + k * 2 + 1, none⟩ = some (.string (L.getD k nul).2) := by
  obtain ⟨b, off, h1, h2, h3⟩ := h k hk
  exact ⟨b, off, h1, World.block_lt_of_cell? w _ h2, h2, h3⟩
theorem red_sz : red.size ≤ maxLen := by decide

theorem gather_step {w wr w5 : World} {n : Nat} {f : Nat → Value} {v v' : Value} {o1 o2 : Obj} {k k' : Nat} {xs xs' : List Value} (hB : Below w.heap.size w wr) (hrow : wr.rowIs w.heap.size 4 n f)
    (hown : wr.ownsRow (w.heap.size + 1) 42 2 v k xs) (_hown' : w5.ownsRow (w.heap.size + 1) 42 2 v' k' xs') (hgrow : ((wr.alloc o1).alloc o2).grownBy w5 v.ownBlock) :
    w5.rowIs w.heap.size 4 n f ∧ Below w.heap.size w w5 := by
  have hsz := hB.size
  have hge : ∀ b, v.ownBlock = some b → w.heap.size + 1 ≤ b := fun b hb => (hown.lt b hb).1
  refine ⟨((hrow.alloc o1).alloc o2).of_block (hgrow.block _ ((hrow.alloc o1).alloc o2).lt fun e => ?_), ?_⟩
  · have := hge _ e.symm
    omega
  · refine ((hB.alloc hsz o1).alloc (by simp; omega) o2).grown hgrow (by simp; omega) fun b hb => ?_
    have := hge b hb
    omega

set_option maxHeartbeats 2000000 in
theorem eff8 (Pb n : Nat) (cat : List Ky) (HLc : Hid (cat.length = n)) (ga : Option Addr) (m gc : Nat) (G : List Ky) (HLg : Hid (G.length = m)) (w : World) (hn : n ≤ 4096) (hm : m ≤ 4096)
    (hok : CatOk w Pb n cat) (hsg : ∀ q ∈ G, Sz q) (hg : KCells w ga G) :
    Calls Try.prog 8 #[.pointer (some ⟨Pb, 0, none⟩), .slice ga m gc] w fun e w' => EffPost w (eff cat G) e w' := by
  obtain ⟨ca, cc, B, nn, hp0, hp1, hcc, hidx, hdis, hPb⟩ := hok
  have hmk := run_make31 n hn
  have HI : Hid (Idx w B nn cat) := hidx
  have HD : Hid (Distinct cat) := hdis
  have HG : Hid (KCells w ga G) := hg
  have HC : Hid (KCells w ca cat) := hcc
  have HS : Hid (∀ q ∈ G, Sz q) := hsg
  clear hidx hdis hg hcc hsg
  go_enter Try.func8, Try.ntmps8
  go_wp2
  go_loopw [23] (fun i wr => ∃ k : Nat, k ≤ m ∧ i = .int .i64 k ∧ wr.rowIs w.heap.size 4 n (heldAt cat (G.take k)) ∧ Below w.heap.size w wr) (fun i _ => m - (intOf i).toNat)
  case atStart => exact ⟨0, Nat.zero_le _, rfl, madeB_row w cat n, (Below.refl _ _).alloc (Nat.le_refl _) _⟩
  case round =>
    obtain ⟨k, hk, rfl, hrow, hB⟩ := hrel
    have HR : Hid (wr.rowIs w.heap.size 4 n (heldAt cat (G.take k))) := hrow
    clear hrow
    by_cases hlt : k < m
    · have HK : Hid (k < G.length) := by rw [Hid, HLg.out]; exact hlt
      obtain ⟨b, off, hga, hb, c1, c2⟩ := HG.out.form' HK.out
      have hsq := HS.out _ (getD_mem HK.out)
      rw [← hB.cell (p := ⟨b, off + k * 2, none⟩) hb] at c1
      rw [← hB.cell (p := ⟨b, off + k * 2 + 1, none⟩) hb] at c2
      subst hga
      generalize hr : G.getD k nul = r at *
      obtain ⟨r1, r2⟩ := r
      have HRE : Hid (G.getD k nul = (r1, r2)) := hr
      clear hr
      simp only at c1 c2
      have hPr : Pb < wr.heap.size := Nat.lt_of_lt_of_le hPb hB.size
      have hgr : w.heap.size < wr.heap.size := HR.out.lt
      have q1 : wr.cell? ⟨Pb, 1, none⟩ = some (.map (some B)) := (hB.cell (p := ⟨Pb, 1, none⟩) hPb).trans hp1
      have hB1 : ∀ nq, Below w.heap.size w ((wr.alloc (.cells #[.string r1, .string r2] 42)).drewN nq) := fun nq => below_drewN (hB.alloc hB.size _) nq
      cases hin : inC cat (r1, r2) with
      | false =>
        have hlk1 : ∀ nq, (Instr.lookup 40 (.map (some B)) (.agg #[.string r1, .string r2]) true).run Try.prog ((wr.alloc (.cells #[.string r1, .string r2] 42)).drewN nq) = .ok (.tuple #[.int .i64 0, .bool false]) ((wr.alloc (.cells #[.string r1, .string r2] 42)).drewN nq) := fun nq => (HI.out.below (hB1 nq)).no hin hsq
        have HB1 : Hid (∀ nq, Below w.heap.size w ((wr.alloc (.cells #[.string r1, .string r2] 42)).drewN nq)) := hB1
        clear hB1
        go_wp2
        go_quiet (fail)
        go_wp2
        go_roundw
        case rel => exact ⟨k + 1, by omega, by go_num, World.rowIs.congr (w := (wr.alloc (.cells #[.string r1, .string r2] 42)).drewN nq) (HR.out.alloc _) fun j _ => held_skip HK.out HRE.out hin j, HB1.out nq⟩
        case measure => simp [intOf]; omega
      | true =>
        obtain ⟨i, hi, hie⟩ := mem_getD (inC_iff.1 hin)
        have HIE : Hid (i < cat.length ∧ cat.getD i nul = (r1, r2)) := ⟨hi, hie⟩
        have hin' : i < n := by rw [← HLc.out]; exact hi
        have hlk1 : ∀ nq, (Instr.lookup 40 (.map (some B)) (.agg #[.string r1, .string r2]) true).run Try.prog ((wr.alloc (.cells #[.string r1, .string r2] 42)).drewN nq) = .ok (.tuple #[.int .i64 (i : Int), .bool true]) ((wr.alloc (.cells #[.string r1, .string r2] 42)).drewN nq) := fun nq => (HI.out.below (hB1 nq)).yes hi hie hsq
        have f1 := HR.out.frozen i
        have d1 := HR.out.cell hin'
        generalize heldAt cat (G.take k) i = o1 at d1
        clear hie hi hB1
        go_wp2
        go_quiet (fail)
        go_wp2
        have hbW : Below w.heap.size w (((wr.alloc (.cells #[.string r1, .string r2] 42)).drewN nq).setCell ⟨w.heap.size, i, none⟩ (.bool true)) := (below_drewN (hB.alloc hB.size _) _).setCell (Nat.le_refl _) _
        have v0 : (((wr.alloc (.cells #[.string r1, .string r2] 42)).drewN nq).setCell ⟨w.heap.size, i, none⟩ (.bool true)).cell? ⟨wr.heap.size, 0, none⟩ = some (.string r1) := new_cell0 hgr
        have hRW : Hid ((((wr.alloc (.cells #[.string r1, .string r2] 42)).drewN nq).setCell ⟨w.heap.size, i, none⟩ (.bool true)).rowIs w.heap.size 4 n (fun j => if j = i then .bool true else heldAt cat (G.take k) j)) := World.rowIs.set (w := (wr.alloc (.cells #[.string r1, .string r2] 42)).drewN nq) (HR.out.alloc _) i (.bool true)
        generalize (((wr.alloc (.cells #[.string r1, .string r2] 42)).drewN nq).setCell ⟨w.heap.size, i, none⟩ (.bool true)) = W2 at *
        have q2 : W2.cell? ⟨Pb, 1, none⟩ = some (.map (some B)) := (hbW.cell (p := ⟨Pb, 1, none⟩) hPb).trans hp1
        clear q1 f1 d1 hlk1
        cases hrd : inC cat (r1, red) with
        | false =>
          have hlk2 : ∀ nq, (Instr.lookup 40 (.map (some B)) (.agg #[.string r1, .string ⟨#[114, 101, 97, 100]⟩]) true).run Try.prog (W2.drewN nq) = .ok (.tuple #[.int .i64 0, .bool false]) (W2.drewN nq) := fun nq => ((HI.out.below hbW).drewN nq).no (b := red) hrd ⟨hsq.1, red_sz⟩
          go_quiet (fail)
          go_wp2
          go_roundw
          case rel => exact ⟨k + 1, by omega, by go_num, World.rowIs.congr (w := W2.drewN _) hRW.out fun j hj => held_one HD.out HK.out HRE.out HIE.out.1 HIE.out.2 hrd j (by rw [HLc.out]; exact hj), below_drewN hbW _⟩
          case measure => simp [intOf]; omega
        | true =>
          obtain ⟨i2, hi2, hie2⟩ := mem_getD (inC_iff.1 hrd)
          have HIE2 : Hid (i2 < cat.length ∧ cat.getD i2 nul = (r1, red)) := ⟨hi2, hie2⟩
          have hin2 : i2 < n := by rw [← HLc.out]; exact hi2
          have hlk2 : ∀ nq, (Instr.lookup 40 (.map (some B)) (.agg #[.string r1, .string ⟨#[114, 101, 97, 100]⟩]) true).run Try.prog (W2.drewN nq) = .ok (.tuple #[.int .i64 (i2 : Int), .bool true]) (W2.drewN nq) := fun nq => ((HI.out.below hbW).drewN nq).yes (b := red) hi2 hie2 ⟨hsq.1, red_sz⟩
          have f1 := hRW.out.frozen i2
          have d1 := hRW.out.cell hin2
          generalize (if i2 = i then Value.bool true else heldAt cat (G.take k) i2) = o1 at d1
          clear hie2 hi2
          go_quiet (fail)
          go_wp2
          go_roundw
          case rel => exact ⟨k + 1, by omega, by go_num, (World.rowIs.set (w := W2.drewN _) hRW.out i2 (.bool true)).congr fun j hj => held_two HD.out HK.out HRE.out HIE.out.1 HIE.out.2 HIE2.out.1 HIE2.out.2 j (by rw [HLc.out]; exact hj), (below_drewN hbW _).setCell (Nat.le_refl _) _⟩
          case measure => simp [intOf]; omega
    · obtain rfl : k = m := by omega
      have e : G.take k = G := List.take_of_length_le (by rw [HLg.out]; exact Nat.le_refl _)
      rw [e] at HR
      clear e hlt hk hmk
      have q0 : wr.cell? ⟨Pb, 0, none⟩ = some (.slice ca n cc) := (hB.cell (p := ⟨Pb, 0, none⟩) hPb).trans hp0
      obtain ⟨i0, hi, hz0, hz1, hz2⟩ := info_parts Try.info42
      obtain ⟨wo, rfl⟩ : ∃ wo : World, wo = wr := ⟨_, rfl⟩
      go_wp2
      go_loopw [12, 62] (fun v i wr => ∃ j : Nat, j ≤ n ∧ i = .int .i64 j ∧ wr.ownsRow (w.heap.size + 1) 42 2 v (gath cat G j).length (flat (gath cat G j)) ∧ (gath cat G j = [] → v = .slice none 0 0) ∧ wr.rowIs w.heap.size 4 n (heldAt cat G) ∧ Below w.heap.size w wr) (fun _ i _ => n - (intOf i).toNat)
      case atStart => exact ⟨0, Nat.zero_le _, rfl, World.ownsRow_nil _ _ _ _, fun _ => rfl, HR.out, hB⟩
      case round =>
        obtain ⟨j, hj, rfl, hown, hnil, hrow, hBr⟩ := hrel
        have HN : Hid (gath cat G j = [] → u12 = .slice none 0 0) := hnil
        have HRr : Hid (wr.rowIs w.heap.size 4 n (heldAt cat G)) := hrow
        clear hnil hrow
        by_cases hlt : j < n
        · have HK : Hid (j < cat.length) := by rw [Hid, HLc.out]; exact hlt
          obtain ⟨b, off, hga, hb, c1, c2⟩ := HC.out.form' HK.out
          rw [← hBr.cell (p := ⟨b, off + j * 2, none⟩) hb] at c1
          rw [← hBr.cell (p := ⟨b, off + j * 2 + 1, none⟩) hb] at c2
          subst hga
          have hgr : w.heap.size < wr.heap.size := HRr.out.lt
          have d1 : wr.cell? ⟨w.heap.size, j, none⟩ = some (.bool (heldB cat G (cat.getD j nul))) := HRr.out.cell hlt
          have g1 : Hid (heldB cat G (cat.getD j nul) = true → gath cat G (j + 1) = gath cat G j ++ [cat.getD j nul]) := gath_hit HK.out
          have g2 : Hid (heldB cat G (cat.getD j nul) = false → gath cat G (j + 1) = gath cat G j) := gath_miss HK.out
          have hle := gath_le cat G j
          generalize heldB cat G (cat.getD j nul) = hx at *
          generalize cat.getD j nul = r at *
          obtain ⟨r1, r2⟩ := r
          simp only at c1 c2
          cases hx with
          | false =>
            have e := g2.out rfl
            have E : Hid (gath cat G (j + 1) = gath cat G j) := e
            clear e g1 g2
            go_wp2
            go_roundw
            case rel => exact ⟨j + 1, by omega, by go_num, by rw [E.out]; exact hown.alloc _, by rw [E.out]; exact HN.out, HRr.out.alloc _, hBr.alloc hBr.size _⟩
            case measure => simp [intOf]; omega
          | true =>
            have e := g1.out rfl
            have E : Hid (gath cat G (j + 1) = gath cat G j ++ [(r1, r2)]) := e
            clear e g1 g2
            go_wp2_with (at_builtin; refine wpList_append_own _ rfl (.tmp 71) (.tmp 73) 28 rfl (w.heap.size + 1) 42 i0 _ 2 32 Try.underlying28 hi hz0 hz1 hz2 rfl (by decide) _ _ _ rfl ((hown.alloc _).alloc _) ⟨wr.heap.size + 1, 0, none⟩ 1 1 [.string r1, .string r2] rfl rfl (cells2_new _ _ _ _) (two_strs _ _) (by unfold maxLen; omega) (by omega) (by simp; omega) ?_)
            intro v' w5 hown' hgrow _
            have R := gather_step hBr HRr.out hown hown' hgrow
            have HRR : Hid (w5.rowIs w.heap.size 4 n (heldAt cat G) ∧ Below w.heap.size w w5) := R
            have HO : Hid (w5.ownsRow (w.heap.size + 1) 42 2 v' ((gath cat G j).length + 1) (flat (gath cat G j) ++ [.string r1, .string r2])) := hown'
            clear R hown' hgrow hown
            go_wp2
            go_roundw
            case rel => exact ⟨j + 1, by omega, by go_num, by rw [E.out, flat_snoc, List.length_append]; exact HO.out, fun h => absurd h (by rw [E.out]; simp), HRR.out.1, HRR.out.2⟩
            case measure => simp [intOf]; omega
        · obtain rfl : j = n := by omega
          rw [gath_all HLc.out] at hown HN
          have HO : Hid (wr.ownsRow (w.heap.size + 1) 42 2 u12 (eff cat G).length (flat (eff cat G))) := hown
          clear hown hlt hj
          go_wp2
          go_ret
          exact eff_post rfl HO.out HN.out hBr
end Go.Proofs.Qxb6627432a
