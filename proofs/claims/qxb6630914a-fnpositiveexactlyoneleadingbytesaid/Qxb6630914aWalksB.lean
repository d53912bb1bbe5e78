import Derived.Test.Qxb6630914aWalksA
namespace Go.Proofs.Qxb6630914a
open Go.RowKit

def cnt (k : Nat) : Int := if 50 < k then 1 else 0
def wch (k : Nat) : Int := if 50 < k then 50 else -1
def sme (f : Nat) (k : Nat) : Bool := if f < k then f == 50 else false

theorem cnt_bd (k : Nat) : 0 ≤ cnt k ∧ cnt k ≤ 1 := by unfold cnt; split <;> omega
theorem cnt_hit {k : Nat} (h : k = 50) : cnt (k + 1) = cnt k + 1 := by subst h; decide
theorem cnt_miss {k : Nat} (h : ¬ k = 50) : cnt (k + 1) = cnt k := by
  unfold cnt
  by_cases h1 : 50 < k
  · rw [if_pos h1, if_pos (by omega)]
  · rw [if_neg h1, if_neg (by omega)]
theorem wch_hit {k : Nat} (h : k = 50) : wch (k + 1) = (k : Int) := by subst h; decide
theorem wch_miss {k : Nat} (h : ¬ k = 50) : wch (k + 1) = wch k := by
  unfold wch
  by_cases h1 : 50 < k
  · rw [if_pos h1, if_pos (by omega)]
  · rw [if_neg h1, if_neg (by omega)]
theorem sme_hit {f k : Nat} (h : k = f) : sme f (k + 1) = (k == 50) := by subst h; unfold sme; rw [if_pos (by omega)]
theorem sme_miss {f k : Nat} (h : ¬ k = f) : sme f (k + 1) = sme f k := by
  unfold sme
  by_cases h1 : f < k
  · rw [if_pos h1, if_pos (by omega)]
  · rw [if_neg h1, if_neg (by omega)]

/-- The text of one byte. -/
def lead (k : Nat) : ByteArray := strOfNums [(k : Int)]
theorem lead_size (k : Nat) : (lead k).size = 1 := strOfNums_size _
theorem lit_eq {k : IntKind} {a b : Int} (h : a = b) : Value.int k a = .int k b := by rw [h]
theorem bool_eq {a b : Bool} (h : a = b) : Value.bool a = .bool b := by rw [h]
theorem cmp_eq {k f : Nat} {b : UInt8} (h : f = b.toNat) : ((k : Int) == (b.toNat : Int)) = decide (k = f) := by
  rw [Bool.eq_iff_iff, h]; simp only [beq_iff_eq, decide_eq_true_eq]; omega
theorem conv_lead (w : World) (k : Nat) : (convert 24 9 (.slice (some ⟨w.heap.size, 0, none⟩) 1 1)).run Try.prog (w.alloc (.cells #[.int .u8 (k : Int)] 5)) = .ok (.string (lead k)) (w.alloc (.cells #[.int .u8 (k : Int)] 5)) :=
  run_convert_bytes_arg _ 24 5 Try.underlying24 Try.underlying5 w.heap.size 0 1 1 [(k : Int)] rfl (fun i hi => by
    obtain rfl : i = 0 := by omega
    simp) 9 Try.underlying9
theorem two_lead (k : Nat) (h : k < 256) (t : ByteArray) : two (lead k ++ t) = (k == 50) := by
  unfold two
  rw [ByteArray.toList_eq]
  have e : (lead k ++ t).data.toList = UInt8.ofNat k :: t.data.toList := by
    rw [ByteArray.data_append, Array.toList_append]
    rfl
  rw [e, Bool.eq_iff_iff]
  simp only [List.head?_cons, beq_iff_eq, Option.some.injEq]
  constructor
  · intro h1
    have h2 := congrArg UInt8.toNat h1
    simp at h2
    omega
  · rintro rfl; rfl

set_option maxRecDepth 100000 in
set_option maxHeartbeats 400000 in
theorem walk4 (s : ByteArray) (hs0 : s.size ≤ maxLen) (w : World) :
    Calls Try.prog 4 #[.string s] w fun e w' => e = .returned (.bool true) ∧ Grown w w' := by
  unfold maxLen at hs0
  go_enter Try.func4, Try.ntmps4
  go_wp2_with fail
  refine (bytes7 s w hs0).mono ?_
  rintro e w' ⟨⟨b, rfl⟩, rfl⟩
  cases b with
  | false =>
    go_wp2
    go_ret
    exact ⟨rfl, Grown.refl _⟩
  | true =>
    by_cases h1 : 65536 < s.size
    · go_wp2
      go_ret
      exact ⟨rfl, Grown.refl _⟩
    by_cases h3 : s.size = 0
    · have h3' : ((s.size : Int) == 0) = true := by simp [h3]
      go_wp2
      go_ret
      exact ⟨rfl, Grown.refl _⟩
    have h3' : ((s.size : Int) == 0) = false := beq_eq_false_iff_ne.2 (by omega)
    have hs : 0 < s.size := by omega
    clear h3
    obtain ⟨f, hf⟩ : ∃ f, f = s[0].toNat := ⟨_, rfl⟩
    have HF : Hid (f = s[0].toNat) := hf
    clear hf
    go_wp2
    go_loopw [4, 5, 6, 7] (fun c wh sm i wr => ∃ k : Nat, k ≤ 256 ∧ i = .int .i64 k ∧ c = .int .i64 (cnt k) ∧ wh = .int .i64 (wch k) ∧ sm = .bool (sme f k) ∧ Grown w' wr) (fun _ _ _ i _ => 256 - (intOf i).toNat)
    case atStart => exact ⟨0, by omega, rfl, rfl, rfl, rfl, Grown.refl _⟩
    case round =>
      obtain ⟨k, hk, rfl, rfl, rfl, rfl, hg⟩ := hrel
      by_cases hlt : k < 256
      · have hcv := conv_lead wr k
        have hls := lead_size k
        have htl := two_lead k hlt (s.extract 1 s.size)
        have hcb := cnt_bd k
        have hg' : Grown w' (wr.alloc (.cells #[.int .u8 (k : Int)] 5)) := hg.alloc _ _
        go_wp2_with fail
        refine (positive6 _ _ (by simp; omega)).mono ?_
        rintro e wx ⟨rfl, rfl⟩
        rw [htl]
        clear htl hls hcv
        have hbf : ((k : Int) == (s[0].toNat : Int)) = decide (k = f) := cmp_eq HF.out
        generalize hx : (k == 50) = x at *
        have HX : Hid ((k == 50) = x) := hx
        generalize hy : decide (k = f) = y at *
        have HY : Hid (decide (k = f) = y) := hy
        clear hx hy
        cases x with
        | true =>
          have h50 : k = 50 := by simpa using HX.out
          have H50 : Hid (k = 50) := h50
          clear h50
          cases y with
          | true =>
            have hkf : Hid (k = f) := show k = f from of_decide_eq_true HY.out
            go_wp2
            go_roundw
            case rel => exact ⟨k + 1, by omega, by go_num, lit_eq (cnt_hit H50.out).symm, lit_eq (wch_hit H50.out).symm, bool_eq (by rw [sme_hit hkf.out, HX.out]), hg'⟩
            case measure => simp [intOf]; omega
          | false =>
            have hkf : Hid (¬ k = f) := show ¬ k = f from of_decide_eq_false HY.out
            go_wp2
            go_roundw
            case rel => exact ⟨k + 1, by omega, by go_num, lit_eq (cnt_hit H50.out).symm, lit_eq (wch_hit H50.out).symm, bool_eq (sme_miss hkf.out).symm, hg'⟩
            case measure => simp [intOf]; omega
        | false =>
          have H50 : Hid (¬ k = 50) := by simpa [Hid] using HX.out
          cases y with
          | true =>
            have hkf : Hid (k = f) := show k = f from of_decide_eq_true HY.out
            go_wp2
            go_roundw
            case rel => exact ⟨k + 1, by omega, by go_num, lit_eq (cnt_miss H50.out).symm, lit_eq (wch_miss H50.out).symm, bool_eq (by rw [sme_hit hkf.out, HX.out]), hg'⟩
            case measure => simp [intOf]; omega
          | false =>
            have hkf : Hid (¬ k = f) := show ¬ k = f from of_decide_eq_false HY.out
            go_wp2
            go_roundw
            case rel => exact ⟨k + 1, by omega, by go_num, lit_eq (cnt_miss H50.out).symm, lit_eq (wch_miss H50.out).symm, bool_eq (sme_miss hkf.out).symm, hg'⟩
            case measure => simp [intOf]; omega
      · obtain rfl : k = 256 := by omega
        have hff : f < 256 := by rw [HF.out]; exact s[0].toNat_lt
        have e1 : cnt 256 = 1 := by decide
        have e2 : wch 256 = 50 := by decide
        have e3 : sme f 256 = two s := by
          rw [← two_eq s hs, ← HF.out]; unfold sme; rw [if_pos hff, Bool.eq_iff_iff]; simp; omega
        rw [e1, e2, e3]
        clear e1 e2 e3
        go_wp2_with (go_at_call 6; refine (positive6 _ _ hs).mono ?_; rintro e wx ⟨rfl, rfl⟩)
        go_ret
        exact ⟨rfl, hg⟩
end Go.Proofs.Qxb6630914a
