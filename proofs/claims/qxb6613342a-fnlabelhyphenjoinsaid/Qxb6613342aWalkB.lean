import Derived.Test.Qxb6613342aWalkA
namespace Go.Proofs.Qxb6613342a
open Go.RowKit
/-- isLabel, said of the string's bytes. -/
def labS (s : ByteArray) : Bool :=
  decide (0 < s.size) && decide (s.size ≤ 63) && (s.get! 0 != 45) && (s.get! (s.size - 1) != 45) && (List.range s.size).all (fun i => Lab.okByte (s.get! i))

theorem isEmpty_of (s : ByteArray) (h : 0 < s.size) : s.toList.isEmpty = false := by
  rw [ByteArray.toList_eq]
  cases s with
  | mk bs =>
    have : bs.toList.length ≠ 0 := by have h' : 0 < bs.size := h; simpa using Nat.ne_of_gt h'
    cases hl : bs.toList with
    | nil => rw [hl] at this; simp at this
    | cons a l => rfl
theorem empty_of (s : ByteArray) (h : ¬ 0 < s.size) : s.toList.isEmpty = true := by
  rw [ByteArray.toList_eq]
  cases s with
  | mk bs =>
    have : bs.toList.length = 0 := by have h' : ¬ 0 < bs.size := h; rw [Array.length_toList]; omega
    rw [List.length_eq_zero_iff.1 this]; rfl

theorem ne_iff (b : UInt8) : (b != 45) = ((b.toNat : Int) != 45) := by
  rw [Bool.eq_iff_iff]; simp [← UInt8.toNat_inj]; omega

theorem idxOk_decide {s : ByteArray} {r : Int} (h : IdxOk s r) : decide (r < 0) = (List.range s.size).all (fun i => Lab.okByte (s.get! i)) := by
  rw [Bool.eq_iff_iff, decide_eq_true_eq]
  exact (show (∀ i, i < s.size → Lab.okByte (s.get! i) = true) ↔ r < 0 from h).symm.trans (by simp)

set_option maxHeartbeats 400000 in
theorem isLabel_any (s : ByteArray) (w : World) :
    Calls Try.prog 15 #[.string s] w fun e w' => e = .returned (.bool (labS s)) ∧ Below w.heap.size w w' := by
  by_cases h0 : 0 < s.size
  · have he := isEmpty_of s h0
    have hn1 : s.size - 1 < s.size := by omega
    by_cases h1 : s.size ≤ 63
    · by_cases h2 : (s[0].toNat : Int) = 45
      · go_enter Try.func15, Try.ntmps15
        go_wp2_with fail
        go_ret
        exact ⟨by simp [labS, ne_iff, Lab.get_eq s 0 h0, h2], Below.refl _ _⟩
      · by_cases h3 : (s[s.size - 1].toNat : Int) = 45
        · go_enter Try.func15, Try.ntmps15
          go_wp2_with fail
          go_ret
          exact ⟨by simp [labS, ne_iff, Lab.get_eq s _ hn1, h3], Below.refl _ _⟩
        · go_enter Try.func15, Try.ntmps15
          go_wp2_with (go_at_call 18; refine (idx2_any _ _).mono ?_; rintro e w1 ⟨⟨r, rfl, hr⟩, hb⟩)
          go_ret
          refine ⟨?_, hb⟩
          rw [labS, ne_iff, ne_iff, Lab.get_eq s _ hn1, Lab.get_eq s 0 h0]
          simp [h0, h1, idxOk_decide hr]
    · go_enter Try.func15, Try.ntmps15
      go_wp2_with fail
      go_ret
      exact ⟨by simp [labS, h1], Below.refl _ _⟩
  · have he := empty_of s h0
    go_enter Try.func15, Try.ntmps15
    go_wp2_with fail
    go_ret
    exact ⟨by simp [labS, h0], Below.refl _ _⟩

set_option maxHeartbeats 400000 in
theorem zzIsLabel_any (s : ByteArray) (w : World) :
    Calls Try.prog 9 #[.string s] w fun e w' => e = .returned (.bool (labS s)) ∧ Below w.heap.size w w' := by
  go_enter Try.func9, Try.ntmps9
  go_wp2_with (go_at_call 15; refine (isLabel_any _ _).mono ?_; rintro e w1 ⟨rfl, hb⟩)
  go_ret
  exact ⟨rfl, hb⟩
end Go.Proofs.Qxb6613342a
