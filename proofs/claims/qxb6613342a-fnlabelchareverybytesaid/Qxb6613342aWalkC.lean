import Derived.Test.Qxb6613342aLabL
namespace Go.Proofs.Qxb6613342a
open Go.RowKit
set_option maxHeartbeats 400000 in
theorem zzBytes11_yes (s : ByteArray) (w : World) (h : s.size ≤ 1048576) :
    Calls Try.prog 11 #[.string s] w fun e w' => e = .returned (.bool true) ∧ w' = w := by
  go_enter Try.func11, Try.ntmps11
  go_wp2
  go_ret
  exact ⟨rfl, rfl⟩
set_option maxHeartbeats 400000 in
theorem zzBytes11_no (s : ByteArray) (w : World) (h : ¬ s.size ≤ 1048576) :
    Calls Try.prog 11 #[.string s] w fun e w' => e = .returned (.bool false) ∧ w' = w := by
  go_enter Try.func11, Try.ntmps11
  go_wp2
  go_ret
  exact ⟨rfl, rfl⟩
set_option maxHeartbeats 400000 in
theorem law5 (s : ByteArray) (w : World) (hm : s.size ≤ maxLen) :
    Calls Try.prog 5 #[.string s] w fun e w' => e = .returned (.bool true) ∧ Below w.heap.size w w' := by
  unfold maxLen at hm
  by_cases h0 : s.size ≤ 1048576
  · by_cases h1 : s.size ≤ 65536
    · go_enter Try.func5, Try.ntmps5
      go_wp2_with (go_at_call 11; refine (zzBytes11_yes _ _ h0).mono ?_; rintro e w' ⟨rfl, rfl⟩)
      go_loop [3, 4] (fun ok i => ∃ k : Nat, k ≤ s.size ∧ i = .int .i64 k ∧ ok = .bool (okAcc s k)) (fun _ i => s.size - (intOf i).toNat)
      case atStart => exact ⟨0, Nat.zero_le _, rfl, by rw [okAcc_zero]⟩
      case round =>
        obtain ⟨k, hk, rfl, rfl⟩ := hrel
        by_cases hlt : k < s.size
        · have hs : Hid (okAcc s (k + 1) = (okAcc s k && Lab.okByte s[k])) := okAcc_succ s k hlt
          have hw : Hid (Lab.notLabB (wrap32 (s[k].toNat : Int)) = !Lab.okByte s[k]) := notLab_wrap _
          go_wp2_with (go_at_call 12; refine (zzNotLab_any _ _).mono ?_; rintro e w' ⟨rfl, rfl⟩)
          · have hb : Lab.okByte s[k] = false := by have h := hw.out; simp_all
            go_round
            case rel => exact ⟨k + 1, by omega, by go_num, by rw [hs.out, hb]; simp⟩
            case measure => simp [intOf]; omega
          · have hb : Lab.okByte s[k] = true := by have h := hw.out; simp_all
            go_round
            case rel => exact ⟨k + 1, by omega, by go_num, by rw [hs.out, hb]; simp⟩
            case measure => simp [intOf]; omega
        · obtain rfl : k = s.size := by omega
          go_wp2_with (go_at_call 9; refine (zzIsLabel_any _ _).mono ?_; rintro e w1 ⟨rfl, hb⟩)
          go_ret
          exact ⟨by rw [okAcc_end]; simp, hb⟩
    · go_enter Try.func5, Try.ntmps5
      go_wp2_with (go_at_call 11; refine (zzBytes11_yes _ _ h0).mono ?_; rintro e w' ⟨rfl, rfl⟩)
      go_ret
      exact ⟨rfl, Below.refl _ _⟩
  · go_enter Try.func5, Try.ntmps5
    go_wp2_with (go_at_call 11; refine (zzBytes11_no _ _ h0).mono ?_; rintro e w' ⟨rfl, rfl⟩)
    go_ret
    exact ⟨rfl, Below.refl _ _⟩
end Go.Proofs.Qxb6613342a
