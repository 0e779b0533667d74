/-
  THE WALKS of FnLabelIsRepairFixedPoint (3) and FnLabelHyphenJoin (4).
-/
import Derived.Test.Qxb6613342aRepL
namespace Go.Proofs.Qxb6613342a
open Go.RowKit
set_option maxHeartbeats 400000 in
theorem zzBytes7_yes (s : ByteArray) (w : World) (h : s.size ≤ 1048576) :
    Calls Try.prog 7 #[.string s] w fun e w' => e = .returned (.bool true) ∧ w' = w := by
  go_enter Try.func7, Try.ntmps7
  go_wp2
  go_ret
  exact ⟨rfl, rfl⟩
set_option maxHeartbeats 400000 in
theorem zzBytes7_no (s : ByteArray) (w : World) (h : ¬ s.size ≤ 1048576) :
    Calls Try.prog 7 #[.string s] w fun e w' => e = .returned (.bool false) ∧ w' = w := by
  go_enter Try.func7, Try.ntmps7
  go_wp2
  go_ret
  exact ⟨rfl, rfl⟩
set_option maxHeartbeats 400000 in
theorem law3 (s : ByteArray) (w : World) (hm : s.size ≤ maxLen) :
    Calls Try.prog 3 #[.string s] w fun e w' => e = .returned (.bool true) ∧ Below w.heap.size w w' := by
  unfold maxLen at hm
  by_cases h0 : s.size ≤ 1048576
  · by_cases h1 : s.size ≤ 65536
    · have hlr := lab_repair s
      have hir := lab_iff_repair s
      have HL : Hid (labS (repair s) = true) := hlr
      have HI : Hid (((repair s).toList == s.toList) = labS s) := hir.symm
      clear hlr hir
      go_enter Try.func3, Try.ntmps3
      go_wp2_with (first | (go_at_call 7; refine (zzBytes7_yes _ _ h0).mono ?_; rintro e w' ⟨rfl, rfl⟩) | (go_at_call 8; refine (repair_any _ _).mono ?_; rintro e w1 ⟨rfl, hb1⟩))
      refine (zzIsLabel_any _ _).mono ?_
      rintro e w2 ⟨rfl, hb2⟩
      have hgd : (labS s == ((repair s).toList == s.toList)) = true := by rw [HI.out]; simp
      go_wp2_with fail
      refine (zzIsLabel_any _ _).mono ?_
      rintro e w3 ⟨rfl, hb3⟩
      go_wp2_with fail
      go_ret
      refine ⟨by rw [HL.out]; rfl, ?_⟩
      exact hb1.trans ((hb2.mono hb1.size).trans (hb3.mono (Nat.le_trans hb1.size hb2.size)))
    · go_enter Try.func3, Try.ntmps3
      go_wp2_with (go_at_call 7; refine (zzBytes7_yes _ _ h0).mono ?_; rintro e w' ⟨rfl, rfl⟩)
      go_ret
      exact ⟨rfl, Below.refl _ _⟩
  · go_enter Try.func3, Try.ntmps3
    go_wp2_with (go_at_call 7; refine (zzBytes7_no _ _ h0).mono ?_; rintro e w' ⟨rfl, rfl⟩)
    go_ret
    exact ⟨rfl, Below.refl _ _⟩

set_option maxHeartbeats 400000 in
theorem zzBytes10_any (s t : ByteArray) (w : World) (h : s.size ≤ maxLen) (h' : t.size ≤ maxLen) :
    Calls Try.prog 10 #[.string s, .string t] w fun e w' => (∃ b, e = .returned (.bool b)) ∧ w' = w := by
  unfold maxLen at h h'
  go_enter Try.func10, Try.ntmps10
  go_wp2
  all_goals
    go_ret
    exact ⟨⟨_, rfl⟩, rfl⟩

set_option maxHeartbeats 1000000 in
theorem law4 (s t : ByteArray) (w : World) (hm : s.size ≤ maxLen) (hn : t.size ≤ maxLen) :
    Calls Try.prog 4 #[.string s, .string t] w fun e w' => e = .returned (.bool true) ∧ Below w.heap.size w w' := by
  have hz := zzBytes10_any s t w hm hn
  unfold maxLen at hm hn
  by_cases h1 : s.size ≤ 65536
  · by_cases h2 : t.size ≤ 65536
    · have HS : Hid (labS (repair s) = true) := lab_repair s
      have HT : Hid (labS (repair t) = true) := lab_repair t
      have HJ : Hid (labS (repair s ++ { data := #[45] } ++ repair t) = decide (((repair s ++ { data := #[45] } ++ repair t).size : Int) ≤ 63)) := lab_join _ _ (lab_repair s) (lab_repair t)
      have hrs : (repair s).size ≤ 63 := ((labS_iff _).1 (lab_repair s)).2.1
      have hrt : (repair t).size ≤ 63 := ((labS_iff _).1 (lab_repair t)).2.1
      have HZ : Hid (Calls Try.prog 10 #[.string s, .string t] w fun e w' => (∃ b, e = .returned (.bool b)) ∧ w' = w) := hz
      clear hz
      go_enter Try.func4, Try.ntmps4
      go_wp2_with fail
      refine HZ.out.mono ?_
      rintro e w' ⟨⟨b, rfl⟩, rfl⟩
      clear HZ
      cases b
      · go_wp2_with fail
        go_ret
        exact ⟨rfl, Below.refl _ _⟩
      · go_wp2_with fail
        refine (repair_any _ _).mono ?_
        rintro e w1 ⟨rfl, hb1⟩
        go_wp2_with fail
        refine (repair_any _ _).mono ?_
        rintro e w2 ⟨rfl, hb2⟩
        go_wp2_with fail
        refine (zzIsLabel_any _ _).mono ?_
        rintro e w3 ⟨rfl, hb3⟩
        rw [HJ.out]
        go_wp2_with fail
        refine (zzIsLabel_any _ _).mono ?_
        rintro e w4 ⟨rfl, hb4⟩
        rw [HS.out]
        go_wp2_with fail
        refine (zzIsLabel_any _ _).mono ?_
        rintro e w5 ⟨rfl, hb5⟩
        rw [HT.out]
        go_wp2_with fail
        go_ret
        refine ⟨rfl, ?_⟩
        have k2 := hb1.trans (hb2.mono hb1.size)
        have k3 := k2.trans (hb3.mono k2.size)
        have k4 := k3.trans (hb4.mono k3.size)
        exact k4.trans (hb5.mono k4.size)
    · go_enter Try.func4, Try.ntmps4
      go_wp2_with fail
      refine hz.mono ?_
      rintro e w' ⟨⟨b, rfl⟩, rfl⟩
      cases b
      all_goals
        go_wp2_with fail
        go_ret
        exact ⟨rfl, Below.refl _ _⟩
  · go_enter Try.func4, Try.ntmps4
    go_wp2_with fail
    refine hz.mono ?_
    rintro e w' ⟨⟨b, rfl⟩, rfl⟩
    cases b
    all_goals
      go_wp2_with fail
      go_ret
      exact ⟨rfl, Below.refl _ _⟩
end Go.Proofs.Qxb6613342a
