/-
  THE WALK of FnHasAgreesWithSource.
-/
import Derived.Test.Qxb6613335aDoorWalkD
namespace Go.Proofs.Qxb6613335aDoor
open Go.RowKit
theorem field36 (h l p : Int) (z : Option Addr) (W : World) : (Instr.field 36 (.agg (N25 h l p z)) 0).run Tryd.prog W = .ok (.agg #[.int .u64 h, .int .u64 l, .pointer z, .int .u16 p]) W := by kernel_rfl
set_option maxHeartbeats 2000000 in
theorem law_4a (A : Array Value) (hA : A.size = 16) (ha : Bytes16 A) (p : Int) {a4 a6 : Addr} (w : World) (hF : NF a4 a6 w) :
    Calls Tryd.prog 3 #[.int .i64 2, .bool true, .agg A, .int .u16 p] w fun e w' => e = .returned (.bool true) ∧ Below w.heap.size w w' := by
  have HA : Hid (Bytes16 A) := ha
  have HF : Hid (NF a4 a6 (w.alloc (.cells A 22))) := hF.alloc _
  have hg : (w.alloc (.cells A 22)).heap[w.heap.size]? = some (.cells A 22) := blk_new _ _ _ rfl
  clear ha hF
  go_enter Tryd.func3, Tryd.ntmps3
  go_wp2_with (refine wpList_load_row rfl 22 (.tmp 6) rfl w.heap.size rfl 22 A (0, 0) _ hg Tryd.underlying22 rfl (by rw [hA]; exact info22) ?_)
  refine (w4_4 A hA HA.out p _ HF.out).mono ?_
  rintro e w1 ⟨⟨h, l, rfl⟩, hb⟩
  have hb1 : Hid (Below w.heap.size w w1) := ((Below.refl _ _).alloc (Nat.le_refl _) _).trans (hb.mono (by simp))
  have F1 : Hid (NF a4 a6 (w1.alloc (.cells #[.int .u64 h, .int .u64 l, .pointer (some a4), .int .u16 p] 33))) := (HF.out.below hb).alloc _
  clear hb hg
  have hfd := field36 h l p (some a4)
  go_wp2_with fail
  refine (w5_4 _ _ _ _ F1.out).mono ?_
  rintro e w2 ⟨rfl, hb2⟩
  have F2 : Hid (NF a4 a6 w2) := F1.out.below hb2
  obtain ⟨hc, hf⟩ := bcell (B := w1.heap.size + 1) hb2 (by simp)
  go_wp2_with fail
  refine (w6_4 _ _ _ _ _ F2.out).mono ?_
  rintro e w3 ⟨rfl, hb3⟩
  go_wp2_with fail
  go_ret
  refine ⟨by simp, ?_⟩
  have k1 := hb1.out.trans (((Below.refl _ w1).alloc (Nat.le_refl _) (.cells #[.int .u64 h, .int .u64 l, .pointer (some a4), .int .u16 p] 33)).mono hb1.out.size)
  have k2 := k1.trans (hb2.mono k1.size)
  exact k2.trans (hb3.mono k2.size)
set_option maxHeartbeats 2000000 in
theorem law_4b (A : Array Value) (hA : A.size = 16) (ha : Bytes16 A) (p : Int) {a4 a6 : Addr} (w : World) (hF : NF a4 a6 w) :
    Calls Tryd.prog 3 #[.int .i64 0, .bool true, .agg A, .int .u16 p] w fun e w' => e = .returned (.bool true) ∧ Below w.heap.size w w' := by
  have HA : Hid (Bytes16 A) := ha
  have HF : Hid (NF a4 a6 (w.alloc (.cells A 22))) := hF.alloc _
  have hg : (w.alloc (.cells A 22)).heap[w.heap.size]? = some (.cells A 22) := blk_new _ _ _ rfl
  clear ha hF
  go_enter Tryd.func3, Tryd.ntmps3
  go_wp2_with (refine wpList_load_row rfl 22 (.tmp 6) rfl w.heap.size rfl 22 A (0, 0) _ hg Tryd.underlying22 rfl (by rw [hA]; exact info22) ?_)
  refine (w4_4 A hA HA.out p _ HF.out).mono ?_
  rintro e w1 ⟨⟨h, l, rfl⟩, hb⟩
  have hb1 : Hid (Below w.heap.size w w1) := ((Below.refl _ _).alloc (Nat.le_refl _) _).trans (hb.mono (by simp))
  have F1 : Hid (NF a4 a6 (w1.alloc (.cells #[.int .u64 h, .int .u64 l, .pointer (some a4), .int .u16 p] 33))) := (HF.out.below hb).alloc _
  clear hb hg
  have hfd := field36 h l p (some a4)
  go_wp2_with fail
  refine (w5_4 _ _ _ _ F1.out).mono ?_
  rintro e w2 ⟨rfl, hb2⟩
  have F2 : Hid (NF a4 a6 w2) := F1.out.below hb2
  obtain ⟨hc, hf⟩ := bcell (B := w1.heap.size + 1) hb2 (by simp)
  go_wp2_with fail
  refine (w6_4 _ _ _ _ _ F2.out).mono ?_
  rintro e w3 ⟨rfl, hb3⟩
  go_wp2_with fail
  go_ret
  refine ⟨by simp, ?_⟩
  have k1 := hb1.out.trans (((Below.refl _ w1).alloc (Nat.le_refl _) (.cells #[.int .u64 h, .int .u64 l, .pointer (some a4), .int .u16 p] 33)).mono hb1.out.size)
  have k2 := k1.trans (hb2.mono k1.size)
  exact k2.trans (hb3.mono k2.size)
set_option maxHeartbeats 2000000 in
theorem law_4c (A : Array Value) (hA : A.size = 16) (ha : Bytes16 A) (p : Int) {a4 a6 : Addr} (w : World) (hF : NF a4 a6 w) :
    Calls Tryd.prog 3 #[.int .i64 1, .bool true, .agg A, .int .u16 p] w fun e w' => e = .returned (.bool true) ∧ Below w.heap.size w w' := by
  have HA : Hid (Bytes16 A) := ha
  have HF : Hid (NF a4 a6 (w.alloc (.cells A 22))) := hF.alloc _
  have hg : (w.alloc (.cells A 22)).heap[w.heap.size]? = some (.cells A 22) := blk_new _ _ _ rfl
  clear ha hF
  go_enter Tryd.func3, Tryd.ntmps3
  go_wp2_with (refine wpList_load_row rfl 22 (.tmp 6) rfl w.heap.size rfl 22 A (0, 0) _ hg Tryd.underlying22 rfl (by rw [hA]; exact info22) ?_)
  refine (w4_4 A hA HA.out p _ HF.out).mono ?_
  rintro e w1 ⟨⟨h, l, rfl⟩, hb⟩
  have hb1 : Hid (Below w.heap.size w w1) := ((Below.refl _ _).alloc (Nat.le_refl _) _).trans (hb.mono (by simp))
  have F1 : Hid (NF a4 a6 (w1.alloc (.cells #[.int .u64 h, .int .u64 l, .pointer (some a4), .int .u16 p] 33))) := (HF.out.below hb).alloc _
  clear hb hg
  have hfd := field36 h l p (some a4)
  go_wp2_with fail
  refine (w5_4 _ _ _ _ F1.out).mono ?_
  rintro e w2 ⟨rfl, hb2⟩
  have F2 : Hid (NF a4 a6 w2) := F1.out.below hb2
  obtain ⟨hc, hf⟩ := bcell (B := w1.heap.size + 1) hb2 (by simp)
  go_wp2_with fail
  refine (w6_4 _ _ _ _ _ F2.out).mono ?_
  rintro e w3 ⟨rfl, hb3⟩
  go_wp2_with fail
  go_ret
  refine ⟨by simp, ?_⟩
  have k1 := hb1.out.trans (((Below.refl _ w1).alloc (Nat.le_refl _) (.cells #[.int .u64 h, .int .u64 l, .pointer (some a4), .int .u16 p] 33)).mono hb1.out.size)
  have k2 := k1.trans (hb2.mono k1.size)
  exact k2.trans (hb3.mono k2.size)
set_option maxHeartbeats 2000000 in
theorem law_4d (f : Int) (h2 : (f == 2) = false) (h0 : (f == 0) = false) (h1 : (f == 1) = false) (A : Array Value) (hA : A.size = 16) (ha : Bytes16 A) (p : Int) {a4 a6 : Addr} (w : World) (hF : NF a4 a6 w) :
    Calls Tryd.prog 3 #[.int .i64 f, .bool true, .agg A, .int .u16 p] w fun e w' => e = .returned (.bool true) ∧ Below w.heap.size w w' := by
  have HA : Hid (Bytes16 A) := ha
  have HF : Hid (NF a4 a6 (w.alloc (.cells A 22))) := hF.alloc _
  have hg : (w.alloc (.cells A 22)).heap[w.heap.size]? = some (.cells A 22) := blk_new _ _ _ rfl
  clear ha hF
  go_enter Tryd.func3, Tryd.ntmps3
  go_wp2_with (refine wpList_load_row rfl 22 (.tmp 6) rfl w.heap.size rfl 22 A (0, 0) _ hg Tryd.underlying22 rfl (by rw [hA]; exact info22) ?_)
  refine (w4_4 A hA HA.out p _ HF.out).mono ?_
  rintro e w1 ⟨⟨h, l, rfl⟩, hb⟩
  have hb1 : Hid (Below w.heap.size w w1) := ((Below.refl _ _).alloc (Nat.le_refl _) _).trans (hb.mono (by simp))
  have F1 : Hid (NF a4 a6 (w1.alloc (.cells #[.int .u64 h, .int .u64 l, .pointer (some a4), .int .u16 p] 33))) := (HF.out.below hb).alloc _
  clear hb hg
  have hfd := field36 h l p (some a4)
  go_wp2_with fail
  refine (w5_4 _ _ _ _ F1.out).mono ?_
  rintro e w2 ⟨rfl, hb2⟩
  have F2 : Hid (NF a4 a6 w2) := F1.out.below hb2
  obtain ⟨hc, hf⟩ := bcell (B := w1.heap.size + 1) hb2 (by simp)
  go_wp2_with fail
  refine (w6_4 _ _ _ _ _ F2.out).mono ?_
  rintro e w3 ⟨rfl, hb3⟩
  go_wp2_with fail
  go_ret
  refine ⟨by rw [beq_eq_false_iff_ne] at h0 h1; simp; omega, ?_⟩
  have k1 := hb1.out.trans (((Below.refl _ w1).alloc (Nat.le_refl _) (.cells #[.int .u64 h, .int .u64 l, .pointer (some a4), .int .u16 p] 33)).mono hb1.out.size)
  have k2 := k1.trans (hb2.mono k1.size)
  exact k2.trans (hb3.mono k2.size)
set_option maxHeartbeats 2000000 in
theorem law_6a (A : Array Value) (hA : A.size = 16) (ha : Bytes16 A) (p : Int) {a4 a6 : Addr} (w : World) (hF : NF a4 a6 w) :
    Calls Tryd.prog 3 #[.int .i64 2, .bool false, .agg A, .int .u16 p] w fun e w' => e = .returned (.bool true) ∧ Below w.heap.size w w' := by
  have HA : Hid (Bytes16 A) := ha
  have HF : Hid (NF a4 a6 (w.alloc (.cells A 22))) := hF.alloc _
  have hg : (w.alloc (.cells A 22)).heap[w.heap.size]? = some (.cells A 22) := blk_new _ _ _ rfl
  clear ha hF
  go_enter Tryd.func3, Tryd.ntmps3
  go_wp2_with (refine wpList_load_row rfl 22 (.tmp 6) rfl w.heap.size rfl 22 A (0, 0) _ hg Tryd.underlying22 rfl (by rw [hA]; exact info22) ?_)
  refine (w4_6 A hA HA.out p _ HF.out).mono ?_
  rintro e w1 ⟨⟨h, l, rfl⟩, hb⟩
  have hb1 : Hid (Below w.heap.size w w1) := ((Below.refl _ _).alloc (Nat.le_refl _) _).trans (hb.mono (by simp))
  have F1 : Hid (NF a4 a6 (w1.alloc (.cells #[.int .u64 h, .int .u64 l, .pointer (some a6), .int .u16 p] 33))) := (HF.out.below hb).alloc _
  clear hb hg
  have hfd := field36 h l p (some a6)
  go_wp2_with fail
  refine (w5_6 _ _ _ _ F1.out).mono ?_
  rintro e w2 ⟨rfl, hb2⟩
  have F2 : Hid (NF a4 a6 w2) := F1.out.below hb2
  obtain ⟨hc, hf⟩ := bcell (B := w1.heap.size + 1) hb2 (by simp)
  go_wp2_with fail
  refine (w6_6 _ _ _ _ _ F2.out).mono ?_
  rintro e w3 ⟨rfl, hb3⟩
  go_wp2_with fail
  go_ret
  refine ⟨by simp, ?_⟩
  have k1 := hb1.out.trans (((Below.refl _ w1).alloc (Nat.le_refl _) (.cells #[.int .u64 h, .int .u64 l, .pointer (some a6), .int .u16 p] 33)).mono hb1.out.size)
  have k2 := k1.trans (hb2.mono k1.size)
  exact k2.trans (hb3.mono k2.size)
set_option maxHeartbeats 2000000 in
theorem law_6b (A : Array Value) (hA : A.size = 16) (ha : Bytes16 A) (p : Int) {a4 a6 : Addr} (w : World) (hF : NF a4 a6 w) :
    Calls Tryd.prog 3 #[.int .i64 0, .bool false, .agg A, .int .u16 p] w fun e w' => e = .returned (.bool true) ∧ Below w.heap.size w w' := by
  have HA : Hid (Bytes16 A) := ha
  have HF : Hid (NF a4 a6 (w.alloc (.cells A 22))) := hF.alloc _
  have hg : (w.alloc (.cells A 22)).heap[w.heap.size]? = some (.cells A 22) := blk_new _ _ _ rfl
  clear ha hF
  go_enter Tryd.func3, Tryd.ntmps3
  go_wp2_with (refine wpList_load_row rfl 22 (.tmp 6) rfl w.heap.size rfl 22 A (0, 0) _ hg Tryd.underlying22 rfl (by rw [hA]; exact info22) ?_)
  refine (w4_6 A hA HA.out p _ HF.out).mono ?_
  rintro e w1 ⟨⟨h, l, rfl⟩, hb⟩
  have hb1 : Hid (Below w.heap.size w w1) := ((Below.refl _ _).alloc (Nat.le_refl _) _).trans (hb.mono (by simp))
  have F1 : Hid (NF a4 a6 (w1.alloc (.cells #[.int .u64 h, .int .u64 l, .pointer (some a6), .int .u16 p] 33))) := (HF.out.below hb).alloc _
  clear hb hg
  have hfd := field36 h l p (some a6)
  go_wp2_with fail
  refine (w5_6 _ _ _ _ F1.out).mono ?_
  rintro e w2 ⟨rfl, hb2⟩
  have F2 : Hid (NF a4 a6 w2) := F1.out.below hb2
  obtain ⟨hc, hf⟩ := bcell (B := w1.heap.size + 1) hb2 (by simp)
  go_wp2_with fail
  refine (w6_6 _ _ _ _ _ F2.out).mono ?_
  rintro e w3 ⟨rfl, hb3⟩
  go_wp2_with fail
  go_ret
  refine ⟨by simp, ?_⟩
  have k1 := hb1.out.trans (((Below.refl _ w1).alloc (Nat.le_refl _) (.cells #[.int .u64 h, .int .u64 l, .pointer (some a6), .int .u16 p] 33)).mono hb1.out.size)
  have k2 := k1.trans (hb2.mono k1.size)
  exact k2.trans (hb3.mono k2.size)
set_option maxHeartbeats 2000000 in
theorem law_6c (A : Array Value) (hA : A.size = 16) (ha : Bytes16 A) (p : Int) {a4 a6 : Addr} (w : World) (hF : NF a4 a6 w) :
    Calls Tryd.prog 3 #[.int .i64 1, .bool false, .agg A, .int .u16 p] w fun e w' => e = .returned (.bool true) ∧ Below w.heap.size w w' := by
  have HA : Hid (Bytes16 A) := ha
  have HF : Hid (NF a4 a6 (w.alloc (.cells A 22))) := hF.alloc _
  have hg : (w.alloc (.cells A 22)).heap[w.heap.size]? = some (.cells A 22) := blk_new _ _ _ rfl
  clear ha hF
  go_enter Tryd.func3, Tryd.ntmps3
  go_wp2_with (refine wpList_load_row rfl 22 (.tmp 6) rfl w.heap.size rfl 22 A (0, 0) _ hg Tryd.underlying22 rfl (by rw [hA]; exact info22) ?_)
  refine (w4_6 A hA HA.out p _ HF.out).mono ?_
  rintro e w1 ⟨⟨h, l, rfl⟩, hb⟩
  have hb1 : Hid (Below w.heap.size w w1) := ((Below.refl _ _).alloc (Nat.le_refl _) _).trans (hb.mono (by simp))
  have F1 : Hid (NF a4 a6 (w1.alloc (.cells #[.int .u64 h, .int .u64 l, .pointer (some a6), .int .u16 p] 33))) := (HF.out.below hb).alloc _
  clear hb hg
  have hfd := field36 h l p (some a6)
  go_wp2_with fail
  refine (w5_6 _ _ _ _ F1.out).mono ?_
  rintro e w2 ⟨rfl, hb2⟩
  have F2 : Hid (NF a4 a6 w2) := F1.out.below hb2
  obtain ⟨hc, hf⟩ := bcell (B := w1.heap.size + 1) hb2 (by simp)
  go_wp2_with fail
  refine (w6_6 _ _ _ _ _ F2.out).mono ?_
  rintro e w3 ⟨rfl, hb3⟩
  go_wp2_with fail
  go_ret
  refine ⟨by simp, ?_⟩
  have k1 := hb1.out.trans (((Below.refl _ w1).alloc (Nat.le_refl _) (.cells #[.int .u64 h, .int .u64 l, .pointer (some a6), .int .u16 p] 33)).mono hb1.out.size)
  have k2 := k1.trans (hb2.mono k1.size)
  exact k2.trans (hb3.mono k2.size)
set_option maxHeartbeats 2000000 in
theorem law_6d (f : Int) (h2 : (f == 2) = false) (h0 : (f == 0) = false) (h1 : (f == 1) = false) (A : Array Value) (hA : A.size = 16) (ha : Bytes16 A) (p : Int) {a4 a6 : Addr} (w : World) (hF : NF a4 a6 w) :
    Calls Tryd.prog 3 #[.int .i64 f, .bool false, .agg A, .int .u16 p] w fun e w' => e = .returned (.bool true) ∧ Below w.heap.size w w' := by
  have HA : Hid (Bytes16 A) := ha
  have HF : Hid (NF a4 a6 (w.alloc (.cells A 22))) := hF.alloc _
  have hg : (w.alloc (.cells A 22)).heap[w.heap.size]? = some (.cells A 22) := blk_new _ _ _ rfl
  clear ha hF
  go_enter Tryd.func3, Tryd.ntmps3
  go_wp2_with (refine wpList_load_row rfl 22 (.tmp 6) rfl w.heap.size rfl 22 A (0, 0) _ hg Tryd.underlying22 rfl (by rw [hA]; exact info22) ?_)
  refine (w4_6 A hA HA.out p _ HF.out).mono ?_
  rintro e w1 ⟨⟨h, l, rfl⟩, hb⟩
  have hb1 : Hid (Below w.heap.size w w1) := ((Below.refl _ _).alloc (Nat.le_refl _) _).trans (hb.mono (by simp))
  have F1 : Hid (NF a4 a6 (w1.alloc (.cells #[.int .u64 h, .int .u64 l, .pointer (some a6), .int .u16 p] 33))) := (HF.out.below hb).alloc _
  clear hb hg
  have hfd := field36 h l p (some a6)
  go_wp2_with fail
  refine (w5_6 _ _ _ _ F1.out).mono ?_
  rintro e w2 ⟨rfl, hb2⟩
  have F2 : Hid (NF a4 a6 w2) := F1.out.below hb2
  obtain ⟨hc, hf⟩ := bcell (B := w1.heap.size + 1) hb2 (by simp)
  go_wp2_with fail
  refine (w6_6 _ _ _ _ _ F2.out).mono ?_
  rintro e w3 ⟨rfl, hb3⟩
  go_wp2_with fail
  go_ret
  refine ⟨by rw [beq_eq_false_iff_ne] at h0 h1; simp; omega, ?_⟩
  have k1 := hb1.out.trans (((Below.refl _ w1).alloc (Nat.le_refl _) (.cells #[.int .u64 h, .int .u64 l, .pointer (some a6), .int .u16 p] 33)).mono hb1.out.size)
  have k2 := k1.trans (hb2.mono k1.size)
  exact k2.trans (hb3.mono k2.size)

theorem law_any (f : Int) (b : Bool) (A : Array Value) (hA : A.size = 16) (ha : Bytes16 A) (p : Int) {a4 a6 : Addr} (w : World) (hF : NF a4 a6 w) :
    Calls Tryd.prog 3 #[.int .i64 f, .bool b, .agg A, .int .u16 p] w fun e w' => e = .returned (.bool true) ∧ Below w.heap.size w w' := by
  by_cases e2 : f = 2
  · subst e2
    cases b
    · exact law_6a A hA ha p w hF
    · exact law_4a A hA ha p w hF
  · by_cases e0 : f = 0
    · subst e0
      cases b
      · exact law_6b A hA ha p w hF
      · exact law_4b A hA ha p w hF
    · by_cases e1 : f = 1
      · subst e1
        cases b
        · exact law_6c A hA ha p w hF
        · exact law_4c A hA ha p w hF
      · cases b
        · exact law_6d f (beq_eq_false_iff_ne.2 e2) (beq_eq_false_iff_ne.2 e0) (beq_eq_false_iff_ne.2 e1) A hA ha p w hF
        · exact law_4d f (beq_eq_false_iff_ne.2 e2) (beq_eq_false_iff_ne.2 e0) (beq_eq_false_iff_ne.2 e1) A hA ha p w hF
end Go.Proofs.Qxb6613335aDoor
