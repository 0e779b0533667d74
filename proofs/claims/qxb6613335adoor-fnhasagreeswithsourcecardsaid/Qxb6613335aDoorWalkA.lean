/-
  THE WALKS of net/netip's small functions on the road of FnHasAgreesWithSource.
-/
import Derived.Test.Qxb6613335aDoorNF
import Derived.RegionTactic
import Derived.BigRegion
namespace Go.Proofs.Qxb6613335aDoor
open Go.RowKit
set_option maxHeartbeats 400000 in
theorem w14 (x0 x1 x2 x3 : Int) {a4 a6 : Addr} (w : World) (hF : NF a4 a6 w) :
    Calls Tryd.prog 14 #[.agg #[.int .u8 x0, .int .u8 x1, .int .u8 x2, .int .u8 x3]] w fun e w' => (∃ lo, e = .returned (.agg #[.int .u64 0, .int .u64 lo, .pointer (some a4)])) ∧ Below w.heap.size w w' := by
  have q0 := fun o => (hF.alloc o).c0
  go_enter Tryd.func14, Tryd.ntmps14
  go_wp2
  exact bodyPost_ret (v := .agg #[.int .u64 0, .int .u64 _, .pointer (some a4)]) (by simp [results, Tryd.results14, go_sem]; rfl) rfl ⟨⟨_, rfl⟩, ((Below.refl _ _).alloc (Nat.le_refl _) _).alloc (by simp) _⟩
set_option maxHeartbeats 400000 in
theorem w16_4 (v0 v1 : Value) {a4 a6 : Addr} (w : World) (hF : NF a4 a6 w) :
    Calls Tryd.prog 16 #[.agg #[v0, v1, .pointer (some a4)]] w fun e w' => (e = .returned (.bool false)) ∧ Below w.heap.size w w' := by
  have q0 := fun o => (hF.alloc o).c0
  have q2 := fun o => (hF.alloc o).c2
  have e1 := eq_same a4
  have e2 := eq_nil a4
  go_enter Tryd.func16, Tryd.ntmps16
  go_wp2
  go_ret
  exact ⟨rfl, (Below.refl _ _).alloc (Nat.le_refl _) _⟩
set_option maxHeartbeats 400000 in
theorem w16_6 (v0 v1 : Value) {a4 a6 : Addr} (w : World) (hF : NF a4 a6 w) :
    Calls Tryd.prog 16 #[.agg #[v0, v1, .pointer (some a6)]] w fun e w' => (e = .returned (.bool true)) ∧ Below w.heap.size w w' := by
  have q0 := fun o => (hF.alloc o).c0
  have q2 := fun o => (hF.alloc o).c2
  have e1 := fun o => (hF.alloc o).eq64
  have e2 := eq_nil a6
  go_enter Tryd.func16, Tryd.ntmps16
  go_wp2
  go_ret
  exact ⟨rfl, (Below.refl _ _).alloc (Nat.le_refl _) _⟩
set_option maxHeartbeats 400000 in
theorem w25_4 (v0 v1 : Value) {a4 a6 : Addr} (w : World) (hF : NF a4 a6 w) :
    Calls Tryd.prog 25 #[.agg #[v0, v1, .pointer (some a4)]] w fun e w' => (e = .returned (.bool true)) ∧ Below w.heap.size w w' := by
  have q0 := fun o => (hF.alloc o).c0
  have e1 := eq_same a4
  go_enter Tryd.func25, Tryd.ntmps25
  go_wp2
  go_ret
  exact ⟨rfl, (Below.refl _ _).alloc (Nat.le_refl _) _⟩
set_option maxHeartbeats 400000 in
theorem w25_6 (v0 v1 : Value) {a4 a6 : Addr} (w : World) (hF : NF a4 a6 w) :
    Calls Tryd.prog 25 #[.agg #[v0, v1, .pointer (some a6)]] w fun e w' => (e = .returned (.bool false)) ∧ Below w.heap.size w w' := by
  have q0 := fun o => (hF.alloc o).c0
  have e1 := fun o => (hF.alloc o).eq64
  go_enter Tryd.func25, Tryd.ntmps25
  go_wp2
  go_ret
  exact ⟨rfl, (Below.refl _ _).alloc (Nat.le_refl _) _⟩
set_option maxHeartbeats 400000 in
theorem w27 (v0 v1 : Value) (a : Addr) {a4 a6 : Addr} (w : World) (hF : NF a4 a6 w) :
    Calls Tryd.prog 27 #[.agg #[v0, v1, .pointer (some a)]] w fun e w' => (e = .returned (.bool false)) ∧ Below w.heap.size w w' := by
  have q2 := fun o => (hF.alloc o).c2
  have e1 := eq_nil a
  go_enter Tryd.func27, Tryd.ntmps27
  go_wp2
  go_ret
  exact ⟨rfl, (Below.refl _ _).alloc (Nat.le_refl _) _⟩
set_option maxHeartbeats 400000 in
theorem w28_4 (v0 v1 : Value) {a4 a6 : Addr} (w : World) (hF : NF a4 a6 w) :
    Calls Tryd.prog 28 #[.agg #[v0, v1, .pointer (some a4)]] w fun e w' => (e = .returned (.int .i64 32)) ∧ Below w.heap.size w w' := by
  have q0 := fun o => (hF.alloc o).c0
  have q2 := fun o => (hF.alloc o).c2
  have e1 := eq_same a4
  have e2 := eq_nil a4
  go_enter Tryd.func28, Tryd.ntmps28
  go_wp2
  go_ret
  exact ⟨rfl, (Below.refl _ _).alloc (Nat.le_refl _) _⟩
set_option maxHeartbeats 400000 in
theorem w28_6 (v0 v1 : Value) {a4 a6 : Addr} (w : World) (hF : NF a4 a6 w) :
    Calls Tryd.prog 28 #[.agg #[v0, v1, .pointer (some a6)]] w fun e w' => (e = .returned (.int .i64 128)) ∧ Below w.heap.size w w' := by
  have q0 := fun o => (hF.alloc o).c0
  have q2 := fun o => (hF.alloc o).c2
  have e1 := fun o => (hF.alloc o).eq64
  have e2 := eq_nil a6
  go_enter Tryd.func28, Tryd.ntmps28
  go_wp2
  go_ret
  exact ⟨rfl, (Below.refl _ _).alloc (Nat.le_refl _) _⟩
set_option maxHeartbeats 400000 in
theorem w10 (hi lo p : Int) (z : Option Addr) (w : World) :
    Calls Tryd.prog 10 #[.agg #[.int .u64 hi, .int .u64 lo, .pointer z, .int .u16 p]] w fun e w' => (e = .returned (.agg #[.int .u64 hi, .int .u64 lo, .pointer z])) ∧ Below w.heap.size w w' := by
  go_enter Tryd.func10, Tryd.ntmps10
  go_wp2
  exact bodyPost_ret (v := .agg #[.int .u64 hi, .int .u64 lo, .pointer z]) (by simp [results, Tryd.results10, go_sem]) rfl ⟨rfl, ((Below.refl _ _).alloc (Nat.le_refl _) _).alloc (by simp) _⟩
set_option maxHeartbeats 400000 in
theorem w13 (hi lo p : Int) (z : Option Addr) (w : World) :
    Calls Tryd.prog 13 #[.agg #[.int .u64 hi, .int .u64 lo, .pointer z], .int .u16 p] w fun e w' => (e = .returned (.agg #[.int .u64 hi, .int .u64 lo, .pointer z, .int .u16 p])) ∧ Below w.heap.size w w' := by
  go_enter Tryd.func13, Tryd.ntmps13
  go_wp2
  exact bodyPost_ret (v := .agg #[.int .u64 hi, .int .u64 lo, .pointer z, .int .u16 p]) (by simp [results, Tryd.results13, go_sem]) rfl ⟨rfl, ((Below.refl _ _).alloc (Nat.le_refl _) _).alloc (by simp) _⟩
set_option maxHeartbeats 400000 in
theorem w11 (hi lo b : Int) (z : Option Addr) (w : World) (h0 : 1 ≤ b) (h1 : b ≤ 255) :
    Calls Tryd.prog 11 #[.agg #[.int .u64 hi, .int .u64 lo, .pointer z, .int .u8 b]] w fun e w' => (e = .returned (.int .i64 (b - 1))) ∧ Below w.heap.size w w' := by
  go_enter Tryd.func11, Tryd.ntmps11
  go_wp2
  go_ret
  exact ⟨by simp, (Below.refl _ _).alloc (Nat.le_refl _) _⟩
set_option maxHeartbeats 400000 in
theorem w22 (a b c d : Int) (w : World) :
    Calls Tryd.prog 22 #[.agg #[.int .u64 a, .int .u64 b], .agg #[.int .u64 c, .int .u64 d]] w fun e w' => (∃ x y, e = .returned (.agg #[.int .u64 x, .int .u64 y])) ∧ Below w.heap.size w w' := by
  go_enter Tryd.func22, Tryd.ntmps22
  go_wp2
  exact bodyPost_ret (v := .agg #[.int .u64 _, .int .u64 _]) (by simp [results, Tryd.results22, go_sem]; exact ⟨rfl, rfl⟩) rfl ⟨⟨_, _, rfl⟩, (((Below.refl _ _).alloc (Nat.le_refl _) _).alloc (by simp) _).alloc (by simp; omega) _⟩
set_option maxHeartbeats 400000 in
theorem w23 (n : Int) (hn : n = 64 ∨ n = 128) (w : World) :
    Calls Tryd.prog 23 #[.int .i64 n] w fun e w' => (∃ x y, e = .returned (.agg #[.int .u64 x, .int .u64 y])) ∧ Below w.heap.size w w' := by
  rcases hn with rfl | rfl
  · go_enter Tryd.func23, Tryd.ntmps23
    go_wp2
    go_region
    all_goals
      go_wp2
      exact bodyPost_ret (v := .agg #[.int .u64 _, .int .u64 _]) (by simp [results, Tryd.results23, go_sem]; exact ⟨rfl, rfl⟩) rfl ⟨⟨_, _, rfl⟩, ((Below.refl _ _).alloc (Nat.le_refl _) _).drew⟩
  · go_enter Tryd.func23, Tryd.ntmps23
    go_wp2
    go_region
    all_goals
      go_wp2
      exact bodyPost_ret (v := .agg #[.int .u64 _, .int .u64 _]) (by simp [results, Tryd.results23, go_sem]; exact ⟨rfl, rfl⟩) rfl ⟨⟨_, _, rfl⟩, ((Below.refl _ _).alloc (Nat.le_refl _) _).drew⟩

/-- Behind a callee that leaves old blocks alone: old cells and marks read as before. -/
theorem bcell {B : Nat} {W w1 : World} (hb : Below W.heap.size W w1) (hB : W.heap.size = B) : (∀ b o, b < B → w1.cell? ⟨b, o, none⟩ = W.cell? ⟨b, o, none⟩) ∧ (∀ b o, b < B → w1.frozen? ⟨b, o, none⟩ = W.frozen? ⟨b, o, none⟩) := by
  subst hB
  exact ⟨fun b o h => hb.cell (p := ⟨b, o, none⟩) h, fun b o h => hb.frozen (p := ⟨b, o, none⟩) h⟩

/-- Two blocks of one's own, then a callee. -/
theorem below2 {w w1 : World} {o o' : Obj} (hb : Below ((w.alloc o).alloc o').heap.size ((w.alloc o).alloc o') w1) : Below w.heap.size w w1 :=
  (((Below.refl _ _).alloc (Nat.le_refl _) _).alloc (by simp) _).trans (hb.mono (by simp; omega))

set_option maxHeartbeats 400000 in
theorem w29_4 (hi lo : Int) {a4 a6 : Addr} (w : World) (hF : NF a4 a6 w) :
    Calls Tryd.prog 29 #[.agg #[.int .u64 hi, .int .u64 lo, .pointer (some a4)]] w fun e w' => (e = .returned (.agg #[.int .u64 hi, .int .u64 lo, .pointer (some a4)])) ∧ Below w.heap.size w w' := by
  have HF1 : Hid (∀ o o', NF a4 a6 ((w.alloc o).alloc o')) := fun o o' => ((hF.alloc o).alloc o')
  go_enter Tryd.func29, Tryd.ntmps29
  go_wp2_with fail
  refine (w16_4 _ _ _ (HF1.out _ _)).mono ?_
  rintro e w1 ⟨rfl, hb⟩
  obtain ⟨hc, hf⟩ := bcell (B := w.heap.size + 1 + 1) hb (by simp)
  go_wp2_with fail
  exact bodyPost_ret (v := .agg #[.int .u64 hi, .int .u64 lo, .pointer (some a4)]) (by simp [results, Tryd.results29, go_sem, hc]) rfl ⟨rfl, (((below2 hb).setCell (by simp) _).setCell (by simp) _).setCell (by simp) _⟩
set_option maxHeartbeats 400000 in
theorem w29_6 (hi lo : Int) {a4 a6 : Addr} (w : World) (hF : NF a4 a6 w) :
    Calls Tryd.prog 29 #[.agg #[.int .u64 hi, .int .u64 lo, .pointer (some a6)]] w fun e w' => (e = .returned (.agg #[.int .u64 hi, .int .u64 lo, .pointer (some a6)])) ∧ Below w.heap.size w w' := by
  have HF1 : Hid (∀ o o', NF a4 a6 ((w.alloc o).alloc o')) := fun o o' => ((hF.alloc o).alloc o')
  go_enter Tryd.func29, Tryd.ntmps29
  go_wp2_with fail
  refine (w16_6 _ _ _ (HF1.out _ _)).mono ?_
  rintro e w1 ⟨rfl, hb⟩
  obtain ⟨hc, hf⟩ := bcell (B := w.heap.size + 1 + 1) hb (by simp)
  have q1 := fun o o' => (HF1.out o o').c1
  have q1' := fun o => (hF.alloc o).c1
  have k2 : w1.cell? ⟨w.heap.size, 2, none⟩ = some (.pointer (some a6)) := by rw [hc _ _ (by omega)]; simp
  go_wp2_with fail
  exact bodyPost_ret (v := .agg #[.int .u64 hi, .int .u64 lo, .pointer (some a6)]) (by simp [results, Tryd.results29, go_sem, hc]) rfl ⟨rfl, ((((below2 hb).setCell (by simp) _).setCell (by simp) _).setCell (by simp) _).setCell (by simp) _⟩
set_option maxHeartbeats 400000 in
theorem w24_4 (hi lo : Int) {a4 a6 : Addr} (w : World) (hF : NF a4 a6 w) :
    Calls Tryd.prog 24 #[.agg #[.int .u64 hi, .int .u64 lo, .pointer (some a4)], .int .i64 32] w fun e w' => (e = .returned (.agg #[.int .u64 hi, .int .u64 lo, .pointer (some a4), .int .u8 33])) ∧ Below w.heap.size w w' := by
  have HF1 : Hid (∀ o o', NF a4 a6 ((w.alloc o).alloc o')) := fun o o' => ((hF.alloc o).alloc o')
  go_enter Tryd.func24, Tryd.ntmps24
  go_wp2_with fail
  refine (w27 _ _ _ _ (HF1.out _ _)).mono ?_
  rintro e w1 ⟨rfl, hb⟩
  have F1 : Hid (NF a4 a6 w1) := (HF1.out _ _).below hb
  obtain ⟨hc, hf⟩ := bcell (B := w.heap.size + 1 + 1) hb (by simp)
  go_wp2_with fail
  refine (w28_4 _ _ _ F1.out).mono ?_
  rintro e w2 ⟨rfl, hb2⟩
  have F2 : Hid (NF a4 a6 w2) := F1.out.below hb2
  have hb3 := hb.trans (hb2.mono hb.size)
  clear hc hf
  obtain ⟨hc, hf⟩ := bcell (B := w.heap.size + 1 + 1) hb3 (by simp)
  go_wp2_with fail
  refine (w29_4 _ _ _ F2.out).mono ?_
  rintro e w3 ⟨rfl, hb4⟩
  have hb5 := hb3.trans (hb4.mono hb3.size)
  clear hc hf
  obtain ⟨hc, hf⟩ := bcell (B := w.heap.size + 1 + 1) hb5 (by simp)
  go_wp2_with fail
  exact bodyPost_ret (v := .agg #[.int .u64 hi, .int .u64 lo, .pointer (some a4), .int .u8 33]) (by simp [results, Tryd.results24, go_sem, hc]) rfl ⟨rfl, ((((below2 hb5).setCell (by simp) _).setCell (by simp) _).setCell (by simp) _).setCell (by simp) _⟩
set_option maxHeartbeats 400000 in
theorem w24_6 (hi lo : Int) {a4 a6 : Addr} (w : World) (hF : NF a4 a6 w) :
    Calls Tryd.prog 24 #[.agg #[.int .u64 hi, .int .u64 lo, .pointer (some a6)], .int .i64 64] w fun e w' => (e = .returned (.agg #[.int .u64 hi, .int .u64 lo, .pointer (some a6), .int .u8 65])) ∧ Below w.heap.size w w' := by
  have HF1 : Hid (∀ o o', NF a4 a6 ((w.alloc o).alloc o')) := fun o o' => ((hF.alloc o).alloc o')
  go_enter Tryd.func24, Tryd.ntmps24
  go_wp2_with fail
  refine (w27 _ _ _ _ (HF1.out _ _)).mono ?_
  rintro e w1 ⟨rfl, hb⟩
  have F1 : Hid (NF a4 a6 w1) := (HF1.out _ _).below hb
  obtain ⟨hc, hf⟩ := bcell (B := w.heap.size + 1 + 1) hb (by simp)
  go_wp2_with fail
  refine (w28_6 _ _ _ F1.out).mono ?_
  rintro e w2 ⟨rfl, hb2⟩
  have F2 : Hid (NF a4 a6 w2) := F1.out.below hb2
  have hb3 := hb.trans (hb2.mono hb.size)
  clear hc hf
  obtain ⟨hc, hf⟩ := bcell (B := w.heap.size + 1 + 1) hb3 (by simp)
  go_wp2_with fail
  refine (w29_6 _ _ _ F2.out).mono ?_
  rintro e w3 ⟨rfl, hb4⟩
  have hb5 := hb3.trans (hb4.mono hb3.size)
  clear hc hf
  obtain ⟨hc, hf⟩ := bcell (B := w.heap.size + 1 + 1) hb5 (by simp)
  go_wp2_with fail
  exact bodyPost_ret (v := .agg #[.int .u64 hi, .int .u64 lo, .pointer (some a6), .int .u8 65]) (by simp [results, Tryd.results24, go_sem, hc]) rfl ⟨rfl, ((((below2 hb5).setCell (by simp) _).setCell (by simp) _).setCell (by simp) _).setCell (by simp) _⟩
end Go.Proofs.Qxb6613335aDoor
