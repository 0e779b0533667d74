/-
  THE WALKS of (netip.Addr).Prefix, SourceOf, ZZsourceBits, familyOf, has, ZZhas.
-/
import Derived.Test.Qxb6613335aDoorWalkA
import Derived.Deep.RegionWith
namespace Go.Proofs.Qxb6613335aDoor
open Go.RowKit
theorem below_drewn {B : Nat} {w w1 : World} (hb : Below B w.drew w1) : Below B w w1 := ⟨hb.os, hb.tape, hb.output, hb.size, hb.block⟩
/-- Two blocks of one's own, a draw, then a callee. -/
theorem below2d {w w1 : World} {o o' : Obj} (hb : Below ((w.alloc o).alloc o').drew.heap.size ((w.alloc o).alloc o').drew w1) : Below w.heap.size w w1 := below2 (below_drewn hb)

theorem past2 {w : World} {b b' o1 o2 o : Nat} {u1 u2 : Value} (hne : b' ≠ b) : ((w.setCell ⟨b', o1, none⟩ u1).setCell ⟨b', o2, none⟩ u2).cell? ⟨b, o, none⟩ = w.cell? ⟨b, o, none⟩ := by
  simp [World.cell?, World.setCell, Array.getElem?_modify, hne]

set_option maxHeartbeats 1000000 in
theorem w17_4 (hi lo : Int) {a4 a6 : Addr} (w : World) (hF : NF a4 a6 w) :
    Calls Tryd.prog 17 #[.agg #[.int .u64 hi, .int .u64 lo, .pointer (some a4)], .int .i64 32] w fun e w' => (∃ h l, e = .returned (.tuple #[.agg #[.int .u64 h, .int .u64 l, .pointer (some a4), .int .u8 33], .nilIface])) ∧ Below w.heap.size w w' := by
  have q0 := fun o => (hF.alloc o).c0
  have q2 := fun o => (hF.alloc o).c2
  have q0' := fun o o' => ((hF.alloc o).alloc o').c0
  have q2' := fun o o' => ((hF.alloc o).alloc o').c2
  have e1 := eq_same a4
  have e2 := eq_nil a4
  go_enter Tryd.func17, Tryd.ntmps17
  go_wp2_with fail
  go_region_with (first
    | (go_at_call 23; refine (w23 _ (Or.inr rfl) _).mono ?_; rintro e w1 ⟨⟨x, y, rfl⟩, hb⟩; obtain ⟨hc, hf⟩ := bcell (B := w.heap.size + 1 + 1) hb (by simp))
    | (go_at_call 22; refine (w22 _ _ _ _ _).mono ?_; rintro e w2 ⟨⟨x', y', rfl⟩, hb2⟩; have hb3 := hb.trans (hb2.mono hb.size); clear hc hf; obtain ⟨hc, hf⟩ := bcell (B := w.heap.size + 1 + 1) hb3 (by simp)))
  all_goals
    have k0 : w2.cell? ⟨w.heap.size, 0, none⟩ = some (.int .u64 hi) := by rw [hc _ _ (by omega)]; simp
    have k1 : w2.cell? ⟨w.heap.size, 1, none⟩ = some (.int .u64 lo) := by rw [hc _ _ (by omega)]; simp
    have k2 : w2.cell? ⟨w.heap.size, 2, none⟩ = some (.pointer (some a4)) := by rw [hc _ _ (by omega)]; simp
    clear hc
    have r0 : w2.cell? ⟨w.heap.size + 1, 0, none⟩ = some (.int .u64 0) := by rw [(bcell (B := w.heap.size + 1 + 1) hb3 (by simp)).1 _ _ (by omega)]; simp
    have r1 : w2.cell? ⟨w.heap.size + 1, 1, none⟩ = some (.int .u64 0) := by rw [(bcell (B := w.heap.size + 1 + 1) hb3 (by simp)).1 _ _ (by omega)]; simp
    have r2 : w2.cell? ⟨w.heap.size + 1, 2, none⟩ = some (.pointer none) := by rw [(bcell (B := w.heap.size + 1 + 1) hb3 (by simp)).1 _ _ (by omega)]; simp
    have r3 : w2.cell? ⟨w.heap.size + 1, 3, none⟩ = some (.int .u8 0) := by rw [(bcell (B := w.heap.size + 1 + 1) hb3 (by simp)).1 _ _ (by omega)]; simp
    have g1 : ∀ o, w2.frozen? ⟨w.heap.size + 1, o, none⟩ = false := fun o => by rw [hf _ _ (by omega)]; simp
    have hbx := below2d hb3
    have hz2 : w.heap.size + 1 < w2.heap.size := by have := hb3.size; simp at this; omega
    have HB : Hid (Below w.heap.size w w2) := hbx
    clear hf hb hb2 hb3 hbx
    go_wp2_with fail
    refine (w24_4 _ _ _ (hF.below ((HB.out.setCell (by simp) _).setCell (by simp) _))).mono ?_
    rintro e w3 ⟨rfl, hb4⟩
    obtain ⟨hc, hf⟩ := bcell (B := w2.heap.size) hb4 (by simp)
    have s0 : w3.cell? ⟨w.heap.size + 1, 0, none⟩ = some (.int .u64 0) := by rw [hc _ _ hz2, past2 (by omega)]; exact r0
    have s1 : w3.cell? ⟨w.heap.size + 1, 1, none⟩ = some (.int .u64 0) := by rw [hc _ _ hz2, past2 (by omega)]; exact r1
    have s2 : w3.cell? ⟨w.heap.size + 1, 2, none⟩ = some (.pointer none) := by rw [hc _ _ hz2, past2 (by omega)]; exact r2
    have s3 : w3.cell? ⟨w.heap.size + 1, 3, none⟩ = some (.int .u8 0) := by rw [hc _ _ hz2, past2 (by omega)]; exact r3
    have t1 : ∀ o, w3.frozen? ⟨w.heap.size + 1, o, none⟩ = false := fun o => by rw [hf _ _ hz2]; simp [g1]
    clear hc hf
    go_wp2_with fail
    refine bodyPost_ret (v := .tuple #[.agg #[.int .u64 x', .int .u64 y', .pointer (some a4), .int .u8 33], .nilIface]) (by simp [results, Tryd.results17, go_sem, s0, s1, s2, s3]) rfl ⟨⟨_, _, rfl⟩, ?_⟩
    exact (((((HB.out.setCell (by simp) _).setCell (by simp) _).trans (hb4.mono (by have := HB.out.size; simp; omega))).setCell (by simp) _).setCell (by simp) _ |>.setCell (by simp) _).setCell (by simp) _
set_option maxHeartbeats 1000000 in
theorem w17_6 (hi lo : Int) {a4 a6 : Addr} (w : World) (hF : NF a4 a6 w) :
    Calls Tryd.prog 17 #[.agg #[.int .u64 hi, .int .u64 lo, .pointer (some a6)], .int .i64 64] w fun e w' => (∃ h l, e = .returned (.tuple #[.agg #[.int .u64 h, .int .u64 l, .pointer (some a6), .int .u8 65], .nilIface])) ∧ Below w.heap.size w w' := by
  have q0 := fun o => (hF.alloc o).c0
  have q2 := fun o => (hF.alloc o).c2
  have q0' := fun o o' => ((hF.alloc o).alloc o').c0
  have q2' := fun o o' => ((hF.alloc o).alloc o').c2
  have e1 := fun o o' => ((hF.alloc o).alloc o').eq64
  have e1' := fun o => (hF.alloc o).eq64
  have e2 := eq_nil a6
  go_enter Tryd.func17, Tryd.ntmps17
  go_wp2_with fail
  go_region_with (first
    | (go_at_call 23; refine (w23 _ (Or.inl rfl) _).mono ?_; rintro e w1 ⟨⟨x, y, rfl⟩, hb⟩; obtain ⟨hc, hf⟩ := bcell (B := w.heap.size + 1 + 1) hb (by simp))
    | (go_at_call 22; refine (w22 _ _ _ _ _).mono ?_; rintro e w2 ⟨⟨x', y', rfl⟩, hb2⟩; have hb3 := hb.trans (hb2.mono hb.size); clear hc hf; obtain ⟨hc, hf⟩ := bcell (B := w.heap.size + 1 + 1) hb3 (by simp)))
  all_goals
    have k0 : w2.cell? ⟨w.heap.size, 0, none⟩ = some (.int .u64 hi) := by rw [hc _ _ (by omega)]; simp
    have k1 : w2.cell? ⟨w.heap.size, 1, none⟩ = some (.int .u64 lo) := by rw [hc _ _ (by omega)]; simp
    have k2 : w2.cell? ⟨w.heap.size, 2, none⟩ = some (.pointer (some a6)) := by rw [hc _ _ (by omega)]; simp
    clear hc
    have r0 : w2.cell? ⟨w.heap.size + 1, 0, none⟩ = some (.int .u64 0) := by rw [(bcell (B := w.heap.size + 1 + 1) hb3 (by simp)).1 _ _ (by omega)]; simp
    have r1 : w2.cell? ⟨w.heap.size + 1, 1, none⟩ = some (.int .u64 0) := by rw [(bcell (B := w.heap.size + 1 + 1) hb3 (by simp)).1 _ _ (by omega)]; simp
    have r2 : w2.cell? ⟨w.heap.size + 1, 2, none⟩ = some (.pointer none) := by rw [(bcell (B := w.heap.size + 1 + 1) hb3 (by simp)).1 _ _ (by omega)]; simp
    have r3 : w2.cell? ⟨w.heap.size + 1, 3, none⟩ = some (.int .u8 0) := by rw [(bcell (B := w.heap.size + 1 + 1) hb3 (by simp)).1 _ _ (by omega)]; simp
    have g1 : ∀ o, w2.frozen? ⟨w.heap.size + 1, o, none⟩ = false := fun o => by rw [hf _ _ (by omega)]; simp
    have hbx := below2d hb3
    have hz2 : w.heap.size + 1 < w2.heap.size := by have := hb3.size; simp at this; omega
    have HB : Hid (Below w.heap.size w w2) := hbx
    clear hf hb hb2 hb3 hbx
    go_wp2_with fail
    refine (w24_6 _ _ _ (hF.below ((HB.out.setCell (by simp) _).setCell (by simp) _))).mono ?_
    rintro e w3 ⟨rfl, hb4⟩
    obtain ⟨hc, hf⟩ := bcell (B := w2.heap.size) hb4 (by simp)
    have s0 : w3.cell? ⟨w.heap.size + 1, 0, none⟩ = some (.int .u64 0) := by rw [hc _ _ hz2, past2 (by omega)]; exact r0
    have s1 : w3.cell? ⟨w.heap.size + 1, 1, none⟩ = some (.int .u64 0) := by rw [hc _ _ hz2, past2 (by omega)]; exact r1
    have s2 : w3.cell? ⟨w.heap.size + 1, 2, none⟩ = some (.pointer none) := by rw [hc _ _ hz2, past2 (by omega)]; exact r2
    have s3 : w3.cell? ⟨w.heap.size + 1, 3, none⟩ = some (.int .u8 0) := by rw [hc _ _ hz2, past2 (by omega)]; exact r3
    have t1 : ∀ o, w3.frozen? ⟨w.heap.size + 1, o, none⟩ = false := fun o => by rw [hf _ _ hz2]; simp [g1]
    clear hc hf
    go_wp2_with fail
    refine bodyPost_ret (v := .tuple #[.agg #[.int .u64 x', .int .u64 y', .pointer (some a6), .int .u8 65], .nilIface]) (by simp [results, Tryd.results17, go_sem, s0, s1, s2, s3]) rfl ⟨⟨_, _, rfl⟩, ?_⟩
    exact (((((HB.out.setCell (by simp) _).setCell (by simp) _).trans (hb4.mono (by have := HB.out.size; simp; omega))).setCell (by simp) _).setCell (by simp) _ |>.setCell (by simp) _).setCell (by simp) _

set_option maxHeartbeats 1000000 in
theorem w9_4 (hi lo : Int) {a4 a6 : Addr} (w : World) (hF : NF a4 a6 w) :
    Calls Tryd.prog 9 #[.agg #[.int .u64 hi, .int .u64 lo, .pointer (some a4)]] w fun e w' => (∃ h l, e = .returned (.agg #[.int .u64 h, .int .u64 l, .pointer (some a4), .int .u8 33])) ∧ Below w.heap.size w w' := by
  have HF1 : Hid (∀ o o', NF a4 a6 ((w.alloc o).alloc o')) := fun o o' => ((hF.alloc o).alloc o')
  go_enter Tryd.func9, Tryd.ntmps9
  go_wp2_with fail
  refine (w16_4 _ _ _ (HF1.out _ _)).mono ?_
  rintro e w1 ⟨rfl, hb⟩
  obtain ⟨hc, hf⟩ := bcell (B := w.heap.size + 1 + 1) hb (by simp)
  go_wp2_with fail
  refine (w17_4 _ _ _ ((HF1.out _ _).below hb)).mono ?_
  rintro e w2 ⟨⟨h, l, rfl⟩, hb2⟩
  have hb3 := hb.trans (hb2.mono hb.size)
  clear hc hf
  obtain ⟨hc, hf⟩ := bcell (B := w.heap.size + 1 + 1) hb3 (by simp)
  have hz2 : w.heap.size + 1 < w2.heap.size := by have := hb3.size; simp at this; omega
  have r0 : w2.cell? ⟨w.heap.size + 1, 0, none⟩ = some (.int .u64 0) := by rw [hc _ _ (by omega)]; simp
  have r1 : w2.cell? ⟨w.heap.size + 1, 1, none⟩ = some (.int .u64 0) := by rw [hc _ _ (by omega)]; simp
  have r2 : w2.cell? ⟨w.heap.size + 1, 2, none⟩ = some (.pointer none) := by rw [hc _ _ (by omega)]; simp
  have r3 : w2.cell? ⟨w.heap.size + 1, 3, none⟩ = some (.int .u8 0) := by rw [hc _ _ (by omega)]; simp
  go_wp2_with fail
  refine bodyPost_ret (v := .agg #[.int .u64 h, .int .u64 l, .pointer (some a4), .int .u8 33]) (by simp [results, Tryd.results9, go_sem, r0, r1, r2, r3, hz2]) rfl ⟨⟨_, _, rfl⟩, ?_⟩
  exact (((((below2 hb3).setCell (by simp) _).setCell (by simp) _).setCell (by simp) _).setCell (by simp) _).alloc (by simp; omega) _
set_option maxHeartbeats 1000000 in
theorem w9_6 (hi lo : Int) {a4 a6 : Addr} (w : World) (hF : NF a4 a6 w) :
    Calls Tryd.prog 9 #[.agg #[.int .u64 hi, .int .u64 lo, .pointer (some a6)]] w fun e w' => (∃ h l, e = .returned (.agg #[.int .u64 h, .int .u64 l, .pointer (some a6), .int .u8 65])) ∧ Below w.heap.size w w' := by
  have HF1 : Hid (∀ o o', NF a4 a6 ((w.alloc o).alloc o')) := fun o o' => ((hF.alloc o).alloc o')
  go_enter Tryd.func9, Tryd.ntmps9
  go_wp2_with fail
  refine (w16_6 _ _ _ (HF1.out _ _)).mono ?_
  rintro e w1 ⟨rfl, hb⟩
  obtain ⟨hc, hf⟩ := bcell (B := w.heap.size + 1 + 1) hb (by simp)
  go_wp2_with fail
  refine (w17_6 _ _ _ ((HF1.out _ _).below hb)).mono ?_
  rintro e w2 ⟨⟨h, l, rfl⟩, hb2⟩
  have hb3 := hb.trans (hb2.mono hb.size)
  clear hc hf
  obtain ⟨hc, hf⟩ := bcell (B := w.heap.size + 1 + 1) hb3 (by simp)
  have hz2 : w.heap.size + 1 < w2.heap.size := by have := hb3.size; simp at this; omega
  have r0 : w2.cell? ⟨w.heap.size + 1, 0, none⟩ = some (.int .u64 0) := by rw [hc _ _ (by omega)]; simp
  have r1 : w2.cell? ⟨w.heap.size + 1, 1, none⟩ = some (.int .u64 0) := by rw [hc _ _ (by omega)]; simp
  have r2 : w2.cell? ⟨w.heap.size + 1, 2, none⟩ = some (.pointer none) := by rw [hc _ _ (by omega)]; simp
  have r3 : w2.cell? ⟨w.heap.size + 1, 3, none⟩ = some (.int .u8 0) := by rw [hc _ _ (by omega)]; simp
  go_wp2_with fail
  refine bodyPost_ret (v := .agg #[.int .u64 h, .int .u64 l, .pointer (some a6), .int .u8 65]) (by simp [results, Tryd.results9, go_sem, r0, r1, r2, r3, hz2]) rfl ⟨⟨_, _, rfl⟩, ?_⟩
  exact (((((below2 hb3).setCell (by simp) _).setCell (by simp) _).setCell (by simp) _).setCell (by simp) _).alloc (by simp; omega) _
set_option maxHeartbeats 1000000 in
theorem w5_4 (hi lo p : Int) {a4 a6 : Addr} (w : World) (hF : NF a4 a6 w) :
    Calls Tryd.prog 5 #[.agg #[.int .u64 hi, .int .u64 lo, .pointer (some a4), .int .u16 p]] w fun e w' => e = .returned (.int .i64 32) ∧ Below w.heap.size w w' := by
  have HF1 : Hid (∀ o, NF a4 a6 (w.alloc o)) := fun o => hF.alloc o
  go_enter Tryd.func5, Tryd.ntmps5
  go_wp2_with fail
  refine (w10 _ _ _ _ _).mono ?_
  rintro e w1 ⟨rfl, hb⟩
  go_wp2_with fail
  refine (w9_4 _ _ _ ((HF1.out _).below hb)).mono ?_
  rintro e w2 ⟨⟨h, l, rfl⟩, hb2⟩
  go_wp2_with fail
  refine (w11 _ _ _ _ _ (by omega) (by omega)).mono ?_
  rintro e w3 ⟨rfl, hb3⟩
  go_wp2_with fail
  go_ret
  refine ⟨rfl, ?_⟩
  have k2 := hb.trans (hb2.mono hb.size)
  have k3 := k2.trans (hb3.mono k2.size)
  exact ((Below.refl _ _).alloc (Nat.le_refl _) _).trans (k3.mono (by simp))
set_option maxHeartbeats 1000000 in
theorem w5_6 (hi lo p : Int) {a4 a6 : Addr} (w : World) (hF : NF a4 a6 w) :
    Calls Tryd.prog 5 #[.agg #[.int .u64 hi, .int .u64 lo, .pointer (some a6), .int .u16 p]] w fun e w' => e = .returned (.int .i64 64) ∧ Below w.heap.size w w' := by
  have HF1 : Hid (∀ o, NF a4 a6 (w.alloc o)) := fun o => hF.alloc o
  go_enter Tryd.func5, Tryd.ntmps5
  go_wp2_with fail
  refine (w10 _ _ _ _ _).mono ?_
  rintro e w1 ⟨rfl, hb⟩
  go_wp2_with fail
  refine (w9_6 _ _ _ ((HF1.out _).below hb)).mono ?_
  rintro e w2 ⟨⟨h, l, rfl⟩, hb2⟩
  go_wp2_with fail
  refine (w11 _ _ _ _ _ (by omega) (by omega)).mono ?_
  rintro e w3 ⟨rfl, hb3⟩
  go_wp2_with fail
  go_ret
  refine ⟨rfl, ?_⟩
  have k2 := hb.trans (hb2.mono hb.size)
  have k3 := k2.trans (hb3.mono k2.size)
  exact ((Below.refl _ _).alloc (Nat.le_refl _) _).trans (k3.mono (by simp))
set_option maxHeartbeats 1000000 in
theorem w18_4 (hi lo p : Int) {a4 a6 : Addr} (w : World) (hF : NF a4 a6 w) :
    Calls Tryd.prog 18 #[.agg #[.int .u64 hi, .int .u64 lo, .pointer (some a4), .int .u16 p]] w fun e w' => e = .returned (.int .i64 0) ∧ Below w.heap.size w w' := by
  have HF1 : Hid (∀ o, NF a4 a6 (w.alloc o)) := fun o => hF.alloc o
  go_enter Tryd.func18, Tryd.ntmps18
  go_wp2_with fail
  refine (w10 _ _ _ _ _).mono ?_
  rintro e w1 ⟨rfl, hb⟩
  go_wp2_with fail
  refine (w25_4 _ _ _ ((HF1.out _).below hb)).mono ?_
  rintro e w2 ⟨rfl, hb2⟩
  go_wp2_with fail
  go_ret
  refine ⟨rfl, ?_⟩
  have k2 := hb.trans (hb2.mono hb.size)
  exact ((Below.refl _ _).alloc (Nat.le_refl _) _).trans (k2.mono (by simp))
set_option maxHeartbeats 1000000 in
theorem w18_6 (hi lo p : Int) {a4 a6 : Addr} (w : World) (hF : NF a4 a6 w) :
    Calls Tryd.prog 18 #[.agg #[.int .u64 hi, .int .u64 lo, .pointer (some a6), .int .u16 p]] w fun e w' => e = .returned (.int .i64 1) ∧ Below w.heap.size w w' := by
  have HF1 : Hid (∀ o, NF a4 a6 (w.alloc o)) := fun o => hF.alloc o
  go_enter Tryd.func18, Tryd.ntmps18
  go_wp2_with fail
  refine (w10 _ _ _ _ _).mono ?_
  rintro e w1 ⟨rfl, hb⟩
  go_wp2_with fail
  refine (w25_6 _ _ _ ((HF1.out _).below hb)).mono ?_
  rintro e w2 ⟨rfl, hb2⟩
  go_wp2_with fail
  go_ret
  refine ⟨rfl, ?_⟩
  have k2 := hb.trans (hb2.mono hb.size)
  exact ((Below.refl _ _).alloc (Nat.le_refl _) _).trans (k2.mono (by simp))
set_option maxHeartbeats 1000000 in
theorem w12_4 (f hi lo p : Int) {a4 a6 : Addr} (w : World) (hF : NF a4 a6 w) :
    Calls Tryd.prog 12 #[.int .i64 f, .agg #[.int .u64 hi, .int .u64 lo, .pointer (some a4), .int .u16 p]] w fun e w' => e = .returned (.bool (f == 2 || (0 : Int) == f)) ∧ Below w.heap.size w w' := by
  have HF1 : Hid (∀ o, NF a4 a6 (w.alloc o)) := fun o => hF.alloc o
  cases hf2 : (f == 2)
  · go_enter Tryd.func12, Tryd.ntmps12
    go_wp2_with fail
    refine (w18_4 _ _ _ _ (HF1.out _)).mono ?_
    rintro e w1 ⟨rfl, hb⟩
    go_wp2_with fail
    go_ret
    exact ⟨by simp, ((Below.refl _ _).alloc (Nat.le_refl _) _).trans (hb.mono (by simp))⟩
  · go_enter Tryd.func12, Tryd.ntmps12
    go_wp2_with fail
    go_ret
    exact ⟨by simp, (Below.refl _ _).alloc (Nat.le_refl _) _⟩
set_option maxHeartbeats 1000000 in
theorem w6_4 (f hi lo p : Int) {a4 a6 : Addr} (w : World) (hF : NF a4 a6 w) :
    Calls Tryd.prog 6 #[.int .i64 f, .agg #[.int .u64 hi, .int .u64 lo, .pointer (some a4), .int .u16 p]] w fun e w' => e = .returned (.bool (f == 2 || (0 : Int) == f)) ∧ Below w.heap.size w w' := by
  have HF1 : Hid (∀ o, NF a4 a6 (w.alloc o)) := fun o => hF.alloc o
  go_enter Tryd.func6, Tryd.ntmps6
  go_wp2_with fail
  refine (w12_4 _ _ _ _ _ (HF1.out _)).mono ?_
  rintro e w1 ⟨rfl, hb⟩
  go_wp2_with fail
  go_ret
  exact ⟨rfl, ((Below.refl _ _).alloc (Nat.le_refl _) _).trans (hb.mono (by simp))⟩
set_option maxHeartbeats 1000000 in
theorem w12_6 (f hi lo p : Int) {a4 a6 : Addr} (w : World) (hF : NF a4 a6 w) :
    Calls Tryd.prog 12 #[.int .i64 f, .agg #[.int .u64 hi, .int .u64 lo, .pointer (some a6), .int .u16 p]] w fun e w' => e = .returned (.bool (f == 2 || (1 : Int) == f)) ∧ Below w.heap.size w w' := by
  have HF1 : Hid (∀ o, NF a4 a6 (w.alloc o)) := fun o => hF.alloc o
  cases hf2 : (f == 2)
  · go_enter Tryd.func12, Tryd.ntmps12
    go_wp2_with fail
    refine (w18_6 _ _ _ _ (HF1.out _)).mono ?_
    rintro e w1 ⟨rfl, hb⟩
    go_wp2_with fail
    go_ret
    exact ⟨by simp, ((Below.refl _ _).alloc (Nat.le_refl _) _).trans (hb.mono (by simp))⟩
  · go_enter Tryd.func12, Tryd.ntmps12
    go_wp2_with fail
    go_ret
    exact ⟨by simp, (Below.refl _ _).alloc (Nat.le_refl _) _⟩
set_option maxHeartbeats 1000000 in
theorem w6_6 (f hi lo p : Int) {a4 a6 : Addr} (w : World) (hF : NF a4 a6 w) :
    Calls Tryd.prog 6 #[.int .i64 f, .agg #[.int .u64 hi, .int .u64 lo, .pointer (some a6), .int .u16 p]] w fun e w' => e = .returned (.bool (f == 2 || (1 : Int) == f)) ∧ Below w.heap.size w w' := by
  have HF1 : Hid (∀ o, NF a4 a6 (w.alloc o)) := fun o => hF.alloc o
  go_enter Tryd.func6, Tryd.ntmps6
  go_wp2_with fail
  refine (w12_6 _ _ _ _ _ (HF1.out _)).mono ?_
  rintro e w1 ⟨rfl, hb⟩
  go_wp2_with fail
  go_ret
  exact ⟨rfl, ((Below.refl _ _).alloc (Nat.le_refl _) _).trans (hb.mono (by simp))⟩
end Go.Proofs.Qxb6613335aDoor
