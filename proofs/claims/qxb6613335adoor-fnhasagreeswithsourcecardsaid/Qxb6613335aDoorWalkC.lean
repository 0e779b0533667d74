/-
  THE WALKS of BEUint64, AddrFrom16, ZZaddr4, ZZaddr16, mkEntry, and of the law itself.
-/
import Derived.Test.Qxb6613335aDoorWalkB
import Derived.Deep.QuietTactic
import Derived.BigQuiet
namespace Go.Proofs.Qxb6613335aDoor
open Go.RowKit
set_option maxHeartbeats 1000000 in
theorem w19 (b off cap : Nat) (x0 x1 x2 x3 x4 x5 x6 x7 : Int) (w : World) (c0 : w.cell? ⟨b, off, none⟩ = some (.int .u8 x0)) (c1 : w.cell? ⟨b, off + 1, none⟩ = some (.int .u8 x1)) (c2 : w.cell? ⟨b, off + 2, none⟩ = some (.int .u8 x2)) (c3 : w.cell? ⟨b, off + 3, none⟩ = some (.int .u8 x3)) (c4 : w.cell? ⟨b, off + 4, none⟩ = some (.int .u8 x4)) (c5 : w.cell? ⟨b, off + 5, none⟩ = some (.int .u8 x5)) (c6 : w.cell? ⟨b, off + 6, none⟩ = some (.int .u8 x6)) (c7 : w.cell? ⟨b, off + 7, none⟩ = some (.int .u8 x7)) :
    Calls Tryd.prog 19 #[.slice (some ⟨b, off, none⟩) 8 cap] w fun e w' => (∃ n, e = .returned (.int .u64 n)) ∧ Below w.heap.size w w' := by
  go_enter Tryd.func19, Tryd.ntmps19
  go_wp2
  go_quiet (fail)
  go_wp2
  go_ret
  exact ⟨⟨_, rfl⟩, by refine ⟨rfl, rfl, rfl, ?_, fun _ _ => rfl⟩; exact Nat.le_refl _⟩
theorem w19' (b off cap : Nat) (w : World) (h : ∀ i, i < 8 → ∃ x, w.cell? ⟨b, off + i, none⟩ = some (.int .u8 x)) :
    Calls Tryd.prog 19 #[.slice (some ⟨b, off, none⟩) 8 cap] w fun e w' => (∃ n, e = .returned (.int .u64 n)) ∧ Below w.heap.size w w' := by
  obtain ⟨x0, c0⟩ := h 0 (by omega)
  obtain ⟨x1, c1⟩ := h 1 (by omega)
  obtain ⟨x2, c2⟩ := h 2 (by omega)
  obtain ⟨x3, c3⟩ := h 3 (by omega)
  obtain ⟨x4, c4⟩ := h 4 (by omega)
  obtain ⟨x5, c5⟩ := h 5 (by omega)
  obtain ⟨x6, c6⟩ := h 6 (by omega)
  obtain ⟨x7, c7⟩ := h 7 (by omega)
  exact w19 b off cap x0 x1 x2 x3 x4 x5 x6 x7 w c0 c1 c2 c3 c4 c5 c6 c7

/-- Sixteen bytes in a value. -/
def Bytes16 (a : Array Value) : Prop := ∀ i, i < 16 → ∃ x, a[i]? = some (.int .u8 x)
theorem bytes16_cells {a : Array Value} (ha : Bytes16 a) (w : World) (o' : Obj) (w' : World) (hb : Below ((w.alloc (.cells a 22)).alloc o').heap.size ((w.alloc (.cells a 22)).alloc o') w') :
    ∀ i, i < 16 → ∃ x, w'.cell? ⟨w.heap.size, i, none⟩ = some (.int .u8 x) := by
  intro i hi
  obtain ⟨x, hx⟩ := ha i hi
  refine ⟨x, ?_⟩
  rw [hb.cell (by simp; omega)]
  have e : ((w.alloc (.cells a 22)).alloc o').heap[w.heap.size]? = some (.cells a 22) := by
    rw [Below.heap_alloc _ _ _ (by simp)]; exact (MapKept.heap_alloc w _).1
  simp [World.cell?, e, hx]

set_option maxHeartbeats 1000000 in
theorem w15 (y0 y1 y2 y3 y4 y5 y6 y7 y8 y9 y10 y11 y12 y13 y14 y15 : Value) (ha : Bytes16 #[y0, y1, y2, y3, y4, y5, y6, y7, y8, y9, y10, y11, y12, y13, y14, y15]) {a4 a6 : Addr} (w : World) (hF : NF a4 a6 w) :
    Calls Tryd.prog 15 #[.agg #[y0, y1, y2, y3, y4, y5, y6, y7, y8, y9, y10, y11, y12, y13, y14, y15]] w fun e w' => (∃ h l, e = .returned (.agg #[.int .u64 h, .int .u64 l, .pointer (some a6)])) ∧ Below w.heap.size w w' := by
  have H16 : Hid (∀ (o' : Obj) (w' : World), Below ((w.alloc (.cells #[y0, y1, y2, y3, y4, y5, y6, y7, y8, y9, y10, y11, y12, y13, y14, y15] 22)).alloc o').heap.size ((w.alloc (.cells #[y0, y1, y2, y3, y4, y5, y6, y7, y8, y9, y10, y11, y12, y13, y14, y15] 22)).alloc o') w' → ∀ i, i < 16 → ∃ x, w'.cell? ⟨w.heap.size, i, none⟩ = some (.int .u8 x)) := fun o' w' hb => bytes16_cells ha w o' w' hb
  have q1 := fun o => (hF.alloc o).c1
  have q1' := fun o o' => ((hF.alloc o).alloc o').c1
  clear ha
  go_enter Tryd.func15, Tryd.ntmps15
  go_wp2_with fail
  go_region_with (first
    | (go_at_call_of 19 (Value.slice (some ⟨w.heap.size, 0, none⟩) 8 16); refine (w19' _ _ _ _ (fun i hi => by rw [Nat.zero_add]; exact H16.out _ _ (Below.refl _ _).drew i (by omega))).mono ?_; rintro e w1 ⟨⟨x, rfl⟩, hb⟩; obtain ⟨hc, hf⟩ := bcell (B := w.heap.size + 1 + 1) hb (by simp))
    | (go_at_call 19; refine (w19' _ _ _ _ (fun i hi => H16.out _ _ (below_drewn hb) (8 + i) (by omega))).mono ?_; rintro e w2 ⟨⟨x', rfl⟩, hb2⟩; have hb3 := hb.trans (hb2.mono hb.size); clear hc hf; obtain ⟨hc, hf⟩ := bcell (B := w.heap.size + 1 + 1) hb3 (by simp)))
  all_goals
    have r0 : w2.cell? ⟨w.heap.size + 1, 0, none⟩ = some (.int .u64 0) := by rw [hc _ _ (by omega)]; simp
    have r1 : w2.cell? ⟨w.heap.size + 1, 1, none⟩ = some (.int .u64 0) := by rw [hc _ _ (by omega)]; simp
    have r2 : w2.cell? ⟨w.heap.size + 1, 2, none⟩ = some (.pointer none) := by rw [hc _ _ (by omega)]; simp
    go_wp2_with fail
    refine bodyPost_ret (v := .agg #[.int .u64 x, .int .u64 x', .pointer (some a6)]) (by simp [results, Tryd.results15, go_sem, r0, r1, r2]) rfl ⟨⟨_, _, rfl⟩, ?_⟩
    exact (((below2d hb3).setCell (by simp) _).setCell (by simp) _).setCell (by simp) _

set_option maxHeartbeats 1000000 in
theorem w8 (y0 y1 y2 y3 y4 y5 y6 y7 y8 y9 y10 y11 y12 y13 y14 y15 : Value) (ha : Bytes16 #[y0, y1, y2, y3, y4, y5, y6, y7, y8, y9, y10, y11, y12, y13, y14, y15]) (p : Int) {a4 a6 : Addr} (w : World) (hF : NF a4 a6 w) :
    Calls Tryd.prog 8 #[.agg #[y0, y1, y2, y3, y4, y5, y6, y7, y8, y9, y10, y11, y12, y13, y14, y15], .int .u16 p] w fun e w' => (∃ h l, e = .returned (.agg #[.int .u64 h, .int .u64 l, .pointer (some a6), .int .u16 p])) ∧ Below w.heap.size w w' := by
  have HA : Hid (Bytes16 #[y0, y1, y2, y3, y4, y5, y6, y7, y8, y9, y10, y11, y12, y13, y14, y15]) := ha
  clear ha
  go_enter Tryd.func8, Tryd.ntmps8
  go_wp2_with fail
  refine (w15 _ _ _ _ _ _ _ _ _ _ _ _ _ _ _ _ HA.out _ ((hF.alloc _).alloc _)).mono ?_
  rintro e w1 ⟨⟨h, l, rfl⟩, hb⟩
  go_wp2_with fail
  refine (w13 _ _ _ _ _).mono ?_
  rintro e w2 ⟨rfl, hb2⟩
  have hb3 := hb.trans (hb2.mono hb.size)
  obtain ⟨hc, hf⟩ := bcell (B := w.heap.size + 1 + 1) hb3 (by simp)
  have r0 : w2.cell? ⟨w.heap.size + 1, 0, none⟩ = some (.int .u64 0) := by rw [hc _ _ (by omega)]; simp
  have r1 : w2.cell? ⟨w.heap.size + 1, 1, none⟩ = some (.int .u64 0) := by rw [hc _ _ (by omega)]; simp
  have r2 : w2.cell? ⟨w.heap.size + 1, 2, none⟩ = some (.pointer none) := by rw [hc _ _ (by omega)]; simp
  have r3 : w2.cell? ⟨w.heap.size + 1, 3, none⟩ = some (.int .u16 0) := by rw [hc _ _ (by omega)]; simp
  go_wp2_with fail
  refine bodyPost_ret (v := .agg #[.int .u64 h, .int .u64 l, .pointer (some a6), .int .u16 p]) (by simp [results, Tryd.results8, go_sem, r0, r1, r2, r3]) rfl ⟨⟨_, _, rfl⟩, ?_⟩
  exact ((((below2 hb3).setCell (by simp) _).setCell (by simp) _).setCell (by simp) _).setCell (by simp) _
set_option maxHeartbeats 1000000 in
theorem w7 (x0 x1 x2 x3 p : Int) {a4 a6 : Addr} (w : World) (hF : NF a4 a6 w) :
    Calls Tryd.prog 7 #[.agg #[.int .u8 x0, .int .u8 x1, .int .u8 x2, .int .u8 x3], .int .u16 p] w fun e w' => (∃ h l, e = .returned (.agg #[.int .u64 h, .int .u64 l, .pointer (some a4), .int .u16 p])) ∧ Below w.heap.size w w' := by
  go_enter Tryd.func7, Tryd.ntmps7
  go_wp2_with fail
  refine (w14 _ _ _ _ _ ((hF.alloc _).alloc _)).mono ?_
  rintro e w1 ⟨⟨l, rfl⟩, hb⟩
  go_wp2_with fail
  refine (w13 _ _ _ _ _).mono ?_
  rintro e w2 ⟨rfl, hb2⟩
  have hb3 := hb.trans (hb2.mono hb.size)
  obtain ⟨hc, hf⟩ := bcell (B := w.heap.size + 1 + 1) hb3 (by simp)
  have r0 : w2.cell? ⟨w.heap.size + 1, 0, none⟩ = some (.int .u64 0) := by rw [hc _ _ (by omega)]; simp
  have r1 : w2.cell? ⟨w.heap.size + 1, 1, none⟩ = some (.int .u64 0) := by rw [hc _ _ (by omega)]; simp
  have r2 : w2.cell? ⟨w.heap.size + 1, 2, none⟩ = some (.pointer none) := by rw [hc _ _ (by omega)]; simp
  have r3 : w2.cell? ⟨w.heap.size + 1, 3, none⟩ = some (.int .u16 0) := by rw [hc _ _ (by omega)]; simp
  go_wp2_with fail
  refine bodyPost_ret (v := .agg #[.int .u64 0, .int .u64 l, .pointer (some a4), .int .u16 p]) (by simp [results, Tryd.results7, go_sem, r0, r1, r2, r3]) rfl ⟨⟨_, _, rfl⟩, ?_⟩
  exact ((((below2 hb3).setCell (by simp) _).setCell (by simp) _).setCell (by simp) _).setCell (by simp) _
end Go.Proofs.Qxb6613335aDoor
