/-
  THE WALK of valBytes.
-/
import Derived.Test.Qxb6613283aVals
namespace Go.Proofs.Qxb6613283a
open Go.RowKit

set_option maxHeartbeats 1000000 in
set_option maxRecDepth 100000 in
theorem valBytes_15 : ∀ (n : Nat) (w : World) (S q : Nat → Prop) (cs : Array Value) (K F : List Int) (acc : Int), VIn w S q n cs K F → (∀ k, S k → k < w.heap.size) → 0 ≤ acc → acc ≤ 1048576 →
    Calls Try.prog 15 #[.agg cs, .int .i64 acc] w fun e w' => (∃ r : Int, e = .returned (.int .i64 r) ∧ acc ≤ r ∧ r ≤ 134217728 ∧ (r ≤ 1048576 → VIn w S lim n cs K F)) ∧ Below w.heap.size w w'
  | 0, _, _, _, _, _, _, _, h, _, _, _ => h.elim
  | n + 1, w, S, q, cs, K, F, acc, ⟨k, i, s, A, len, cap, ks, fs, e1, e2, e3, l1, l2, q1, q2, h⟩, hS, ha0, ha1 => by
    subst e1
    have HV : Hid (∀ j, j < len → Item w S (VIn w S q n) A ks fs j) := h
    have HL : Hid (K = keyOf k i s.toList ks ∧ F = fullOf k i s.toList A.isNone fs ∧ ks.length = len ∧ fs.length = len) := ⟨e2, e3, l1, l2⟩
    have IH := valBytes_15 n
    clear h e2 e3 l1 l2 q1 q2
    have hal : ∀ o, Below w.heap.size w (w.alloc o) := alloc_below w
    by_cases hs : 1048576 < s.size
    · have hs' : decide ((1048576 : Int) < s.size) = true := by simp; omega
      go_enter Try.func15, Try.ntmps15
      go_wp2_with fail
      go_ret
      exact ⟨⟨1048577, rfl, by omega, by omega, fun h => by omega⟩, hal _⟩
    · have hs' : decide ((1048576 : Int) < s.size) = false := by simp; omega
      by_cases hl : 1048576 < len
      · have hl' : decide ((1048576 : Int) < len) = true := by simp; omega
        go_enter Try.func15, Try.ntmps15
        go_wp2_with fail
        go_ret
        exact ⟨⟨1048577, rfl, by omega, by omega, fun h => by omega⟩, hal _⟩
      · have hl' : decide ((1048576 : Int) < len) = false := by simp; omega
        go_enter Try.func15, Try.ntmps15
        go_wp2_with fail
        generalize hA1 : acc + (↑s.size + 56 * ↑len) = a1 at *
        have hA2 : acc ≤ a1 ∧ a1 ≤ 134217728 := by omega
        have hA0 : Hid (acc + (↑s.size + 56 * ↑len) = a1) := hA1
        clear hA1
        go_loopg [1, 29] len (fun gf av iv wr => ∃ (j : Nat) (a : Int), j + gf = len ∧ av = .int .i64 a ∧ iv = .int .i64 j ∧ (acc ≤ a ∧ a ≤ 134217728) ∧ (a ≤ 1048576 → ∀ j', j' < j → Item w S (VIn w S lim n) A ks fs j') ∧ Below w.heap.size w wr ∧ wr.heap[w.heap.size]? = some (.cells #[.int .u8 k, .int .i64 i, .string s, .slice A len cap] 29))
        case atStart => exact ⟨0, a1, by omega, rfl, rfl, hA2, fun _ _ h => by omega, hal _, alloc_at _ _⟩
        case round =>
          obtain ⟨j, a, hj0, rfl, rfl, ha, hit, hbel, hbox⟩ := hrel
          have HJ : Hid (j + gk = len) := hj0
          have HI : Hid ((a ≤ 1048576 → ∀ j', j' < j → Item w S (VIn w S lim n) A ks fs j') ∧ Below w.heap.size w wr) := ⟨hit, hbel⟩
          have hjl : j ≤ len := by omega
          have b3 : wr.cell? ⟨w.heap.size, 3, none⟩ = some (.slice A len cap) := by rw [bcell hbox]; rfl
          have HB : Hid (wr.heap[w.heap.size]? = some (.cells #[.int .u8 k, .int .i64 i, .string s, .slice A len cap] 29)) := hbox
          clear hj0 hit hbel hbox
          by_cases hlt : j < len
          · by_cases hbig : 1048576 < a
            · have hbig' : decide (1048576 < a) = true := by simpa using hbig
              go_wp2_with fail
              go_ret
              exact ⟨⟨a, rfl, ha.1, ha.2, fun h => by omega⟩, HI.out.2⟩
            · have hbig' : decide (1048576 < a) = false := by simpa using hbig
              obtain ⟨D, off, c0, c1, c2, c3, kj, fj, rfl, hD, d0, d1, d2, d3, ek, ef, hv⟩ := HV.out j hlt
              have hb := HI.out.2
              have hc : ∀ o, wr.cell? ⟨D, o, none⟩ = w.cell? ⟨D, o, none⟩ := fun o => World.cell?_of_block (hb.block D (hS D hD))
              have g0 := (hc _).trans d0
              have g1 := (hc _).trans d1
              have g2 := (hc _).trans d2
              have g3 := (hc _).trans d3
              have hvr : VIn wr S q n #[c0, c1, c2, c3] kj fj := VIn.frame (fun k hk => hb.block k (hS k hk)) (fun _ h => h) (fun _ h => h) n _ _ _ hv
              have HX : Hid (D < wr.heap.size ∧ S D ∧ w.cell? ⟨D, off + j * 4, none⟩ = some c0 ∧ w.cell? ⟨D, off + j * 4 + 1, none⟩ = some c1 ∧ w.cell? ⟨D, off + j * 4 + 2, none⟩ = some c2 ∧ w.cell? ⟨D, off + j * 4 + 3, none⟩ = some c3 ∧ ks[j]? = some kj ∧ fs[j]? = some fj ∧ VIn w S q n #[c0, c1, c2, c3] kj fj) := ⟨Nat.lt_of_lt_of_le (hS D hD) hb.size, hD, d0, d1, d2, d3, ek, ef, hv⟩
              clear d0 d1 d2 d3 ek ef hv hc hb
              go_wp2_with fail
              refine (IH _ S q _ kj fj a hvr (fun k hk => Nat.lt_of_lt_of_le (hS k hk) HI.out.2.size) (by omega) (by omega)).mono ?_
              rintro e w2 ⟨⟨r, rfl, hr1, hr2, hr3⟩, hb2⟩
              have HR : Hid (r ≤ 1048576 → VIn wr S lim n #[c0, c1, c2, c3] kj fj) := hr3
              clear hr3 hvr g0 g1 g2 g3
              go_wp2_with fail
              go_roundg (gk - 1)
              case rel =>
                obtain ⟨x1, x2, x3, x4, x5, x6, x7, x8, x9⟩ := HX.out
                refine ⟨j + 1, r, by have := HJ.out; omega, rfl, by go_num, by omega, fun hr j' hj' => ?_, HI.out.2.trans (hb2.mono HI.out.2.size), (hb2.block _ (blt HB.out)).trans HB.out⟩
                by_cases hjj : j' < j
                · exact HI.out.1 (by omega) j' hjj
                · obtain rfl : j' = j := by omega
                  exact ⟨D, off, c0, c1, c2, c3, kj, fj, rfl, x2, x3, x4, x5, x6, x7, x8, VIn.frame (fun k hk => (HI.out.2.block k (hS k hk)).symm) (fun _ h => h) (fun _ h => h) n _ _ _ (HR.out hr)⟩
              case measure => have := HJ.out; omega
          · obtain rfl : j = len := by omega
            go_wp2_with fail
            go_ret
            refine ⟨⟨a, rfl, ha.1, ha.2, fun h => ?_⟩, HI.out.2⟩
            exact ⟨k, i, s, A, _, cap, ks, fs, rfl, HL.out.1, HL.out.2.1, HL.out.2.2.1, HL.out.2.2.2, by unfold lim; omega, by unfold lim; omega, HI.out.1 h⟩
end Go.Proofs.Qxb6613283a
