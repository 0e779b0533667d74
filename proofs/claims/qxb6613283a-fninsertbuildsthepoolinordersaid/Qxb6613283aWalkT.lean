/-
  THE WALKS of toValue and fromValue.
-/
import Derived.Test.Qxb6613283aVals
namespace Go.Proofs.Qxb6613283a
open Go.RowKit

/-- The zero value's cells. -/
def Z4 : Array Value := #[.int .u8 0, .int .i64 0, .string ⟨#[]⟩, .slice none 0 0]
theorem info38 : (Try.prog.info? 38).map (fun i => (i.zero, i.size, i.bytes)) = some (some (.agg Z4), 4, 56) := by kernel_rfl
theorem info29 : (Try.prog.info? 29).map (fun i => (i.zero, i.size, i.bytes)) = some (some (.agg Z4), 4, 56) := by kernel_rfl

theorem make36 (n : Nat) (hn : n ≤ 1048576) (w : World) : (Instr.makeSlice 36 (.int .i64 (n : Int)) (.int .i64 (n : Int))).run Try.prog w = .ok (.slice (some ⟨w.heap.size, 0, none⟩) n n) (w.alloc (.cells (madeCells Z4 (n * 4)) 38)) := by
  obtain ⟨i, hi, hzz⟩ := Option.map_eq_some_iff.1 info38
  simp only [Prod.mk.injEq] at hzz
  obtain ⟨hz, hs, hb⟩ := hzz
  have hr := run_make (P := Try.prog) w 36 38 i (.agg Z4) Try.underlying36 hi hz .i64 .i64 n n (by omega) (Int.le_refl _) (by rw [hb]; omega) (by omega)
  simp only [Int.toNat_natCast, hs] at hr
  exact hr
theorem make27 (n : Nat) (hn : n ≤ 1048576) (w : World) : (Instr.makeSlice 27 (.int .i64 (n : Int)) (.int .i64 (n : Int))).run Try.prog w = .ok (.slice (some ⟨w.heap.size, 0, none⟩) n n) (w.alloc (.cells (madeCells Z4 (n * 4)) 29)) := by
  obtain ⟨i, hi, hzz⟩ := Option.map_eq_some_iff.1 info29
  simp only [Prod.mk.injEq] at hzz
  obtain ⟨hz, hs, hb⟩ := hzz
  have hr := run_make (P := Try.prog) w 27 29 i (.agg Z4) Try.underlying27 hi hz .i64 .i64 n n (by omega) (Int.le_refl _) (by rw [hb]; omega) (by omega)
  simp only [Int.toNat_natCast, hs] at hr
  exact hr
theorem row_made (w : World) (n : Nat) (T : TypeId) : (w.alloc (.cells (madeCells Z4 (n * 4)) T)).rowIs w.heap.size T (n * 4) (fun j => Z4[j % 4]!) :=
  ⟨_, alloc_at _ _, size_madeCells _ _, fun i hi => by simp [madeCells, hi, Z4]⟩

theorem VIn.shape {w : World} {S q : Nat → Prop} : ∀ {n : Nat} {cs : Array Value} {K F : List Int}, VIn w S q n cs K F → ∃ (k i : Int) (s : ByteArray) (A : Option Addr) (len cap : Nat), cs = #[.int .u8 k, .int .i64 i, .string s, .slice A len cap]
  | 0, _, _, _, h => h.elim
  | _ + 1, _, _, _, ⟨k, i, s, A, len, cap, _, _, e1, _⟩ => ⟨k, i, s, A, len, cap, e1⟩

/-- Four cells stored, one behind another. -/
def set4 (w : World) (M o : Nat) (x0 x1 x2 x3 : Value) : World := (((w.setCell ⟨M, o, none⟩ x0).setCell ⟨M, o + 1, none⟩ x1).setCell ⟨M, o + 2, none⟩ x2).setCell ⟨M, o + 3, none⟩ x3
theorem set4_block (w : World) (M o : Nat) (x0 x1 x2 x3 : Value) (k : Nat) (hk : k ≠ M) : (set4 w M o x0 x1 x2 x3).heap[k]? = w.heap[k]? :=
  (Below.heap_setCell _ _ _ _ hk).trans ((Below.heap_setCell _ _ _ _ hk).trans ((Below.heap_setCell _ _ _ _ hk).trans (Below.heap_setCell _ _ _ _ hk)))
theorem set4_size (w : World) (M o : Nat) (x0 x1 x2 x3 : Value) : (set4 w M o x0 x1 x2 x3).heap.size = w.heap.size := by simp [set4, World.setCell]
theorem set4_below (w : World) (M o : Nat) (x0 x1 x2 x3 : Value) {B : Nat} (hB : B ≤ M) : Below B w (set4 w M o x0 x1 x2 x3) :=
  ((((Below.refl B w).setCell hB _).setCell hB _).setCell hB _).setCell hB _
theorem set4_row {w : World} {M N : Nat} {T : TypeId} {g : Nat → Value} (h : w.rowIs M T N g) (o : Nat) (x0 x1 x2 x3 : Value) :
    (set4 w M o x0 x1 x2 x3).rowIs M T N (fun j => if j = o + 3 then x3 else if j = o + 2 then x2 else if j = o + 1 then x1 else if j = o then x0 else g j) :=
  (((h.set o x0).set (o + 1) x1).set (o + 2) x2).set (o + 3) x3

set_option maxHeartbeats 2000000 in
set_option maxRecDepth 100000 in
theorem toValue_10 : ∀ (n : Nat) (w : World) (S : Nat → Prop) (cs : Array Value) (K F : List Int), VIn w S lim n cs K F → (∀ k, S k → k < w.heap.size) →
    Calls Try.prog 10 #[.agg cs] w fun e w' => (∃ cs', e = .returned (.agg cs') ∧ VIn w' (fun k => w.heap.size ≤ k ∧ k < w'.heap.size) lim n cs' K F) ∧ Below w.heap.size w w'
  | 0, _, _, _, _, _, h, _ => h.elim
  | n + 1, w, S, cs, K, F, ⟨k0, i, s, A, len, cap, ks, fs, e1, e2, e3, l1, l2, q1, q2, h⟩, hS => by
    subst e1
    have HV : Hid (∀ j, j < len → Item w S (VIn w S lim n) A ks fs j) := h
    have HL : Hid (K = keyOf k0 i s.toList ks ∧ F = fullOf k0 i s.toList A.isNone fs ∧ ks.length = len ∧ fs.length = len ∧ lim s.size) := ⟨e2, e3, l1, l2, q1⟩
    have IH := toValue_10 n
    have hal3 : ∀ a b c, Below w.heap.size w (((w.alloc a).alloc b).alloc c) := fun a b c => ((alloc_below w a).alloc (by simp) b).alloc (by simp; omega) c
    unfold lim at q2
    clear h e2 e3 l1 l2 q1
    cases A with
    | none =>
      have hl0 : len = 0 := by
        rcases Nat.eq_zero_or_pos len with h | h
        · exact h
        · obtain ⟨D, off, c0, c1, c2, c3, kj, fj, eA, _⟩ := HV.out 0 h
          cases eA
      subst hl0
      go_enter Try.func10, Try.ntmps10
      go_wp2_with fail
      refine bodyPost_ret (v := .agg #[.int .u8 k0, .int .i64 i, .string s, .slice none 0 0]) (by simp [results, Try.results10, go_sem]) rfl ⟨⟨_, rfl, ?_⟩, hal3 _ _ _⟩
      exact ⟨k0, i, s, none, 0, 0, ks, fs, rfl, HL.out.1, HL.out.2.1, HL.out.2.2.1, HL.out.2.2.2.1, HL.out.2.2.2.2, by unfold lim; omega, fun j hj => by omega⟩
    | some a =>
      have hmk := make36 len q2
      go_enter Try.func10, Try.ntmps10
      go_wp2_with fail
      have HW : Hid (∀ o1 o2 o3 W0, W0 = ((w.alloc o1).alloc o2).alloc o3 → Below w.heap.size w (W0.alloc (.cells (madeCells Z4 (len * 4)) 38)) ∧ (W0.alloc (.cells (madeCells Z4 (len * 4)) 38)).heap[w.heap.size]? = some o1 ∧ (W0.alloc (.cells (madeCells Z4 (len * 4)) 38)).heap[w.heap.size + 1]? = some o2 ∧ (W0.alloc (.cells (madeCells Z4 (len * 4)) 38)).heap[w.heap.size + 1 + 1]? = some o3 ∧ (W0.alloc (.cells (madeCells Z4 (len * 4)) 38)).rowIs (w.heap.size + 1 + 1 + 1) 38 (len * 4) (fun j => Z4[j % 4]!)) := by
        intro o1 o2 o3 W0 e
        have hz0 : W0.heap.size = w.heap.size + 1 + 1 + 1 := by rw [e]; simp
        have r1 : W0.heap[w.heap.size]? = some o1 := by rw [e]; exact (Below.heap_alloc _ _ _ (by simp; omega)).trans ((Below.heap_alloc _ _ _ (by simp)).trans (alloc_at w o1))
        have r2 : W0.heap[w.heap.size + 1]? = some o2 := by rw [e]; refine (Below.heap_alloc _ _ _ (by simp)).trans ?_; have := alloc_at (w.alloc o1) o2; simpa using this
        have r3 : W0.heap[w.heap.size + 1 + 1]? = some o3 := by rw [e]; have := alloc_at ((w.alloc o1).alloc o2) o3; simpa using this
        refine ⟨?_, (Below.heap_alloc _ _ _ (by omega)).trans r1, (Below.heap_alloc _ _ _ (by omega)).trans r2, (Below.heap_alloc _ _ _ (by omega)).trans r3, ?_⟩
        · rw [e]; exact (hal3 _ _ _).alloc (by simp; omega) _
        · rw [← hz0]; exact row_made W0 len 38
      clear hal3
      obtain ⟨W0, eW0⟩ : ∃ W0, W0 = (((w.alloc (.cells #[.int .u8 k0, .int .i64 i, .string s, .slice (some a) len cap] 29)).alloc (.cells #[.int .u8 0, .int .i64 0, .string ⟨#[]⟩, .slice none 0 0] 38)).alloc (.cells #[.int .u8 k0, .int .i64 i, .string s, .slice none 0 0] 38)) := ⟨_, rfl⟩
      obtain ⟨w1, w2, w3, w4, w5⟩ := HW.out _ _ _ _ eW0
      clear HW hmk
      rw [← eW0]
      clear eW0
      generalize W0.alloc (.cells (madeCells Z4 (len * 4)) 38) = W1 at *
      clear W0
      go_loopg [23] len (fun gf iv wr => ∃ (j : Nat) (g : Nat → Value), j + gf = len ∧ iv = .int .i64 j ∧ wr.rowIs (w.heap.size + 1 + 1 + 1) 38 (len * 4) g ∧
        (∀ j', j' < j → ∃ kj fj, ks[j']? = some kj ∧ fs[j']? = some fj ∧ VIn wr (fun k => w.heap.size + 1 + 1 + 1 < k ∧ k < wr.heap.size) lim n #[g (j' * 4), g (j' * 4 + 1), g (j' * 4 + 2), g (j' * 4 + 3)] kj fj) ∧
        Below w.heap.size w wr ∧ wr.heap[w.heap.size]? = some (.cells #[.int .u8 k0, .int .i64 i, .string s, .slice (some a) len cap] 29) ∧ wr.heap[w.heap.size + 1]? = some (.cells #[.int .u8 0, .int .i64 0, .string ⟨#[]⟩, .slice none 0 0] 38) ∧ wr.heap[w.heap.size + 1 + 1]? = some (.cells #[.int .u8 k0, .int .i64 i, .string s, .slice none 0 0] 38))
      case atStart => exact ⟨0, _, by omega, rfl, w5, fun _ h => by omega, w1, w2, w3, w4⟩
      case round =>
        clear w1 w2 w3 w4 w5
        obtain ⟨j, g, hj0, rfl, hrow, hit, hbel, hb1, hb2, hb3⟩ := hrel
        have HJ : Hid (j + gk = len) := hj0
        have HI : Hid (wr.rowIs (w.heap.size + 1 + 1 + 1) 38 (len * 4) g ∧ (∀ j', j' < j → ∃ kj fj, ks[j']? = some kj ∧ fs[j']? = some fj ∧ VIn wr (fun k => w.heap.size + 1 + 1 + 1 < k ∧ k < wr.heap.size) lim n #[g (j' * 4), g (j' * 4 + 1), g (j' * 4 + 2), g (j' * 4 + 3)] kj fj) ∧
          Below w.heap.size w wr ∧ wr.heap[w.heap.size]? = some (.cells #[.int .u8 k0, .int .i64 i, .string s, .slice (some a) len cap] 29) ∧ wr.heap[w.heap.size + 1]? = some (.cells #[.int .u8 0, .int .i64 0, .string ⟨#[]⟩, .slice none 0 0] 38) ∧ wr.heap[w.heap.size + 1 + 1]? = some (.cells #[.int .u8 k0, .int .i64 i, .string s, .slice none 0 0] 38)) := ⟨hrow, hit, hbel, hb1, hb2, hb3⟩
        have hjl : j ≤ len := by omega
        have cb3 : wr.cell? ⟨w.heap.size, 3, none⟩ = some (.slice (some a) len cap) := by rw [bcell hb1]; rfl
        by_cases hlt : j < len
        · clear hj0 hrow hit hbel hb1 hb2 hb3
          have hiA : (0 : Int) ≤ (j : Int) ∧ (j : Int) < (len : Int) := by omega
          obtain ⟨D, off, c0, c1, c2, c3, kj, fj, ea, hD, d0, d1, d2, d3, ek, ef, hv⟩ := HV.out j hlt
          obtain rfl : a = ⟨D, off, none⟩ := by cases ea; rfl
          have hb := HI.out.2.2.1
          have hc : ∀ o, wr.cell? ⟨D, o, none⟩ = w.cell? ⟨D, o, none⟩ := fun o => World.cell?_of_block (hb.block D (hS D hD))
          have g0 := (hc _).trans d0
          have g1 := (hc _).trans d1
          have g2 := (hc _).trans d2
          have g3 := (hc _).trans d3
          have HX : Hid (VIn wr S lim n #[c0, c1, c2, c3] kj fj ∧ ks[j]? = some kj ∧ fs[j]? = some fj) := ⟨VIn.frame (fun k hk => hb.block k (hS k hk)) (fun _ h => h) (fun _ h => h) n _ _ _ hv, ek, ef⟩
          have hSr : ∀ k, S k → k < wr.heap.size := fun k hk => Nat.lt_of_lt_of_le (hS k hk) hb.size
          clear hv ek ef d0 d1 d2 d3 hc hb
          go_wp2_with fail
          refine (IH wr S _ kj fj HX.out.1 hSr).mono ?_
          rintro e w2 ⟨⟨cs', rfl, hv2⟩, hbw⟩
          obtain ⟨k2, i2, s2, A2, n2, p2, rfl⟩ := hv2.shape
          have hrow2 : w2.rowIs (w.heap.size + 1 + 1 + 1) 38 (len * 4) g := HI.out.1.of_block (hbw.block _ HI.out.1.lt)
          have hfz := fun x => hrow2.frozen x
          have hl0 := hrow2.cell (i := j * 4) (by omega)
          have hl1 := hrow2.cell (i := j * 4 + 1) (by omega)
          have hl2 := hrow2.cell (i := j * 4 + 2) (by omega)
          have hl3 := hrow2.cell (i := j * 4 + 3) (by omega)
          have HY : Hid (VIn w2 (fun k => wr.heap.size ≤ k ∧ k < w2.heap.size) lim n #[.int .u8 k2, .int .i64 i2, .string s2, .slice A2 n2 p2] kj fj ∧ Below wr.heap.size wr w2 ∧ w2.rowIs (w.heap.size + 1 + 1 + 1) 38 (len * 4) g) := ⟨hv2, hbw, hrow2⟩
          clear hv2 hbw hrow2 g0 g1 g2 g3
          go_wp2_with fail
          go_roundg (gk - 1)
          case rel =>
            obtain ⟨hv2, hbw, hrow2⟩ := HY.out
            obtain ⟨hrow, hit, hbel, hb1, hb2, hb3⟩ := HI.out
            have hMlt : w.heap.size + 1 + 1 + 1 < wr.heap.size := hrow.lt
            have hblk : ∀ k, k ≠ w.heap.size + 1 + 1 + 1 → (set4 w2 (w.heap.size + 1 + 1 + 1) (j * 4) (.int .u8 k2) (.int .i64 i2) (.string s2) (.slice A2 n2 p2)).heap[k]? = w2.heap[k]? := fun k hk => set4_block _ _ _ _ _ _ _ k hk
            have hsz : (set4 w2 (w.heap.size + 1 + 1 + 1) (j * 4) (.int .u8 k2) (.int .i64 i2) (.string s2) (.slice A2 n2 p2)).heap.size = w2.heap.size := set4_size _ _ _ _ _ _ _
            refine ⟨j + 1, _, by have := HJ.out; omega, by go_num, set4_row hrow2 (j * 4) _ _ _ _, fun j' hj' => ?_, ?_, ?_, ?_, ?_⟩
            · by_cases hjj : j' < j
              · obtain ⟨kj', fj', h1, h2, h3⟩ := hit j' hjj
                refine ⟨kj', fj', h1, h2, ?_⟩
                simp only [show ¬ j' * 4 = j * 4 + 3 by omega, show ¬ j' * 4 = j * 4 + 2 by omega, show ¬ j' * 4 = j * 4 + 1 by omega, show ¬ j' * 4 = j * 4 by omega, show ¬ j' * 4 + 1 = j * 4 + 3 by omega, show ¬ j' * 4 + 1 = j * 4 + 2 by omega, show ¬ j' * 4 + 1 = j * 4 + 1 by omega, show ¬ j' * 4 + 1 = j * 4 by omega,
                  show ¬ j' * 4 + 2 = j * 4 + 3 by omega, show ¬ j' * 4 + 2 = j * 4 + 2 by omega, show ¬ j' * 4 + 2 = j * 4 + 1 by omega, show ¬ j' * 4 + 2 = j * 4 by omega, show ¬ j' * 4 + 3 = j * 4 + 3 by omega, show ¬ j' * 4 + 3 = j * 4 + 2 by omega, show ¬ j' * 4 + 3 = j * 4 + 1 by omega, show ¬ j' * 4 + 3 = j * 4 by omega, if_false]
                exact VIn.frame (fun k hk => (hblk k (by omega)).trans (hbw.block k hk.2)) (fun k hk => ⟨hk.1, Nat.lt_of_lt_of_eq (Nat.lt_of_lt_of_le hk.2 hbw.size) hsz.symm⟩) (fun _ h => h) n _ _ _ h3
              · obtain rfl : j' = j := by omega
                refine ⟨kj, fj, HX.out.2.1, HX.out.2.2, ?_⟩
                simp only [show ¬ j' * 4 = j' * 4 + 3 by omega, show ¬ j' * 4 = j' * 4 + 2 by omega, show ¬ j' * 4 = j' * 4 + 1 by omega, show ¬ j' * 4 + 1 = j' * 4 + 3 by omega, show ¬ j' * 4 + 1 = j' * 4 + 2 by omega, show ¬ j' * 4 + 2 = j' * 4 + 3 by omega, if_false, if_true]
                exact VIn.frame (fun k hk => hblk k (by have := hk.1; omega)) (fun k hk => ⟨by have := hk.1; omega, Nat.lt_of_lt_of_eq hk.2 hsz.symm⟩) (fun _ h => h) n _ _ _ hv2
            · exact (hbel.trans (hbw.mono hbel.size)).trans (set4_below _ _ _ _ _ _ _ (by omega))
            · exact (hblk _ (by omega)).trans ((hbw.block _ (by omega)).trans hb1)
            · exact (hblk _ (by omega)).trans ((hbw.block _ (by omega)).trans hb2)
            · exact (hblk _ (by omega)).trans ((hbw.block _ (by omega)).trans hb3)
          case measure => have := HJ.out; omega
        · obtain rfl : len = j := by omega
          have bc := fun x => bcell hb1 x
          have bc2 := fun x => bcell hb2 x
          have bc3 := fun x => bcell hb3 x
          have bf2 := fun x => bfz hb2 x
          have bf3 := fun x => bfz hb3 x
          clear hj0 hrow hit hbel hb1 hb2 hb3
          go_wp2_with fail
          refine bodyPost_ret (v := .agg #[.int .u8 k0, .int .i64 i, .string s, .slice (some ⟨w.heap.size + 1 + 1 + 1, 0, none⟩) len len]) (by simp [results, Try.results10, go_sem, bc2]) rfl ⟨⟨_, rfl, ?_⟩, ?_⟩
          · obtain ⟨hrow, hit, hbel, hb1, hb2, hb3⟩ := HI.out
            have hblk : ∀ k, w.heap.size + 1 + 1 < k → (set4 (wr.setCell ⟨w.heap.size + 1 + 1, 3, none⟩ (.slice (some ⟨w.heap.size + 1 + 1 + 1, 0, none⟩) len len)) (w.heap.size + 1) 0 (.int .u8 k0) (.int .i64 i) (.string s) (.slice (some ⟨w.heap.size + 1 + 1 + 1, 0, none⟩) len len)).heap[k]? = wr.heap[k]? :=
              fun k hk => (set4_block _ _ _ _ _ _ _ k (by omega)).trans (Below.heap_setCell _ _ _ _ (by show k ≠ w.heap.size + 1 + 1; omega))
            have hsz : (set4 (wr.setCell ⟨w.heap.size + 1 + 1, 3, none⟩ (.slice (some ⟨w.heap.size + 1 + 1 + 1, 0, none⟩) len len)) (w.heap.size + 1) 0 (.int .u8 k0) (.int .i64 i) (.string s) (.slice (some ⟨w.heap.size + 1 + 1 + 1, 0, none⟩) len len)).heap.size = wr.heap.size :=
              (set4_size _ _ _ _ _ _ _).trans (by simp [World.setCell])
            have hrow3 := hrow.of_block (hblk _ (by omega))
            refine ⟨k0, i, s, _, _, _, ks, fs, rfl, HL.out.1, HL.out.2.1, HL.out.2.2.1, HL.out.2.2.2.1, HL.out.2.2.2.2, q2, fun j hj => ?_⟩
            obtain ⟨kj, fj, h1, h2, h3⟩ := hit j hj
            refine ⟨w.heap.size + 1 + 1 + 1, 0, _, _, _, _, kj, fj, rfl, ⟨by omega, Nat.lt_of_lt_of_eq hrow.lt hsz.symm⟩, by rw [Nat.zero_add]; exact hrow3.cell (by omega), by rw [Nat.zero_add]; exact hrow3.cell (by omega), by rw [Nat.zero_add]; exact hrow3.cell (by omega), by rw [Nat.zero_add]; exact hrow3.cell (by omega), h1, h2, ?_⟩
            exact VIn.frame (fun k hk => hblk k (by omega)) (fun k hk => ⟨by omega, Nat.lt_of_lt_of_eq hk.2 hsz.symm⟩) (fun _ h => h) n _ _ _ h3
          · exact (HI.out.2.2.1.setCell (by show w.heap.size ≤ w.heap.size + 1 + 1; omega) _).trans (set4_below _ _ 0 _ _ _ _ (by omega))
set_option maxHeartbeats 2000000 in
set_option maxRecDepth 100000 in
theorem fromValue_40 : ∀ (n : Nat) (w : World) (S : Nat → Prop) (cs : Array Value) (K F : List Int), VIn w S lim n cs K F → (∀ k, S k → k < w.heap.size) →
    Calls Try.prog 40 #[.agg cs] w fun e w' => (∃ cs', e = .returned (.agg cs') ∧ VIn w' (fun k => w.heap.size ≤ k ∧ k < w'.heap.size) lim n cs' K F) ∧ Below w.heap.size w w'
  | 0, _, _, _, _, _, h, _ => h.elim
  | n + 1, w, S, cs, K, F, ⟨k0, i, s, A, len, cap, ks, fs, e1, e2, e3, l1, l2, q1, q2, h⟩, hS => by
    subst e1
    have HV : Hid (∀ j, j < len → Item w S (VIn w S lim n) A ks fs j) := h
    have HL : Hid (K = keyOf k0 i s.toList ks ∧ F = fullOf k0 i s.toList A.isNone fs ∧ ks.length = len ∧ fs.length = len ∧ lim s.size) := ⟨e2, e3, l1, l2, q1⟩
    have IH := fromValue_40 n
    have hal3 : ∀ a b c, Below w.heap.size w (((w.alloc a).alloc b).alloc c) := fun a b c => ((alloc_below w a).alloc (by simp) b).alloc (by simp; omega) c
    unfold lim at q2
    clear h e2 e3 l1 l2 q1
    cases A with
    | none =>
      have hl0 : len = 0 := by
        rcases Nat.eq_zero_or_pos len with h | h
        · exact h
        · obtain ⟨D, off, c0, c1, c2, c3, kj, fj, eA, _⟩ := HV.out 0 h
          cases eA
      subst hl0
      go_enter Try.func40, Try.ntmps40
      go_wp2_with fail
      refine bodyPost_ret (v := .agg #[.int .u8 k0, .int .i64 i, .string s, .slice none 0 0]) (by simp [results, Try.results40, go_sem]) rfl ⟨⟨_, rfl, ?_⟩, hal3 _ _ _⟩
      exact ⟨k0, i, s, none, 0, 0, ks, fs, rfl, HL.out.1, HL.out.2.1, HL.out.2.2.1, HL.out.2.2.2.1, HL.out.2.2.2.2, by unfold lim; omega, fun j hj => by omega⟩
    | some a =>
      have hmk := make27 len q2
      go_enter Try.func40, Try.ntmps40
      go_wp2_with fail
      have HW : Hid (∀ o1 o2 o3 W0, W0 = ((w.alloc o1).alloc o2).alloc o3 → Below w.heap.size w (W0.alloc (.cells (madeCells Z4 (len * 4)) 29)) ∧ (W0.alloc (.cells (madeCells Z4 (len * 4)) 29)).heap[w.heap.size]? = some o1 ∧ (W0.alloc (.cells (madeCells Z4 (len * 4)) 29)).heap[w.heap.size + 1]? = some o2 ∧ (W0.alloc (.cells (madeCells Z4 (len * 4)) 29)).heap[w.heap.size + 1 + 1]? = some o3 ∧ (W0.alloc (.cells (madeCells Z4 (len * 4)) 29)).rowIs (w.heap.size + 1 + 1 + 1) 29 (len * 4) (fun j => Z4[j % 4]!)) := by
        intro o1 o2 o3 W0 e
        have hz0 : W0.heap.size = w.heap.size + 1 + 1 + 1 := by rw [e]; simp
        have r1 : W0.heap[w.heap.size]? = some o1 := by rw [e]; exact (Below.heap_alloc _ _ _ (by simp; omega)).trans ((Below.heap_alloc _ _ _ (by simp)).trans (alloc_at w o1))
        have r2 : W0.heap[w.heap.size + 1]? = some o2 := by rw [e]; refine (Below.heap_alloc _ _ _ (by simp)).trans ?_; have := alloc_at (w.alloc o1) o2; simpa using this
        have r3 : W0.heap[w.heap.size + 1 + 1]? = some o3 := by rw [e]; have := alloc_at ((w.alloc o1).alloc o2) o3; simpa using this
        refine ⟨?_, (Below.heap_alloc _ _ _ (by omega)).trans r1, (Below.heap_alloc _ _ _ (by omega)).trans r2, (Below.heap_alloc _ _ _ (by omega)).trans r3, ?_⟩
        · rw [e]; exact (hal3 _ _ _).alloc (by simp; omega) _
        · rw [← hz0]; exact row_made W0 len 29
      clear hal3
      obtain ⟨W0, eW0⟩ : ∃ W0, W0 = (((w.alloc (.cells #[.int .u8 k0, .int .i64 i, .string s, .slice (some a) len cap] 38)).alloc (.cells #[.int .u8 0, .int .i64 0, .string ⟨#[]⟩, .slice none 0 0] 29)).alloc (.cells #[.int .u8 k0, .int .i64 i, .string s, .slice none 0 0] 29)) := ⟨_, rfl⟩
      obtain ⟨w1, w2, w3, w4, w5⟩ := HW.out _ _ _ _ eW0
      clear HW hmk
      rw [← eW0]
      clear eW0
      generalize W0.alloc (.cells (madeCells Z4 (len * 4)) 29) = W1 at *
      clear W0
      go_loopg [23] len (fun gf iv wr => ∃ (j : Nat) (g : Nat → Value), j + gf = len ∧ iv = .int .i64 j ∧ wr.rowIs (w.heap.size + 1 + 1 + 1) 29 (len * 4) g ∧
        (∀ j', j' < j → ∃ kj fj, ks[j']? = some kj ∧ fs[j']? = some fj ∧ VIn wr (fun k => w.heap.size + 1 + 1 + 1 < k ∧ k < wr.heap.size) lim n #[g (j' * 4), g (j' * 4 + 1), g (j' * 4 + 2), g (j' * 4 + 3)] kj fj) ∧
        Below w.heap.size w wr ∧ wr.heap[w.heap.size]? = some (.cells #[.int .u8 k0, .int .i64 i, .string s, .slice (some a) len cap] 38) ∧ wr.heap[w.heap.size + 1]? = some (.cells #[.int .u8 0, .int .i64 0, .string ⟨#[]⟩, .slice none 0 0] 29) ∧ wr.heap[w.heap.size + 1 + 1]? = some (.cells #[.int .u8 k0, .int .i64 i, .string s, .slice none 0 0] 29))
      case atStart => exact ⟨0, _, by omega, rfl, w5, fun _ h => by omega, w1, w2, w3, w4⟩
      case round =>
        clear w1 w2 w3 w4 w5
        obtain ⟨j, g, hj0, rfl, hrow, hit, hbel, hb1, hb2, hb3⟩ := hrel
        have HJ : Hid (j + gk = len) := hj0
        have HI : Hid (wr.rowIs (w.heap.size + 1 + 1 + 1) 29 (len * 4) g ∧ (∀ j', j' < j → ∃ kj fj, ks[j']? = some kj ∧ fs[j']? = some fj ∧ VIn wr (fun k => w.heap.size + 1 + 1 + 1 < k ∧ k < wr.heap.size) lim n #[g (j' * 4), g (j' * 4 + 1), g (j' * 4 + 2), g (j' * 4 + 3)] kj fj) ∧
          Below w.heap.size w wr ∧ wr.heap[w.heap.size]? = some (.cells #[.int .u8 k0, .int .i64 i, .string s, .slice (some a) len cap] 38) ∧ wr.heap[w.heap.size + 1]? = some (.cells #[.int .u8 0, .int .i64 0, .string ⟨#[]⟩, .slice none 0 0] 29) ∧ wr.heap[w.heap.size + 1 + 1]? = some (.cells #[.int .u8 k0, .int .i64 i, .string s, .slice none 0 0] 29)) := ⟨hrow, hit, hbel, hb1, hb2, hb3⟩
        have hjl : j ≤ len := by omega
        have cb3 : wr.cell? ⟨w.heap.size, 3, none⟩ = some (.slice (some a) len cap) := by rw [bcell hb1]; rfl
        by_cases hlt : j < len
        · clear hj0 hrow hit hbel hb1 hb2 hb3
          have hiA : (0 : Int) ≤ (j : Int) ∧ (j : Int) < (len : Int) := by omega
          obtain ⟨D, off, c0, c1, c2, c3, kj, fj, ea, hD, d0, d1, d2, d3, ek, ef, hv⟩ := HV.out j hlt
          obtain rfl : a = ⟨D, off, none⟩ := by cases ea; rfl
          have hb := HI.out.2.2.1
          have hc : ∀ o, wr.cell? ⟨D, o, none⟩ = w.cell? ⟨D, o, none⟩ := fun o => World.cell?_of_block (hb.block D (hS D hD))
          have g0 := (hc _).trans d0
          have g1 := (hc _).trans d1
          have g2 := (hc _).trans d2
          have g3 := (hc _).trans d3
          have HX : Hid (VIn wr S lim n #[c0, c1, c2, c3] kj fj ∧ ks[j]? = some kj ∧ fs[j]? = some fj) := ⟨VIn.frame (fun k hk => hb.block k (hS k hk)) (fun _ h => h) (fun _ h => h) n _ _ _ hv, ek, ef⟩
          have hSr : ∀ k, S k → k < wr.heap.size := fun k hk => Nat.lt_of_lt_of_le (hS k hk) hb.size
          clear hv ek ef d0 d1 d2 d3 hc hb
          go_wp2_with fail
          refine (IH wr S _ kj fj HX.out.1 hSr).mono ?_
          rintro e w2 ⟨⟨cs', rfl, hv2⟩, hbw⟩
          obtain ⟨k2, i2, s2, A2, n2, p2, rfl⟩ := hv2.shape
          have hrow2 : w2.rowIs (w.heap.size + 1 + 1 + 1) 29 (len * 4) g := HI.out.1.of_block (hbw.block _ HI.out.1.lt)
          have hfz := fun x => hrow2.frozen x
          have hl0 := hrow2.cell (i := j * 4) (by omega)
          have hl1 := hrow2.cell (i := j * 4 + 1) (by omega)
          have hl2 := hrow2.cell (i := j * 4 + 2) (by omega)
          have hl3 := hrow2.cell (i := j * 4 + 3) (by omega)
          have HY : Hid (VIn w2 (fun k => wr.heap.size ≤ k ∧ k < w2.heap.size) lim n #[.int .u8 k2, .int .i64 i2, .string s2, .slice A2 n2 p2] kj fj ∧ Below wr.heap.size wr w2 ∧ w2.rowIs (w.heap.size + 1 + 1 + 1) 29 (len * 4) g) := ⟨hv2, hbw, hrow2⟩
          clear hv2 hbw hrow2 g0 g1 g2 g3
          go_wp2_with fail
          go_roundg (gk - 1)
          case rel =>
            obtain ⟨hv2, hbw, hrow2⟩ := HY.out
            obtain ⟨hrow, hit, hbel, hb1, hb2, hb3⟩ := HI.out
            have hMlt : w.heap.size + 1 + 1 + 1 < wr.heap.size := hrow.lt
            have hblk : ∀ k, k ≠ w.heap.size + 1 + 1 + 1 → (set4 w2 (w.heap.size + 1 + 1 + 1) (j * 4) (.int .u8 k2) (.int .i64 i2) (.string s2) (.slice A2 n2 p2)).heap[k]? = w2.heap[k]? := fun k hk => set4_block _ _ _ _ _ _ _ k hk
            have hsz : (set4 w2 (w.heap.size + 1 + 1 + 1) (j * 4) (.int .u8 k2) (.int .i64 i2) (.string s2) (.slice A2 n2 p2)).heap.size = w2.heap.size := set4_size _ _ _ _ _ _ _
            refine ⟨j + 1, _, by have := HJ.out; omega, by go_num, set4_row hrow2 (j * 4) _ _ _ _, fun j' hj' => ?_, ?_, ?_, ?_, ?_⟩
            · by_cases hjj : j' < j
              · obtain ⟨kj', fj', h1, h2, h3⟩ := hit j' hjj
                refine ⟨kj', fj', h1, h2, ?_⟩
                simp only [show ¬ j' * 4 = j * 4 + 3 by omega, show ¬ j' * 4 = j * 4 + 2 by omega, show ¬ j' * 4 = j * 4 + 1 by omega, show ¬ j' * 4 = j * 4 by omega, show ¬ j' * 4 + 1 = j * 4 + 3 by omega, show ¬ j' * 4 + 1 = j * 4 + 2 by omega, show ¬ j' * 4 + 1 = j * 4 + 1 by omega, show ¬ j' * 4 + 1 = j * 4 by omega,
                  show ¬ j' * 4 + 2 = j * 4 + 3 by omega, show ¬ j' * 4 + 2 = j * 4 + 2 by omega, show ¬ j' * 4 + 2 = j * 4 + 1 by omega, show ¬ j' * 4 + 2 = j * 4 by omega, show ¬ j' * 4 + 3 = j * 4 + 3 by omega, show ¬ j' * 4 + 3 = j * 4 + 2 by omega, show ¬ j' * 4 + 3 = j * 4 + 1 by omega, show ¬ j' * 4 + 3 = j * 4 by omega, if_false]
                exact VIn.frame (fun k hk => (hblk k (by omega)).trans (hbw.block k hk.2)) (fun k hk => ⟨hk.1, Nat.lt_of_lt_of_eq (Nat.lt_of_lt_of_le hk.2 hbw.size) hsz.symm⟩) (fun _ h => h) n _ _ _ h3
              · obtain rfl : j' = j := by omega
                refine ⟨kj, fj, HX.out.2.1, HX.out.2.2, ?_⟩
                simp only [show ¬ j' * 4 = j' * 4 + 3 by omega, show ¬ j' * 4 = j' * 4 + 2 by omega, show ¬ j' * 4 = j' * 4 + 1 by omega, show ¬ j' * 4 + 1 = j' * 4 + 3 by omega, show ¬ j' * 4 + 1 = j' * 4 + 2 by omega, show ¬ j' * 4 + 2 = j' * 4 + 3 by omega, if_false, if_true]
                exact VIn.frame (fun k hk => hblk k (by have := hk.1; omega)) (fun k hk => ⟨by have := hk.1; omega, Nat.lt_of_lt_of_eq hk.2 hsz.symm⟩) (fun _ h => h) n _ _ _ hv2
            · exact (hbel.trans (hbw.mono hbel.size)).trans (set4_below _ _ _ _ _ _ _ (by omega))
            · exact (hblk _ (by omega)).trans ((hbw.block _ (by omega)).trans hb1)
            · exact (hblk _ (by omega)).trans ((hbw.block _ (by omega)).trans hb2)
            · exact (hblk _ (by omega)).trans ((hbw.block _ (by omega)).trans hb3)
          case measure => have := HJ.out; omega
        · obtain rfl : len = j := by omega
          have bc := fun x => bcell hb1 x
          have bc2 := fun x => bcell hb2 x
          have bc3 := fun x => bcell hb3 x
          have bf2 := fun x => bfz hb2 x
          have bf3 := fun x => bfz hb3 x
          clear hj0 hrow hit hbel hb1 hb2 hb3
          go_wp2_with fail
          refine bodyPost_ret (v := .agg #[.int .u8 k0, .int .i64 i, .string s, .slice (some ⟨w.heap.size + 1 + 1 + 1, 0, none⟩) len len]) (by simp [results, Try.results40, go_sem, bc2]) rfl ⟨⟨_, rfl, ?_⟩, ?_⟩
          · obtain ⟨hrow, hit, hbel, hb1, hb2, hb3⟩ := HI.out
            have hblk : ∀ k, w.heap.size + 1 + 1 < k → (set4 (wr.setCell ⟨w.heap.size + 1 + 1, 3, none⟩ (.slice (some ⟨w.heap.size + 1 + 1 + 1, 0, none⟩) len len)) (w.heap.size + 1) 0 (.int .u8 k0) (.int .i64 i) (.string s) (.slice (some ⟨w.heap.size + 1 + 1 + 1, 0, none⟩) len len)).heap[k]? = wr.heap[k]? :=
              fun k hk => (set4_block _ _ _ _ _ _ _ k (by omega)).trans (Below.heap_setCell _ _ _ _ (by show k ≠ w.heap.size + 1 + 1; omega))
            have hsz : (set4 (wr.setCell ⟨w.heap.size + 1 + 1, 3, none⟩ (.slice (some ⟨w.heap.size + 1 + 1 + 1, 0, none⟩) len len)) (w.heap.size + 1) 0 (.int .u8 k0) (.int .i64 i) (.string s) (.slice (some ⟨w.heap.size + 1 + 1 + 1, 0, none⟩) len len)).heap.size = wr.heap.size :=
              (set4_size _ _ _ _ _ _ _).trans (by simp [World.setCell])
            have hrow3 := hrow.of_block (hblk _ (by omega))
            refine ⟨k0, i, s, _, _, _, ks, fs, rfl, HL.out.1, HL.out.2.1, HL.out.2.2.1, HL.out.2.2.2.1, HL.out.2.2.2.2, q2, fun j hj => ?_⟩
            obtain ⟨kj, fj, h1, h2, h3⟩ := hit j hj
            refine ⟨w.heap.size + 1 + 1 + 1, 0, _, _, _, _, kj, fj, rfl, ⟨by omega, Nat.lt_of_lt_of_eq hrow.lt hsz.symm⟩, by rw [Nat.zero_add]; exact hrow3.cell (by omega), by rw [Nat.zero_add]; exact hrow3.cell (by omega), by rw [Nat.zero_add]; exact hrow3.cell (by omega), by rw [Nat.zero_add]; exact hrow3.cell (by omega), h1, h2, ?_⟩
            exact VIn.frame (fun k hk => hblk k (by omega)) (fun k hk => ⟨by omega, Nat.lt_of_lt_of_eq hk.2 hsz.symm⟩) (fun _ h => h) n _ _ _ h3
          · exact (HI.out.2.2.1.setCell (by show w.heap.size ≤ w.heap.size + 1 + 1; omega) _).trans (set4_below _ _ 0 _ _ _ _ (by omega))
end Go.Proofs.Qxb6613283a
