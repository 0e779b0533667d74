/-
  SLICES OF ELEMENTS IN MEMORY, and the walks of elemsBytes, hvFit.
-/
import Derived.Test.Qxb6613283aTin
import Derived.Test.Qxb6613283aWalkV
import Derived.Deep.QuietTactic
namespace Go.Proofs.Qxb6613283a
open Go.RowKit

/-- An element's eight cells; q of every length in it. -/
def EInQ (q : Nat → Prop) (w : World) (S : Nat → Prop) (cs : Array Value) (e : El) : Prop :=
  ∃ (n : Nat) (k i : Int) (s : ByteArray) (A : Option Addr) (len cap : Nat), cs = #[.int .u8 k, .int .i64 i, .string s, .slice A len cap, .int .i64 e.start, .int .i64 e.fin, .bool e.pend, .int .u64 e.hv] ∧
    VIn w S q n #[.int .u8 k, .int .i64 i, .string s, .slice A len cap] e.K e.F
theorem EInQ.frame {q : Nat → Prop} {w w' : World} {S S' : Nat → Prop} {cs : Array Value} {e : El} (hb : ∀ k, S k → w'.heap[k]? = w.heap[k]?) (hS : ∀ k, S k → S' k) (h : EInQ q w S cs e) : EInQ q w' S' cs e := by
  obtain ⟨n, k, i, s, A, len, cap, e1, hv⟩ := h
  exact ⟨n, k, i, s, A, len, cap, e1, VIn.frame hb hS (fun _ h => h) n _ _ _ hv⟩

/-- The i-th element of a slice. -/
def EItem (q : Nat → Prop) (w : World) (S : Nat → Prop) (A : Option Addr) (i : Nat) (e : El) : Prop :=
  ∃ (D off : Nat) (c0 c1 c2 c3 c4 c5 c6 c7 : Value), A = some ⟨D, off, none⟩ ∧ S D ∧
    w.cell? ⟨D, off + i * 8, none⟩ = some c0 ∧ w.cell? ⟨D, off + i * 8 + 1, none⟩ = some c1 ∧ w.cell? ⟨D, off + i * 8 + 2, none⟩ = some c2 ∧ w.cell? ⟨D, off + i * 8 + 3, none⟩ = some c3 ∧
    w.cell? ⟨D, off + i * 8 + 4, none⟩ = some c4 ∧ w.cell? ⟨D, off + i * 8 + 5, none⟩ = some c5 ∧ w.cell? ⟨D, off + i * 8 + 6, none⟩ = some c6 ∧ w.cell? ⟨D, off + i * 8 + 7, none⟩ = some c7 ∧
    EInQ q w S #[c0, c1, c2, c3, c4, c5, c6, c7] e
/-- A slice of elements. -/
def SIn (q : Nat → Prop) (w : World) (S : Nat → Prop) (A : Option Addr) (es : List El) : Prop := ∀ i e, es[i]? = some e → EItem q w S A i e

theorem EItem.frame {q : Nat → Prop} {w w' : World} {S S' : Nat → Prop} {A : Option Addr} {i : Nat} {e : El} (hb : ∀ k, S k → w'.heap[k]? = w.heap[k]?) (hS : ∀ k, S k → S' k) (h : EItem q w S A i e) : EItem q w' S' A i e := by
  obtain ⟨D, off, c0, c1, c2, c3, c4, c5, c6, c7, eA, hD, d0, d1, d2, d3, d4, d5, d6, d7, he⟩ := h
  have hc : ∀ o, w'.cell? ⟨D, o, none⟩ = w.cell? ⟨D, o, none⟩ := fun o => World.cell?_of_block (hb D hD)
  exact ⟨D, off, c0, c1, c2, c3, c4, c5, c6, c7, eA, hS D hD, (hc _).trans d0, (hc _).trans d1, (hc _).trans d2, (hc _).trans d3, (hc _).trans d4, (hc _).trans d5, (hc _).trans d6, (hc _).trans d7, he.frame hb hS⟩
theorem SIn.frame {q : Nat → Prop} {w w' : World} {S S' : Nat → Prop} {A : Option Addr} {es : List El} (hb : ∀ k, S k → w'.heap[k]? = w.heap[k]?) (hS : ∀ k, S k → S' k) (h : SIn q w S A es) : SIn q w' S' A es :=
  fun i e he => (h i e he).frame hb hS

/-- The cells of an element of a slice, one by one. -/
theorem EItem.at {q : Nat → Prop} {w : World} {S : Nat → Prop} {A : Option Addr} {i : Nat} {e : El} (h : EItem q w S A i e) :
    ∃ (D off n : Nat) (k v : Int) (s : ByteArray) (B : Option Addr) (len cap : Nat), A = some ⟨D, off, none⟩ ∧ S D ∧
    w.cell? ⟨D, off + i * 8, none⟩ = some (.int .u8 k) ∧ w.cell? ⟨D, off + i * 8 + 1, none⟩ = some (.int .i64 v) ∧ w.cell? ⟨D, off + i * 8 + 2, none⟩ = some (.string s) ∧ w.cell? ⟨D, off + i * 8 + 3, none⟩ = some (.slice B len cap) ∧
    w.cell? ⟨D, off + i * 8 + 4, none⟩ = some (.int .i64 e.start) ∧ w.cell? ⟨D, off + i * 8 + 5, none⟩ = some (.int .i64 e.fin) ∧ w.cell? ⟨D, off + i * 8 + 6, none⟩ = some (.bool e.pend) ∧ w.cell? ⟨D, off + i * 8 + 7, none⟩ = some (.int .u64 e.hv) ∧
    VIn w S q n #[.int .u8 k, .int .i64 v, .string s, .slice B len cap] e.K e.F := by
  obtain ⟨D, off, c0, c1, c2, c3, c4, c5, c6, c7, eA, hD, d0, d1, d2, d3, d4, d5, d6, d7, n, k, v, s, B, len, cap, e1, hv⟩ := h
  simp only [Array.mk.injEq, List.cons.injEq, and_true] at e1
  obtain ⟨rfl, rfl, rfl, rfl, rfl, rfl, rfl, rfl⟩ := e1
  exact ⟨D, off, n, k, v, s, B, len, cap, eA, hD, d0, d1, d2, d3, d4, d5, d6, d7, hv⟩

set_option maxHeartbeats 2000000 in
set_option maxRecDepth 100000 in
theorem elemsBytes_5 (w : World) (S q : Nat → Prop) (A : Option Addr) (len cap : Nat) (es : List El) (hes : SIn q w S A es) (hl : es.length = len) (hll : len ≤ 4096) (hS : ∀ k, S k → k < w.heap.size) :
    Calls Try.prog 5 #[.slice A len cap] w fun r w' => (∃ x : Int, r = .returned (.int .i64 x) ∧ (x ≤ 1048576 → SIn lim w S A es)) ∧ Below w.heap.size w w' := by
  have HE : Hid (SIn q w S A es ∧ es.length = len) := ⟨hes, hl⟩
  clear hes hl
  have hd : decide ((4096 : Int) < len) = false := by simp; omega
  go_enter Try.func5, Try.ntmps5
  go_wp2_with fail
  go_loopg [3, 13] len (fun gf av iv wr => ∃ (j : Nat) (a : Int), j + gf = len ∧ av = .int .i64 a ∧ iv = .int .i64 j ∧ (0 ≤ a ∧ a ≤ 134217728) ∧ (a ≤ 1048576 → ∀ j' e, j' < j → es[j']? = some e → EItem lim w S A j' e) ∧ Below w.heap.size w wr)
  case atStart => exact ⟨0, 64 * (len : Int), by omega, rfl, rfl, by omega, fun _ _ _ h => by omega, Below.refl _ _⟩
  case round =>
    obtain ⟨j, a, hj0, rfl, rfl, ha, hit, hbel⟩ := hrel
    have HJ : Hid (j + gk = len) := hj0
    have HI : Hid ((a ≤ 1048576 → ∀ j' e, j' < j → es[j']? = some e → EItem lim w S A j' e) ∧ Below w.heap.size w wr) := ⟨hit, hbel⟩
    have hjl : j ≤ len := by omega
    clear hj0 hit hbel
    by_cases hlt : j < len
    · by_cases hbig : 1048576 < a
      · have hbig' : decide (1048576 < a) = true := by simpa using hbig
        go_wp2_with fail
        go_ret
        exact ⟨⟨a, rfl, fun h => by omega⟩, HI.out.2⟩
      · have hbig' : decide (1048576 < a) = false := by simpa using hbig
        obtain ⟨e, he⟩ : ∃ e, es[j]? = some e := ⟨_, List.getElem?_eq_getElem (by rw [HE.out.2]; exact hlt)⟩
        have HX : Hid (EItem q w S A j e ∧ es[j]? = some e) := ⟨HE.out.1 j e he, he⟩
        obtain ⟨D, off, n, k, v, s, B, bl, bc, rfl, hD, d0, d1, d2, d3, d4, d5, d6, d7, hv⟩ := HX.out.1.at
        have hb := HI.out.2
        have hc : ∀ o, wr.cell? ⟨D, o, none⟩ = w.cell? ⟨D, o, none⟩ := fun o => World.cell?_of_block (hb.block D (hS D hD))
        have g0 := (hc _).trans d0
        have g1 := (hc _).trans d1
        have g2 := (hc _).trans d2
        have g3 := (hc _).trans d3
        have hvr : VIn wr S q n #[.int .u8 k, .int .i64 v, .string s, .slice B bl bc] e.K e.F := VIn.frame (fun k hk => hb.block k (hS k hk)) (fun _ h => h) (fun _ h => h) n _ _ _ hv
        have HY : Hid (D < wr.heap.size ∧ S D ∧ w.cell? ⟨D, off + j * 8, none⟩ = some (.int .u8 k) ∧ w.cell? ⟨D, off + j * 8 + 1, none⟩ = some (.int .i64 v) ∧ w.cell? ⟨D, off + j * 8 + 2, none⟩ = some (.string s) ∧ w.cell? ⟨D, off + j * 8 + 3, none⟩ = some (.slice B bl bc) ∧ w.cell? ⟨D, off + j * 8 + 4, none⟩ = some (.int .i64 e.start) ∧ w.cell? ⟨D, off + j * 8 + 5, none⟩ = some (.int .i64 e.fin) ∧ w.cell? ⟨D, off + j * 8 + 6, none⟩ = some (.bool e.pend) ∧ w.cell? ⟨D, off + j * 8 + 7, none⟩ = some (.int .u64 e.hv)) := ⟨Nat.lt_of_lt_of_le (hS D hD) hb.size, hD, d0, d1, d2, d3, d4, d5, d6, d7⟩
        clear d0 d1 d2 d3 d4 d5 d6 d7 hv hc hb he
        go_wp2_with fail
        refine (valBytes_15 n wr S q _ e.K e.F a hvr (fun k hk => Nat.lt_of_lt_of_le (hS k hk) HI.out.2.size) (by omega) (by omega)).mono ?_
        rintro r w2 ⟨⟨r, rfl, hr1, hr2, hr3⟩, hb2⟩
        have HR : Hid (r ≤ 1048576 → VIn wr S lim n #[.int .u8 k, .int .i64 v, .string s, .slice B bl bc] e.K e.F) := hr3
        clear hr3 hvr g0 g1 g2 g3
        go_wp2_with fail
        go_roundg (gk - 1)
        case rel =>
          obtain ⟨x1, x2, x3, x4, x5, x6, x7, x8, x9, x10⟩ := HY.out
          refine ⟨j + 1, r, by have := HJ.out; omega, rfl, by go_num, by omega, fun hr j' e' hj' he' => ?_, HI.out.2.trans (hb2.mono HI.out.2.size)⟩
          by_cases hjj : j' < j
          · exact HI.out.1 (by omega) j' e' hjj he'
          · obtain rfl : j' = j := by omega
            rw [HX.out.2] at he'
            cases he'
            exact ⟨D, off, _, _, _, _, _, _, _, _, rfl, x2, x3, x4, x5, x6, x7, x8, x9, x10, n, k, v, s, B, bl, bc, rfl, VIn.frame (fun k hk => (HI.out.2.block k (hS k hk)).symm) (fun _ h => h) (fun _ h => h) n _ _ _ (HR.out hr)⟩
        case measure => have := HJ.out; omega
    · obtain rfl : j = len := by omega
      go_wp2_with fail
      go_ret
      refine ⟨⟨a, rfl, fun h => ?_⟩, HI.out.2⟩
      intro i e he
      refine HI.out.1 h i e ?_ he
      have := (List.getElem?_eq_some_iff.1 he).1
      have := HE.out.2
      omega
end Go.Proofs.Qxb6613283a
