/-
  VALUES IN MEMORY: what they are (a key, a full code), and that they stay where no block of theirs turns.
-/
import Derived.Test.Qxb6613283aWalkJ
import Derived.Deep.LoopGhost
namespace Go.Proofs.Qxb6613283a
open Go.RowKit

/-- The j-th item of a vector: its four cells, of which V holds. -/
def Item (w : World) (S : Nat → Prop) (V : Array Value → List Int → List Int → Prop) (A : Option Addr) (ks fs : List (List Int)) (j : Nat) : Prop :=
  ∃ (D off : Nat) (c0 c1 c2 c3 : Value) (kj fj : List Int), A = some ⟨D, off, none⟩ ∧ S D ∧
    w.cell? ⟨D, off + j * 4, none⟩ = some c0 ∧ w.cell? ⟨D, off + j * 4 + 1, none⟩ = some c1 ∧ w.cell? ⟨D, off + j * 4 + 2, none⟩ = some c2 ∧ w.cell? ⟨D, off + j * 4 + 3, none⟩ = some c3 ∧
    ks[j]? = some kj ∧ fs[j]? = some fj ∧ V #[c0, c1, c2, c3] kj fj

/-- A value's four cells in the world w: its vector's items lie in blocks of S; q of every length; K is its key, F its full code; so deep at most do vectors nest. -/
def VIn (w : World) (S : Nat → Prop) (q : Nat → Prop) : Nat → Array Value → List Int → List Int → Prop
  | 0, _, _, _ => False
  | n + 1, cs, K, F => ∃ (k i : Int) (s : ByteArray) (A : Option Addr) (len cap : Nat) (ks fs : List (List Int)),
      cs = #[.int .u8 k, .int .i64 i, .string s, .slice A len cap] ∧ K = keyOf k i s.toList ks ∧ F = fullOf k i s.toList A.isNone fs ∧
      ks.length = len ∧ fs.length = len ∧ q s.size ∧ q len ∧ ∀ j, j < len → Item w S (VIn w S q n) A ks fs j

theorem Item.frame {w w' : World} {S S' : Nat → Prop} {V V' : Array Value → List Int → List Int → Prop} {A : Option Addr} {ks fs : List (List Int)} {j : Nat} (hb : ∀ k, S k → w'.heap[k]? = w.heap[k]?) (hS : ∀ k, S k → S' k) (hV : ∀ c K F, V c K F → V' c K F) (h : Item w S V A ks fs j) : Item w' S' V' A ks fs j := by
  obtain ⟨D, off, c0, c1, c2, c3, kj, fj, eA, hD, d0, d1, d2, d3, ek, ef, hv⟩ := h
  have hc : ∀ o, w'.cell? ⟨D, o, none⟩ = w.cell? ⟨D, o, none⟩ := fun o => World.cell?_of_block (hb D hD)
  exact ⟨D, off, c0, c1, c2, c3, kj, fj, eA, hS D hD, (hc _).trans d0, (hc _).trans d1, (hc _).trans d2, (hc _).trans d3, ek, ef, hV _ _ _ hv⟩

theorem VIn.frame {w w' : World} {S S' q q' : Nat → Prop} (hb : ∀ k, S k → w'.heap[k]? = w.heap[k]?) (hS : ∀ k, S k → S' k) (hq : ∀ k, q k → q' k) : ∀ (n : Nat) (cs : Array Value) (K F : List Int), VIn w S q n cs K F → VIn w' S' q' n cs K F
  | 0, _, _, _, h => h
  | n + 1, _, _, _, ⟨k, i, s, A, len, cap, ks, fs, e1, e2, e3, l1, l2, q1, q2, h⟩ =>
    ⟨k, i, s, A, len, cap, ks, fs, e1, e2, e3, l1, l2, hq _ q1, hq _ q2, fun j hj => (h j hj).frame hb hS (VIn.frame hb hS hq n)⟩

theorem VIn.more {w : World} {S q : Nat → Prop} : ∀ (n : Nat) (cs : Array Value) (K F : List Int), VIn w S q n cs K F → VIn w S q (n + 1) cs K F
  | 0, _, _, _, h => h.elim
  | n + 1, _, _, _, ⟨k, i, s, A, len, cap, ks, fs, e1, e2, e3, l1, l2, q1, q2, h⟩ =>
    ⟨k, i, s, A, len, cap, ks, fs, e1, e2, e3, l1, l2, q1, q2, fun j hj => (h j hj).frame (fun _ _ => rfl) (fun _ h => h) (VIn.more n)⟩
theorem VIn.le {w : World} {S q : Nat → Prop} {n m : Nat} (h : n ≤ m) {cs : Array Value} {K F : List Int} (hv : VIn w S q n cs K F) : VIn w S q m cs K F := by
  induction h with
  | refl => exact hv
  | step _ ih => exact VIn.more _ _ _ _ ih

theorem VIn.keyN {w : World} {S q : Nat → Prop} : ∀ (n : Nat) (cs : Array Value) (K F : List Int), VIn w S q n cs K F → KeyN n K ∧ FullN n F
  | 0, _, _, _, h => h.elim
  | n + 1, cs, K, F, ⟨k, i, s, A, len, cap, ks, fs, e1, e2, e3, l1, l2, q1, q2, h⟩ => by
    refine ⟨⟨k, i, s.toList, ks, e2, fun x hx => ?_⟩, ⟨k, i, s.toList, A.isNone, fs, e3, fun x hx => ?_⟩⟩
    · obtain ⟨j, hj, rfl⟩ := List.mem_iff_getElem.1 hx
      obtain ⟨D, off, c0, c1, c2, c3, kj, fj, eA, hD, d0, d1, d2, d3, ek, ef, hv⟩ := h j (by omega)
      rw [List.getElem?_eq_getElem hj] at ek
      cases ek
      exact (VIn.keyN n _ _ _ hv).1
    · obtain ⟨j, hj, rfl⟩ := List.mem_iff_getElem.1 hx
      obtain ⟨D, off, c0, c1, c2, c3, kj, fj, eA, hD, d0, d1, d2, d3, ek, ef, hv⟩ := h j (by omega)
      rw [List.getElem?_eq_getElem hj] at ef
      cases ef
      exact (VIn.keyN n _ _ _ hv).2

/-- The cells of a whole block. -/
theorem bcell {w : World} {b : Nat} {cs : Array Value} {T : TypeId} (h : w.heap[b]? = some (.cells cs T)) (i : Nat) : w.cell? ⟨b, i, none⟩ = cs[i]? := by simp [World.cell?, h]
theorem bfz {w : World} {b : Nat} {cs : Array Value} {T : TypeId} (h : w.heap[b]? = some (.cells cs T)) (i : Nat) : w.frozen? ⟨b, i, none⟩ = false := by simp [World.frozen?, h]
theorem blt {w : World} {b : Nat} {o : Obj} (h : w.heap[b]? = some o) : b < w.heap.size := (Array.getElem?_eq_some_iff.1 h).1
theorem alloc_at (w : World) (o : Obj) : (w.alloc o).heap[w.heap.size]? = some o := by show (w.heap.push o)[w.heap.size]? = some o; simp
theorem alloc_below (w : World) (o : Obj) : Below w.heap.size w (w.alloc o) := (Below.refl _ _).alloc (Nat.le_refl _) _

def lim (n : Nat) : Prop := n ≤ 1048576
def anyLen (_ : Nat) : Prop := True
end Go.Proofs.Qxb6613283a
