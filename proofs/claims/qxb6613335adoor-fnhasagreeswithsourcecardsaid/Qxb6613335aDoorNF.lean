/-
  WHAT THE WALKS ARE TOLD OF net/netip's three variables (z4, z6noz, z0), and how pointers within unique.Handle compare.
-/
import Derived.Test.Qxb6613335aDoorRows
import Derived.WalkKit
import Derived.WalkSpells
import Derived.WalkLawsBesides
import Derived.LaidEqlPtr
import Derived.LaidEql
namespace Go.Proofs.Qxb6613335aDoor
open Go.RowKit

/-- z4 holds the address a4, z6noz the address a6, z0 nil; a4 and a6 are two. -/
structure NF (a4 a6 : Addr) (w : World) : Prop where
  c0 : w.cell? ⟨0, 0, none⟩ = some (.pointer (some a4))
  c1 : w.cell? ⟨1, 0, none⟩ = some (.pointer (some a6))
  c2 : w.cell? ⟨2, 0, none⟩ = some (.pointer none)
  ne : a4 ≠ a6
  h4 : ∃ c t, w.heap[a4.block]? = some (.cells c t (0, 0))
  h6 : ∃ c t, w.heap[a6.block]? = some (.cells c t (0, 0))

theorem lt_of_cell {w : World} {a : Addr} {v : Value} (h : w.cell? a = some v) : a.block < w.heap.size := by
  by_cases hl : a.block < w.heap.size
  · exact hl
  · have : w.heap[a.block]? = none := Array.getElem?_eq_none (by omega)
    simp [World.cell?, this] at h

theorem NF.below {a4 a6 : Addr} {w w' : World} (h : NF a4 a6 w) (hb : Below w.heap.size w w') : NF a4 a6 w' := by
  refine ⟨(hb.cell (lt_of_cell h.c0)).trans h.c0, (hb.cell (lt_of_cell h.c1)).trans h.c1, (hb.cell (lt_of_cell h.c2)).trans h.c2, h.ne, ?_, ?_⟩
  · obtain ⟨c, t, hc⟩ := h.h4
    exact ⟨c, t, (hb.block _ (Array.getElem?_eq_some_iff.1 hc).1).trans hc⟩
  · obtain ⟨c, t, hc⟩ := h.h6
    exact ⟨c, t, (hb.block _ (Array.getElem?_eq_some_iff.1 hc).1).trans hc⟩

theorem NF.alloc {a4 a6 : Addr} {w : World} (h : NF a4 a6 w) (o : Obj) : NF a4 a6 (w.alloc o) := h.below ((Below.refl _ _).alloc (Nat.le_refl _) o)

theorem info102 : ∃ j, Tryd.prog.info? 102 = some j ∧ j.size ≠ 0 := by
  have h : (Tryd.prog.info? 102).map (·.size) = some 2 := by kernel_rfl
  obtain ⟨j, hj, hs⟩ := Option.map_eq_some_iff.1 h
  exact ⟨j, hj, by omega⟩

theorem eq_same (a : Addr) (w : World) : (Op.equalIn 9999 27 (.pointer (some a)) (.pointer (some a))).run Tryd.prog w = .ok true w := by
  obtain ⟨j, hj, _⟩ := info102
  have h : ∀ d : Nat, (Op.equalIn (d + 1) 27 (.pointer (some a)) (.pointer (some a))).run Tryd.prog w = .ok true w := fun d => by
    simp [Op.equalIn, run_underlying Tryd.underlying27, sizeOf, typeInfo, hj, run_sameAddr_same]
  exact h 9998
theorem eq_nil (a : Addr) (w : World) : (Op.equalIn 9999 27 (.pointer (some a)) (.pointer none)).run Tryd.prog w = .ok false w := by
  have h : ∀ d : Nat, (Op.equalIn (d + 1) 27 (.pointer (some a)) (.pointer none)).run Tryd.prog w = .ok false w := fun d => by
    simp [Op.equalIn, run_underlying Tryd.underlying27, sizeOf, typeInfo, samePointer]
  exact h 9998
theorem NF.eq64 {a4 a6 : Addr} {w : World} (h : NF a4 a6 w) : (Op.equalIn 9999 27 (.pointer (some a6)) (.pointer (some a4))).run Tryd.prog w = .ok false w := by
  obtain ⟨j, hj, hs⟩ := info102
  obtain ⟨c4, t4, e4⟩ := h.h4
  obtain ⟨c6, t6, e6⟩ := h.h6
  have k : ∀ d : Nat, (Op.equalIn (d + 1) 27 (.pointer (some a6)) (.pointer (some a4))).run Tryd.prog w = .ok false w := fun d => by
    simp [Op.equalIn, run_underlying Tryd.underlying27, sizeOf, typeInfo, hj, hs, run_sameAddr_other w (Ne.symm h.ne) e6 e4]
  exact k 9998
end Go.Proofs.Qxb6613335aDoor
