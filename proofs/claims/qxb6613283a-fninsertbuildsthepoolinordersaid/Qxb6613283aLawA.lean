/-
  THE WALK of FnInsertOrderDoesNotMatter.
-/
import Derived.Test.Qxb6613283aWalkL
import Derived.Test.Qxb6613283aWalkQ
import Derived.Test.Qxb6613283aWalkR
import Derived.Test.Qxb6613283aOpen
namespace Go.Proofs.Qxb6613283a
open Go.RowKit
open Go.Deep (BT)

theorem SIn.drop {q : Nat → Prop} {w : World} {S : Nat → Prop} {A : Option Addr} {es : List El} {k cap : Nat} (h : SIn q w S A es) (hc : es.length ≤ cap) : SIn q w S (if cap = k then A else A.map (·.add (k * 8))) (es.drop k) := fun i e he => by
  rw [List.getElem?_drop] at he
  have hlt := (List.getElem?_eq_some_iff.1 he).1
  obtain ⟨D, off, c0, c1, c2, c3, c4, c5, c6, c7, rfl, hD, d⟩ := h (k + i) e he
  rw [if_neg (by omega)]
  rw [show off + (k + i) * 8 = off + k * 8 + i * 8 by omega] at d
  exact ⟨D, off + k * 8, c0, c1, c2, c3, c4, c5, c6, c7, by simp [addr_add], hD, d⟩
theorem SIn.take {q : Nat → Prop} {w : World} {S : Nat → Prop} {A : Option Addr} {es : List El} {k cap : Nat} (h : SIn q w S A es) : SIn q w S (if cap = 0 then A else A.map (·.add 0)) (es.take k) := fun i e he => by
  have he' : es[i]? = some e := by
    rw [List.getElem?_take] at he
    split at he
    · exact he
    · cases he
  obtain ⟨D, off, c0, c1, c2, c3, c4, c5, c6, c7, rfl, hD, d⟩ := h i e he'
  refine ⟨D, off, c0, c1, c2, c3, c4, c5, c6, c7, ?_, hD, d⟩
  split
  · rfl
  · simp [Addr.add]

theorem slice_l (A : Option Addr) (len cap k : Nat) (h : k ≤ len) (W : World) : (Instr.slice 22 (.slice A len cap) (some (.int .i64 (k : Int))) none none).run Try.prog W = .ok (.slice (if cap = k then A else A.map (·.add (k * 8))) (len - k) (cap - k)) W := by
  have hu : Try.prog.underlying 22 = some (.slice (Try.prog.elem 22)) := by kernel_rfl
  have hz : ∀ W : World, (sizeOf (Try.prog.elem 22)).run Try.prog W = .ok 8 W := fun W => by kernel_rfl
  rw [run_slice_l W 22 A len cap hu .i64 k (by omega) (by omega), hz]
  simp [Result.andThen, sliced]
theorem slice_h (A : Option Addr) (len cap k : Nat) (h : k ≤ cap) (W : World) : (Instr.slice 22 (.slice A len cap) none (some (.int .i64 (k : Int))) none).run Try.prog W = .ok (.slice (if cap = 0 then A else A.map (·.add 0)) k cap) W := by
  have hu : Try.prog.underlying 22 = some (.slice (Try.prog.elem 22)) := by kernel_rfl
  have hz : ∀ W : World, (sizeOf (Try.prog.elem 22)).run Try.prog W = .ok 8 W := fun W => by kernel_rfl
  rw [run_slice_h W 22 A len cap hu .i64 k (by omega) (by omega), hz]
  simp [Result.andThen, sliced]
end Go.Proofs.Qxb6613283a
