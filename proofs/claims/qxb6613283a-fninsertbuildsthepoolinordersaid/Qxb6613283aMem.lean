/-
  MEMBERS IN MEMORY: the block of one, its children's sums, how a store turns it.
-/
import Derived.Test.Qxb6613283aWalkN
import Derived.BigRegion
import Derived.LoopN
namespace Go.Proofs.Qxb6613283a
open Go.RowKit

/-- Block R alone has turned; blocks may be new. -/
structure Upd (R : Nat) (w w' : World) : Prop where
  os : w'.os = w.os
  tape : w'.tape = w.tape
  output : w'.output = w.output
  size : w.heap.size ≤ w'.heap.size
  block : ∀ k, k < w.heap.size → k ≠ R → w'.heap[k]? = w.heap[k]?
theorem Upd.refl (R : Nat) (w : World) : Upd R w w := ⟨rfl, rfl, rfl, Nat.le_refl _, fun _ _ _ => rfl⟩
theorem Upd.trans {R : Nat} {a b c : World} (h : Upd R a b) (k : Upd R b c) : Upd R a c :=
  ⟨k.os.trans h.os, k.tape.trans h.tape, k.output.trans h.output, Nat.le_trans h.size k.size, fun i hi hr => (k.block i (Nat.lt_of_lt_of_le hi h.size) hr).trans (h.block i hi hr)⟩
theorem Upd.drew {R : Nat} {a b : World} (h : Upd R a b) (n : Nat) : Upd R a { b with drawn := n } := ⟨h.os, h.tape, h.output, h.size, h.block⟩
theorem Upd.setCell {R : Nat} {a b : World} (h : Upd R a b) (o : Nat) (v : Value) : Upd R a (b.setCell ⟨R, o, none⟩ v) :=
  h.trans ⟨rfl, rfl, rfl, by simp [World.setCell], fun k _ hr => Below.heap_setCell _ _ _ _ hr⟩
theorem Upd.below {R : Nat} {w w' : World} (h : Below w.heap.size w w') : Upd R w w' := ⟨h.os, h.tape, h.output, h.size, fun k hk _ => h.block k hk⟩

/-- The eight cells of a member. -/
def MC (ep : Nat) (c sz fm : Int) (l r : Value) (me sm : Int) : Array Value := #[.pointer (some ⟨ep, 0, none⟩), .int .i32 c, .int .i32 sz, .int .i32 fm, l, r, .int .i64 me, .int .u64 sm]

theorem bset {w : World} {b : Nat} {cs : Array Value} {T : TypeId} (h : w.heap[b]? = some (.cells cs T)) (i : Nat) (v : Value) : (w.setCell ⟨b, i, none⟩ v).heap[b]? = some (.cells (cs.setIfInBounds i v) T) := by
  simp [World.setCell, Array.getElem?_modify, h]
theorem bset2 {w : World} {b ep : Nat} {c sz fm : Int} {l r : Value} {me sm : Int} (h : w.heap[b]? = some (.cells (MC ep c sz fm l r me sm) 51)) (v : Int) : (w.setCell ⟨b, 2, none⟩ (.int .i32 v)).heap[b]? = some (.cells (MC ep c v fm l r me sm) 51) := bset h 2 _
theorem bset3 {w : World} {b ep : Nat} {c sz fm : Int} {l r : Value} {me sm : Int} (h : w.heap[b]? = some (.cells (MC ep c sz fm l r me sm) 51)) (v : Int) : (w.setCell ⟨b, 3, none⟩ (.int .i32 v)).heap[b]? = some (.cells (MC ep c sz v l r me sm) 51) := bset h 3 _
theorem bset6 {w : World} {b ep : Nat} {c sz fm : Int} {l r : Value} {me sm : Int} (h : w.heap[b]? = some (.cells (MC ep c sz fm l r me sm) 51)) (v : Int) : (w.setCell ⟨b, 6, none⟩ (.int .i64 v)).heap[b]? = some (.cells (MC ep c sz fm l r v sm) 51) := bset h 6 _
theorem bset7 {w : World} {b ep : Nat} {c sz fm : Int} {l r : Value} {me sm : Int} (h : w.heap[b]? = some (.cells (MC ep c sz fm l r me sm) 51)) (v : Int) : (w.setCell ⟨b, 7, none⟩ (.int .u64 v)).heap[b]? = some (.cells (MC ep c sz fm l r me v) 51) := bset h 7 _
theorem bset1 {w : World} {b ep : Nat} {c sz fm : Int} {l r : Value} {me sm : Int} (h : w.heap[b]? = some (.cells (MC ep c sz fm l r me sm) 51)) (v : Int) : (w.setCell ⟨b, 1, none⟩ (.int .i32 v)).heap[b]? = some (.cells (MC ep v sz fm l r me sm) 51) := bset h 1 _
theorem bset4 {w : World} {b ep : Nat} {c sz fm : Int} {l r : Value} {me sm : Int} (h : w.heap[b]? = some (.cells (MC ep c sz fm l r me sm) 51)) (v : Value) : (w.setCell ⟨b, 4, none⟩ v).heap[b]? = some (.cells (MC ep c sz fm v r me sm) 51) := bset h 4 _
theorem bset5 {w : World} {b ep : Nat} {c sz fm : Int} {l r : Value} {me sm : Int} (h : w.heap[b]? = some (.cells (MC ep c sz fm l r me sm) 51)) (v : Value) : (w.setCell ⟨b, 5, none⟩ v).heap[b]? = some (.cells (MC ep c sz fm l v me sm) 51) := bset h 5 _
end Go.Proofs.Qxb6613283a
