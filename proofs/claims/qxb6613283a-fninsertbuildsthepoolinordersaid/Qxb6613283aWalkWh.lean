/-
  HOW A WORLD TURNS while a slice is appended to.
-/
import Derived.Test.Qxb6613283aGin
import Derived.Test.Qxb6613283aWalkQ
import Derived.Deep.RegionHeld3
import Derived.Deep.DeepCutAuto
namespace Go.Proofs.Qxb6613283a
open Go.RowKit
open Go.Deep (BT)

theorem info61 : (Try.prog.info? 61).map (fun i => (i.zero, i.size, i.bytes)) = some (some (.agg #[.int .u8 0, .int .i64 0, .string ByteArray.empty, .slice none 0 0, .int .i64 0, .int .i64 0, .bool false, .int .u64 0, .int .i32 0]), 9, 96) := by kernel_rfl
theorem info63 : (Try.prog.info? 63).map (fun i => (i.zero, i.size, i.bytes)) = some (some (.agg #[.int .u8 0, .int .i64 0, .string ByteArray.empty, .slice none 0 0, .int .i64 0, .int .i64 0, .bool false, .int .u64 0, .int .i64 0]), 9, 96) := by kernel_rfl

/-- How the world has turned while a slice was appended to. -/
def Grew (w w' : World) (v v' : Value) : Prop := w.grownBy w' v.ownBlock ∧ (v'.ownBlock = v.ownBlock ∨ ∃ g, v'.ownBlock = some g ∧ w.heap.size ≤ g)
theorem Grew.block {w w' : World} {v v' : Value} (h : Grew w w' v v') : ∀ k, Sof w v k → w'.heap[k]? = w.heap[k]? := fun k hk => h.1.block k hk.1 (fun h => hk.2 h.symm)
theorem Grew.sof {w w' : World} {v v' : Value} (h : Grew w w' v v') : ∀ k, Sof w v k → Sof w' v' k := fun k hk => ⟨Nat.lt_of_lt_of_le hk.1 h.1.size, fun hv => by
  rcases h.2 with h2 | ⟨g, h2, h3⟩
  · exact hk.2 (h2.symm.trans hv)
  · rw [h2] at hv
    have := hk.1
    simp at hv
    omega⟩
theorem Grew.trans {a b c : World} {u v x : Value} (h : Grew a b u v) (h' : Grew b c v x) : Grew a c u x := by
  refine ⟨⟨h'.1.os.trans h.1.os, h'.1.tape.trans h.1.tape, h'.1.output.trans h.1.output, Nat.le_trans h.1.size h'.1.size, fun k hk hku => ?_⟩, ?_⟩
  · have hs : Sof a u k := ⟨hk, fun e => hku e.symm⟩
    exact (h'.block k (h.sof k hs)).trans (h.block k hs)
  · rcases h'.2 with e | ⟨g, e, hg⟩
    · rw [e]; exact h.2
    · exact .inr ⟨g, e, Nat.le_trans h.1.size hg⟩
theorem Grew.below {w w' : World} {v : Value} (h : Below w.heap.size w w') : Grew w w' v v := ⟨⟨h.os, h.tape, h.output, h.size, fun k hk _ => h.block k hk⟩, .inl rfl⟩
/-- The count of a seen entry. -/
def f32 (n : Nat) : Value := .int .i32 n
def f64 (n : Nat) : Value := .int .i64 n

end Go.Proofs.Qxb6613283a
