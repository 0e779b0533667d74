/-
  TREAPS IN MEMORY, and the walk of member.copied.
-/
import Derived.Test.Qxb6613283aMem
import Derived.Test.Qxb6613283aTreeA
namespace Go.Proofs.Qxb6613283a
open Go.RowKit
open Go.Deep (BT)

/-- The treap t in the world w, in blocks of S: v is the pointer to its root. -/
def TIn (w : World) (S : Nat → Prop) : BT (El × Nat) → Option Addr → Prop
  | .nil, v => v = none
  | .node _ _ p l r, v => ∃ b ep lo ro, v = some ⟨b, 0, none⟩ ∧ S b ∧
      w.heap[b]? = some (.cells (MC ep p.2 (p.2 + szT l + szT r) ((if p.1.pend then 0 else (p.2 : Int)) + fmT l + fmT r) (.pointer lo) (.pointer ro)
        (minI (minI (if p.1.pend then 9223372036854775807 else p.1.fin) (meT l)) (meT r)) (addM (addM ((p.1.hv * p.2) % MP) (smT l)) (smT r))) 51) ∧
      EAt w S ep p.1 ∧ TIn w S l lo ∧ TIn w S r ro

theorem TIn.frame {w w' : World} {S S' : Nat → Prop} (hb : ∀ k, S k → w'.heap[k]? = w.heap[k]?) (hS : ∀ k, S k → S' k) : ∀ {t : BT (El × Nat)} {v : Option Addr}, TIn w S t v → TIn w' S' t v
  | .nil, _, h => h
  | .node _ _ _ _ _, _, ⟨b, ep, lo, ro, e, hs, hc, he, hl, hr⟩ => ⟨b, ep, lo, ro, e, hS b hs, (hb b hs).trans hc, he.frame hb hS, hl.frame hb hS, hr.frame hb hS⟩
theorem TIn.same {w w' : World} {S : Nat → Prop} {t : BT (El × Nat)} {v : Option Addr} (hw : w'.heap = w.heap) (h : TIn w S t v) : TIn w' S t v := h.frame (fun _ _ => by rw [hw]) (fun _ h => h)

theorem EAt.ne {w : World} {S : Nat → Prop} {ep b : Nat} {e : El} {cs : Array Value} (h : EAt w S ep e) (hb : w.heap[b]? = some (.cells cs 51)) : ep ≠ b := by
  obtain ⟨cs', h1, _, _⟩ := h
  intro e
  subst e
  rw [h1] at hb
  simp at hb
theorem EAt.lt {w : World} {S : Nat → Prop} {ep : Nat} {e : El} (h : EAt w S ep e) : ep < w.heap.size := by
  obtain ⟨cs', h1, _, _⟩ := h
  exact blt h1
theorem EAt.in {w : World} {S : Nat → Prop} {ep : Nat} {e : El} (h : EAt w S ep e) : S ep := by
  obtain ⟨cs', _, h1, _⟩ := h
  exact h1
theorem EAt.tail {w : World} {S : Nat → Prop} {ep : Nat} {e : El} (h : EAt w S ep e) : w.cell? ⟨ep, 4, none⟩ = some (.int .i64 e.start) ∧ w.cell? ⟨ep, 5, none⟩ = some (.int .i64 e.fin) ∧ w.cell? ⟨ep, 6, none⟩ = some (.bool e.pend) ∧ w.cell? ⟨ep, 7, none⟩ = some (.int .u64 e.hv) := by
  obtain ⟨cs', h1, _, n, k, i, s, A, len, cap, e1, hv⟩ := h
  subst e1
  exact ⟨by rw [bcell h1]; rfl, by rw [bcell h1]; rfl, by rw [bcell h1]; rfl, by rw [bcell h1]; rfl⟩

/-- One block more, holding the member's cells. -/
structure Cop (w w' : World) (cs : Array Value) : Prop where
  at' : w'.heap[w.heap.size]? = some (.cells cs 51)
  size : w'.heap.size = w.heap.size + 1
  below : Below w.heap.size w w'

set_option maxHeartbeats 2000000 in
set_option maxRecDepth 100000 in
theorem copied_34 (w : World) (b ep : Nat) (c sz fm : Int) (l r : Option Addr) (me sm : Int) (hb : w.heap[b]? = some (.cells (MC ep c sz fm (.pointer l) (.pointer r) me sm) 51)) :
    Calls Try.prog 34 #[.pointer (some ⟨b, 0, none⟩)] w fun e w' => e = .returned (.pointer (some ⟨w.heap.size, 0, none⟩)) ∧ Cop w w' (MC ep c sz fm (.pointer l) (.pointer r) me sm) := by
  have c0 : w.cell? ⟨b, 0, none⟩ = some (.pointer (some ⟨ep, 0, none⟩)) := by rw [bcell hb]; rfl
  have c1 : w.cell? ⟨b, 1, none⟩ = some (.int .i32 c) := by rw [bcell hb]; rfl
  have c2 : w.cell? ⟨b, 2, none⟩ = some (.int .i32 sz) := by rw [bcell hb]; rfl
  have c3 : w.cell? ⟨b, 3, none⟩ = some (.int .i32 fm) := by rw [bcell hb]; rfl
  have c4 : w.cell? ⟨b, 4, none⟩ = some (.pointer l) := by rw [bcell hb]; rfl
  have c5 : w.cell? ⟨b, 5, none⟩ = some (.pointer r) := by rw [bcell hb]; rfl
  have c6 : w.cell? ⟨b, 6, none⟩ = some (.int .i64 me) := by rw [bcell hb]; rfl
  have c7 : w.cell? ⟨b, 7, none⟩ = some (.int .u64 sm) := by rw [bcell hb]; rfl
  go_enter Try.func34, Try.ntmps34
  go_wp2_with fail
  go_ret
  exact ⟨rfl, ⟨alloc_at _ _, (by show (w.heap.push _).size = _; exact Array.size_push _), alloc_below _ _⟩⟩
end Go.Proofs.Qxb6613283a
