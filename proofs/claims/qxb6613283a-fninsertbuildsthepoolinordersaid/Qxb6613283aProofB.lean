/-
  THE PROOF OF 'Rows.FnInsertBuildsThePoolInOrderSaid': the walk lies in Qxb6613283aLawC; the frame is the guide's.
-/
import Derived.Test.Qxb6613283aLawC
import Derived.ProofKit
import Derived.OpenShut
namespace Go.Proofs.Qxb6613283a
namespace FnInsertBuildsThePoolInOrderP
open Go.ChangeShapes Go.WideShapes Go.ChangeAt Go.RowKit

theorem own : ownKnob Try.prog.godebug = none := by kernel_rfl
theorem laidOut : laidOutB Try.prog = true := by kernel_rfl

set_option maxRecDepth 100000 in
theorem lifted (os : Os) (started : os.Started) (H : Type) (enc : TypeId × Value → H) :
    ReturnsInHanded {} Try.checked os 3 .any (Rows.fnInsertBuildsThePoolInOrderSpec.pre6 enc Try.prog Try.f3 Rows.fnInsertBuildsThePoolInOrderRow.domain false) (Rows.fnInsertBuildsThePoolInOrderSpec.post enc Try.prog Try.f3 false true false false) := by
  refine returnsInHanded_of_change (C := Try.checked) own started (by kernel_rfl) Try.func3
    (ChangeSpec.witness6 (enc := enc) (C := Try.checked) false ⟨#[], #[.slice none 0 0, .int .i64 0], []⟩ 8 (by kernel_rfl) (by kernel_rfl) (by kernel_rfl) (by kernel_rfl)) ?_
  intro W base args ds gs before hval0 hW hcnd _
  have hval : ∀ (j : Nat) t v, Try.f3.params[j]? = some t → args[j]? = some v → Value.okWide Try.prog W .any base t v := hval0
  have hW' := hW
  obtain ⟨p, q, hA0, hV, rfl, hfz, hnd⟩ := hW
  have hA : DataW.TrodAll enc Try.prog W 0 (fun _ => true) true Try.f3.params.toList args.toList ds p := hA0
  rw [Try.params3] at hA hval
  obtain ⟨v0, v1, d0, d1, p0, p1, rfl, rfl, rfl, h0, h1⟩ := trodAll_two hA
  obtain ⟨rfl, rfl⟩ := trodVars_none hV
  obtain ⟨A, len, cap, rfl⟩ := okWide_slice Try.underlying22 (hval 0 22 v0 rfl rfl)
  obtain ⟨k, rfl, rfl, rfl, wk⟩ := open_int Try.underlying3 (hval 1 3 v1 rfl rfl) h1
  clear hA0 hval0
  simp only [List.append_nil] at hW'
  have hlt : ∀ x ∈ p0, x.block < W.heap.size := fun x hx => by simpa using hW'.lt x hx
  obtain ⟨es, hl, hlc, _, hes, hO⟩ := open_elems h0
  refine (law3 W A len cap es k hes hl hlc hO).mono fun e W' ⟨he, bel⟩ => ?_
  subst he
  have harg : DataW.Trod enc Try.prog W' 0 (fun b => decide (b < W.heap.size)) true 22 (.slice A len cap) d0 p0 :=
    Below.trod laidOut (by kernel_rfl) (of_decide_eq_true (by kernel_rfl)) h0 bel hlt
  exact ⟨_, rfl, _, _, _, [], _, [], hW', trodAll_mk1 (shut_bool Try.underlying4 _), trodAll_mk2 harg (shut_int Try.underlying3 wk), rfl, bel.frame _, fun h => by cases h⟩

theorem over : Rows.fnInsertBuildsThePoolInOrderRow.holds Try.pinned (OpenSpec.ofChange Rows.fnInsertBuildsThePoolInOrderSpec) :=
  OpenClaim.holds_of_wide 3 Try.f3 rfl rfl rfl rfl rfl rfl rfl ⟨rfl, rfl, rfl, rfl, rfl⟩ rfl rfl rfl rfl rfl (by kernel_rfl) Try.func3 (by kernel_rfl)
    (of_decide_eq_true (by kernel_rfl)) (by unfold Func.isWrapper; first | (rw [if_pos (by decide +kernel)]; kernel_rfl) | (rw [if_neg (by decide +kernel)]; exact ⟨rfl, rfl⟩))
    (fun os started H enc _ => lifted os started H enc)
end FnInsertBuildsThePoolInOrderP

theorem fnInsertBuildsThePoolInOrder_proved : Rows.FnInsertBuildsThePoolInOrderSaid := FnInsertBuildsThePoolInOrderP.over
end Go.Proofs.Qxb6613283a
