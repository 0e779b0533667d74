/-
  THE WALKS of member.compare, member.above.
-/
import Derived.Test.Qxb6613283aWalkM
namespace Go.Proofs.Qxb6613283a
open Go.RowKit

theorem EAt.same {w w' : World} {S : Nat → Prop} {b : Nat} {e : El} (hw : w'.heap = w.heap) (h : EAt w S b e) : EAt w' S b e := h.frame (fun _ _ => by rw [hw]) (fun _ h => h)

set_option maxHeartbeats 2000000 in
set_option maxRecDepth 100000 in
theorem compare_33 (w : World) (S : Nat → Prop) (m m' p p' : Nat) (a b : El) (ha : EAt w S p a) (hb : EAt w S p' b) (hS : ∀ k, S k → k < w.heap.size)
    (hm : w.cell? ⟨m, 0, none⟩ = some (.pointer (some ⟨p, 0, none⟩))) (hm' : w.cell? ⟨m', 0, none⟩ = some (.pointer (some ⟨p', 0, none⟩))) :
    Calls Try.prog 33 #[.pointer (some ⟨m, 0, none⟩), .pointer (some ⟨m', 0, none⟩)] w fun r w' => r = .returned (.int .i64 (cmpE a b)) ∧ Below w.heap.size w w' := by
  have hcv : ∀ w1, w1.heap = w.heap → w1.os = w.os → w1.tape = w.tape → w1.output = w.output → Calls Try.prog 48 #[.pointer (some ⟨p, 0, none⟩), .pointer (some ⟨p', 0, none⟩)] w1 fun e w' => e = .returned (.int .i64 (cmpE a b)) ∧ Below w.heap.size w w' := fun w1 h1 h2 h3 h4 =>
    (compare_48 w1 S p p' a b (ha.same h1) (hb.same h1) (fun k hk => by rw [h1]; exact hS k hk)).mono fun e w' ⟨he, hb⟩ => ⟨he, by rw [h1] at hb; exact Below.of_same hb h1 h2 h3 h4⟩
  clear ha hb hS
  go_enter Try.func33, Try.ntmps33
  go_wp2_with fail
  go_still_tail 8, mixed
  refine wpList_plain rfl fun K hK => ?_
  go_simp
  refine (hcv { w with drawn := w.drawn + 1 } rfl rfl rfl rfl).mono ?_
  rintro e w2 ⟨rfl, hb⟩
  refine hK _ _ ?_
  clear hK K hcv hm hm'
  go_wp2_with fail
  go_ret
  exact ⟨rfl, hb⟩

/-- above. -/
def aboveB (a b : El) : Bool := if a.hv = b.hv then decide (0 < cmpE a b) else decide (b.hv < a.hv)

set_option maxHeartbeats 2000000 in
set_option maxRecDepth 100000 in
theorem above_35 (w : World) (S : Nat → Prop) (m m' p p' : Nat) (a b : El) (ha : EAt w S p a) (hb : EAt w S p' b) (hS : ∀ k, S k → k < w.heap.size)
    (hm : w.cell? ⟨m, 0, none⟩ = some (.pointer (some ⟨p, 0, none⟩))) (hm' : w.cell? ⟨m', 0, none⟩ = some (.pointer (some ⟨p', 0, none⟩))) :
    Calls Try.prog 35 #[.pointer (some ⟨m, 0, none⟩), .pointer (some ⟨m', 0, none⟩)] w fun r w' => r = .returned (.bool (aboveB a b)) ∧ Below w.heap.size w w' := by
  have hcv : ∀ w1, w1.heap = w.heap → w1.os = w.os → w1.tape = w.tape → w1.output = w.output → Calls Try.prog 33 #[.pointer (some ⟨m, 0, none⟩), .pointer (some ⟨m', 0, none⟩)] w1 fun e w' => e = .returned (.int .i64 (cmpE a b)) ∧ Below w.heap.size w w' := fun w1 h1 h2 h3 h4 =>
    (compare_33 w1 S m m' p p' a b (ha.same h1) (hb.same h1) (fun k hk => by rw [h1]; exact hS k hk) (by rw [← hm]; simp [World.cell?, h1]) (by rw [← hm']; simp [World.cell?, h1])).mono fun e w' ⟨he, hb⟩ => ⟨he, by rw [h1] at hb; exact Below.of_same hb h1 h2 h3 h4⟩
  obtain ⟨cs, hp, hSp, n, k, i, s, A, len, cap, e1, hv⟩ := ha
  obtain ⟨cs', hp', hSp', n', k', i', s', A', len', cap', e1', hv'⟩ := hb
  subst e1 e1'
  have c7 : w.cell? ⟨p, 7, none⟩ = some (.int .u64 a.hv) := by rw [bcell hp]; rfl
  have d7 : w.cell? ⟨p', 7, none⟩ = some (.int .u64 b.hv) := by rw [bcell hp']; rfl
  clear hv hv' hp hp' hSp hSp' hS
  by_cases h : a.hv = b.hv
  · have e : aboveB a b = decide (0 < cmpE a b) := by simp [aboveB, h]
    rw [e]
    have h' : (a.hv != b.hv) = false := by simp [h]
    have hh : (b.hv != b.hv) = false := by simp
    go_enter Try.func35, Try.ntmps35
    go_wp2_with fail
    go_quiet (fail)
    go_wp2_with fail
    refine (hcv (w.drewN nq) rfl rfl rfl rfl).mono ?_
    rintro e w2 ⟨rfl, hb⟩
    clear hcv hm hm' c7 d7
    go_wp2_with fail
    go_ret
    exact ⟨rfl, hb⟩
  · have e : aboveB a b = decide (b.hv < a.hv) := by simp [aboveB, h]
    rw [e]
    have h' : (a.hv != b.hv) = true := by simpa using h
    clear hcv
    go_enter Try.func35, Try.ntmps35
    go_wp2_with fail
    go_quiet (fail)
    go_wp2_with fail
    go_quiet (fail)
    go_wp2_with fail
    go_ret
    exact ⟨rfl, ⟨rfl, rfl, rfl, Nat.le_refl _, fun _ _ => rfl⟩⟩
end Go.Proofs.Qxb6613283a
