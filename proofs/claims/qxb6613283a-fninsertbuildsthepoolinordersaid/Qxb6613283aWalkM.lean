/-
  THE WALKS of element.compare, member.compare, member.above.
-/
import Derived.Test.Qxb6613283aElems
namespace Go.Proofs.Qxb6613283a
open Go.RowKit

/-- Below holds of the heaps alone, of os, tape and output. -/
theorem Below.of_same {B : Nat} {w w1 w2 : World} (h : Below B w1 w2) (h1 : w1.heap = w.heap) (h2 : w1.os = w.os) (h3 : w1.tape = w.tape) (h4 : w1.output = w.output) : Below B w w2 :=
  ⟨h.os.trans h2, h.tape.trans h3, h.output.trans h4, by rw [← h1]; exact h.size, fun k hk => by rw [h.block k hk, h1]⟩

set_option maxHeartbeats 2000000 in
set_option maxRecDepth 100000 in
theorem compare_48 (w : World) (S : Nat → Prop) (p p' : Nat) (a b : El) (ha : EAt w S p a) (hb : EAt w S p' b) (hS : ∀ k, S k → k < w.heap.size) :
    Calls Try.prog 48 #[.pointer (some ⟨p, 0, none⟩), .pointer (some ⟨p', 0, none⟩)] w fun r w' => r = .returned (.int .i64 (cmpE a b)) ∧ Below w.heap.size w w' := by
  obtain ⟨cs, hp, hSp, n, k, i, s, A, len, cap, e1, hv⟩ := ha
  obtain ⟨cs', hp', hSp', n', k', i', s', A', len', cap', e1', hv'⟩ := hb
  obtain ⟨sa, fa, pa, xa, Ka, Fa⟩ := a
  obtain ⟨sb, fb, pb, xb, Kb, Fb⟩ := b
  subst e1 e1'
  dsimp only at *
  have hcv : ∀ w1, w1.heap = w.heap → w1.os = w.os → w1.tape = w.tape → w1.output = w.output → Calls Try.prog 51 #[.agg #[.int .u8 k, .int .i64 i, .string s, .slice A len cap], .agg #[.int .u8 k', .int .i64 i', .string s', .slice A' len' cap']] w1 fun e w' => e = .returned (.int .i64 (lexS Ka Kb)) ∧ Below w.heap.size w w' := fun w1 h1 h2 h3 h4 =>
    (valCompare_51 n w1 S _ _ Ka Fa Kb Fb n' (hv.same h1) (hv'.same h1) (fun k hk => by rw [h1]; exact hS k hk)).mono fun e w' ⟨he, hb⟩ => ⟨he, by rw [h1] at hb; exact Below.of_same hb h1 h2 h3 h4⟩
  have HP : Hid (w.heap[p]? = some (.cells #[.int .u8 k, .int .i64 i, .string s, .slice A len cap, .int .i64 sa, .int .i64 fa, .bool pa, .int .u64 xa] 49) ∧ w.heap[p']? = some (.cells #[.int .u8 k', .int .i64 i', .string s', .slice A' len' cap', .int .i64 sb, .int .i64 fb, .bool pb, .int .u64 xb] 49)) := ⟨hp, hp'⟩
  have c0 : w.cell? ⟨p, 0, none⟩ = some (.int .u8 k) := by rw [bcell hp]; rfl
  have c1 : w.cell? ⟨p, 1, none⟩ = some (.int .i64 i) := by rw [bcell hp]; rfl
  have c2 : w.cell? ⟨p, 2, none⟩ = some (.string s) := by rw [bcell hp]; rfl
  have c3 : w.cell? ⟨p, 3, none⟩ = some (.slice A len cap) := by rw [bcell hp]; rfl
  have c4 : w.cell? ⟨p, 4, none⟩ = some (.int .i64 sa) := by rw [bcell hp]; rfl
  have c5 : w.cell? ⟨p, 5, none⟩ = some (.int .i64 fa) := by rw [bcell hp]; rfl
  have d0 : w.cell? ⟨p', 0, none⟩ = some (.int .u8 k') := by rw [bcell hp']; rfl
  have d1 : w.cell? ⟨p', 1, none⟩ = some (.int .i64 i') := by rw [bcell hp']; rfl
  have d2 : w.cell? ⟨p', 2, none⟩ = some (.string s') := by rw [bcell hp']; rfl
  have d3 : w.cell? ⟨p', 3, none⟩ = some (.slice A' len' cap') := by rw [bcell hp']; rfl
  have d4 : w.cell? ⟨p', 4, none⟩ = some (.int .i64 sb) := by rw [bcell hp']; rfl
  have d5 : w.cell? ⟨p', 5, none⟩ = some (.int .i64 fb) := by rw [bcell hp']; rfl
  have hlp := hS p hSp
  have hlp' := hS p' hSp'
  clear hv hv' hp hp' hSp hSp' hS
  rcases cmpE_cases ⟨sa, fa, pa, xa, Ka, Fa⟩ ⟨sb, fb, pb, xb, Kb, Fb⟩ with ⟨h1, he⟩ | ⟨h1, h2, he⟩ | ⟨h1, h2, h3, he⟩ | ⟨h1, h2, h3, h4, he⟩ | ⟨h1, h2, h3, h4, h5, he⟩ | ⟨h1, h2, h3, h4, h5, he⟩ <;> rw [he] <;> clear he <;> dsimp only at *
  · have h1' : (sgn sa sb != 0) = true := by simpa using h1
    go_enter Try.func48, Try.ntmps48
    go_wp2_with fail
    go_quiet ((go_at_call 50; exact Calls.quiet_of_same (cmp_50 _ _ _)))
    obtain ⟨W1, hw⟩ : ∃ W1, W1 = w.drewN nq := ⟨_, rfl⟩
    rw [← hw]
    have HH : Hid (W1.heap = w.heap ∧ W1.os = w.os ∧ W1.tape = w.tape ∧ W1.output = w.output) := by rw [hw]; exact ⟨rfl, rfl, rfl, rfl⟩
    replace c0 : W1.cell? ⟨p, 0, none⟩ = some (.int .u8 k) := by rw [hw]; exact c0
    replace c1 : W1.cell? ⟨p, 1, none⟩ = some (.int .i64 i) := by rw [hw]; exact c1
    replace c2 : W1.cell? ⟨p, 2, none⟩ = some (.string s) := by rw [hw]; exact c2
    replace c3 : W1.cell? ⟨p, 3, none⟩ = some (.slice A len cap) := by rw [hw]; exact c3
    replace c4 : W1.cell? ⟨p, 4, none⟩ = some (.int .i64 sa) := by rw [hw]; exact c4
    replace c5 : W1.cell? ⟨p, 5, none⟩ = some (.int .i64 fa) := by rw [hw]; exact c5
    replace d0 : W1.cell? ⟨p', 0, none⟩ = some (.int .u8 k') := by rw [hw]; exact d0
    replace d1 : W1.cell? ⟨p', 1, none⟩ = some (.int .i64 i') := by rw [hw]; exact d1
    replace d2 : W1.cell? ⟨p', 2, none⟩ = some (.string s') := by rw [hw]; exact d2
    replace d3 : W1.cell? ⟨p', 3, none⟩ = some (.slice A' len' cap') := by rw [hw]; exact d3
    replace d4 : W1.cell? ⟨p', 4, none⟩ = some (.int .i64 sb) := by rw [hw]; exact d4
    replace d5 : W1.cell? ⟨p', 5, none⟩ = some (.int .i64 fb) := by rw [hw]; exact d5
    clear hw
    go_wp2_with fail
    go_ret
    exact ⟨rfl, Below.of_same (Below.refl _ _) HH.out.1 HH.out.2.1 HH.out.2.2.1 HH.out.2.2.2⟩
  · have h2' : (sgn fa fb != 0) = true := by simpa using h2
    go_enter Try.func48, Try.ntmps48
    go_wp2_with fail
    go_quiet ((go_at_call 50; exact Calls.quiet_of_same (cmp_50 _ _ _)))
    obtain ⟨W1, hw⟩ : ∃ W1, W1 = w.drewN nq := ⟨_, rfl⟩
    rw [← hw]
    have HH : Hid (W1.heap = w.heap ∧ W1.os = w.os ∧ W1.tape = w.tape ∧ W1.output = w.output) := by rw [hw]; exact ⟨rfl, rfl, rfl, rfl⟩
    replace c0 : W1.cell? ⟨p, 0, none⟩ = some (.int .u8 k) := by rw [hw]; exact c0
    replace c1 : W1.cell? ⟨p, 1, none⟩ = some (.int .i64 i) := by rw [hw]; exact c1
    replace c2 : W1.cell? ⟨p, 2, none⟩ = some (.string s) := by rw [hw]; exact c2
    replace c3 : W1.cell? ⟨p, 3, none⟩ = some (.slice A len cap) := by rw [hw]; exact c3
    replace c4 : W1.cell? ⟨p, 4, none⟩ = some (.int .i64 sa) := by rw [hw]; exact c4
    replace c5 : W1.cell? ⟨p, 5, none⟩ = some (.int .i64 fa) := by rw [hw]; exact c5
    replace d0 : W1.cell? ⟨p', 0, none⟩ = some (.int .u8 k') := by rw [hw]; exact d0
    replace d1 : W1.cell? ⟨p', 1, none⟩ = some (.int .i64 i') := by rw [hw]; exact d1
    replace d2 : W1.cell? ⟨p', 2, none⟩ = some (.string s') := by rw [hw]; exact d2
    replace d3 : W1.cell? ⟨p', 3, none⟩ = some (.slice A' len' cap') := by rw [hw]; exact d3
    replace d4 : W1.cell? ⟨p', 4, none⟩ = some (.int .i64 sb) := by rw [hw]; exact d4
    replace d5 : W1.cell? ⟨p', 5, none⟩ = some (.int .i64 fb) := by rw [hw]; exact d5
    clear hw
    go_wp2_with fail
    go_quiet ((go_at_call 50; exact Calls.quiet_of_same (cmp_50 _ _ _)))
    obtain ⟨W2, hw⟩ : ∃ W2, W2 = W1.drewN nq := ⟨_, rfl⟩
    rw [← hw]
    have HH : Hid (W2.heap = w.heap ∧ W2.os = w.os ∧ W2.tape = w.tape ∧ W2.output = w.output) := by rw [hw]; exact HH.out
    replace c0 : W2.cell? ⟨p, 0, none⟩ = some (.int .u8 k) := by rw [hw]; exact c0
    replace c1 : W2.cell? ⟨p, 1, none⟩ = some (.int .i64 i) := by rw [hw]; exact c1
    replace c2 : W2.cell? ⟨p, 2, none⟩ = some (.string s) := by rw [hw]; exact c2
    replace c3 : W2.cell? ⟨p, 3, none⟩ = some (.slice A len cap) := by rw [hw]; exact c3
    replace c4 : W2.cell? ⟨p, 4, none⟩ = some (.int .i64 sa) := by rw [hw]; exact c4
    replace c5 : W2.cell? ⟨p, 5, none⟩ = some (.int .i64 fa) := by rw [hw]; exact c5
    replace d0 : W2.cell? ⟨p', 0, none⟩ = some (.int .u8 k') := by rw [hw]; exact d0
    replace d1 : W2.cell? ⟨p', 1, none⟩ = some (.int .i64 i') := by rw [hw]; exact d1
    replace d2 : W2.cell? ⟨p', 2, none⟩ = some (.string s') := by rw [hw]; exact d2
    replace d3 : W2.cell? ⟨p', 3, none⟩ = some (.slice A' len' cap') := by rw [hw]; exact d3
    replace d4 : W2.cell? ⟨p', 4, none⟩ = some (.int .i64 sb) := by rw [hw]; exact d4
    replace d5 : W2.cell? ⟨p', 5, none⟩ = some (.int .i64 fb) := by rw [hw]; exact d5
    clear hw
    go_wp2_with fail
    go_ret
    exact ⟨rfl, Below.of_same (Below.refl _ _) HH.out.1 HH.out.2.1 HH.out.2.2.1 HH.out.2.2.2⟩
  · have h3' : (lexS Ka Kb != 0) = true := by simpa using h3
    go_enter Try.func48, Try.ntmps48
    go_wp2_with fail
    go_quiet ((go_at_call 50; exact Calls.quiet_of_same (cmp_50 _ _ _)))
    obtain ⟨W1, hw⟩ : ∃ W1, W1 = w.drewN nq := ⟨_, rfl⟩
    rw [← hw]
    have HH : Hid (W1.heap = w.heap ∧ W1.os = w.os ∧ W1.tape = w.tape ∧ W1.output = w.output) := by rw [hw]; exact ⟨rfl, rfl, rfl, rfl⟩
    replace c0 : W1.cell? ⟨p, 0, none⟩ = some (.int .u8 k) := by rw [hw]; exact c0
    replace c1 : W1.cell? ⟨p, 1, none⟩ = some (.int .i64 i) := by rw [hw]; exact c1
    replace c2 : W1.cell? ⟨p, 2, none⟩ = some (.string s) := by rw [hw]; exact c2
    replace c3 : W1.cell? ⟨p, 3, none⟩ = some (.slice A len cap) := by rw [hw]; exact c3
    replace c4 : W1.cell? ⟨p, 4, none⟩ = some (.int .i64 sa) := by rw [hw]; exact c4
    replace c5 : W1.cell? ⟨p, 5, none⟩ = some (.int .i64 fa) := by rw [hw]; exact c5
    replace d0 : W1.cell? ⟨p', 0, none⟩ = some (.int .u8 k') := by rw [hw]; exact d0
    replace d1 : W1.cell? ⟨p', 1, none⟩ = some (.int .i64 i') := by rw [hw]; exact d1
    replace d2 : W1.cell? ⟨p', 2, none⟩ = some (.string s') := by rw [hw]; exact d2
    replace d3 : W1.cell? ⟨p', 3, none⟩ = some (.slice A' len' cap') := by rw [hw]; exact d3
    replace d4 : W1.cell? ⟨p', 4, none⟩ = some (.int .i64 sb) := by rw [hw]; exact d4
    replace d5 : W1.cell? ⟨p', 5, none⟩ = some (.int .i64 fb) := by rw [hw]; exact d5
    clear hw
    go_wp2_with fail
    go_quiet ((go_at_call 50; exact Calls.quiet_of_same (cmp_50 _ _ _)))
    obtain ⟨W2, hw⟩ : ∃ W2, W2 = W1.drewN nq := ⟨_, rfl⟩
    rw [← hw]
    have HH : Hid (W2.heap = w.heap ∧ W2.os = w.os ∧ W2.tape = w.tape ∧ W2.output = w.output) := by rw [hw]; exact HH.out
    replace c0 : W2.cell? ⟨p, 0, none⟩ = some (.int .u8 k) := by rw [hw]; exact c0
    replace c1 : W2.cell? ⟨p, 1, none⟩ = some (.int .i64 i) := by rw [hw]; exact c1
    replace c2 : W2.cell? ⟨p, 2, none⟩ = some (.string s) := by rw [hw]; exact c2
    replace c3 : W2.cell? ⟨p, 3, none⟩ = some (.slice A len cap) := by rw [hw]; exact c3
    replace c4 : W2.cell? ⟨p, 4, none⟩ = some (.int .i64 sa) := by rw [hw]; exact c4
    replace c5 : W2.cell? ⟨p, 5, none⟩ = some (.int .i64 fa) := by rw [hw]; exact c5
    replace d0 : W2.cell? ⟨p', 0, none⟩ = some (.int .u8 k') := by rw [hw]; exact d0
    replace d1 : W2.cell? ⟨p', 1, none⟩ = some (.int .i64 i') := by rw [hw]; exact d1
    replace d2 : W2.cell? ⟨p', 2, none⟩ = some (.string s') := by rw [hw]; exact d2
    replace d3 : W2.cell? ⟨p', 3, none⟩ = some (.slice A' len' cap') := by rw [hw]; exact d3
    replace d4 : W2.cell? ⟨p', 4, none⟩ = some (.int .i64 sb) := by rw [hw]; exact d4
    replace d5 : W2.cell? ⟨p', 5, none⟩ = some (.int .i64 fb) := by rw [hw]; exact d5
    clear hw
    go_wp2_with fail
    go_still_tail 8, mixed
    refine wpList_plain rfl fun K hK => ?_
    go_simp
    refine (hcv { W2 with drawn := W2.drawn + 1 } HH.out.1 HH.out.2.1 HH.out.2.2.1 HH.out.2.2.2).mono ?_
    rintro e w2 ⟨rfl, hb⟩
    refine hK _ _ ?_
    clear hK K hcv c0 c1 c2 c3 c4 c5 d0 d1 d2 d3 d4 d5
    have b1 : w2.cell? ⟨p, 6, none⟩ = some (.bool pa) := by rw [bcell ((hb.block p hlp).trans HP.out.1)]; rfl
    have b2 : w2.cell? ⟨p', 6, none⟩ = some (.bool pb) := by rw [bcell ((hb.block p' hlp').trans HP.out.2)]; rfl
    clear HP
    go_wp2_with fail
    go_ret
    exact ⟨rfl, hb⟩
  · subst h4
    go_enter Try.func48, Try.ntmps48
    go_wp2_with fail
    go_quiet ((go_at_call 50; exact Calls.quiet_of_same (cmp_50 _ _ _)))
    obtain ⟨W1, hw⟩ : ∃ W1, W1 = w.drewN nq := ⟨_, rfl⟩
    rw [← hw]
    have HH : Hid (W1.heap = w.heap ∧ W1.os = w.os ∧ W1.tape = w.tape ∧ W1.output = w.output) := by rw [hw]; exact ⟨rfl, rfl, rfl, rfl⟩
    replace c0 : W1.cell? ⟨p, 0, none⟩ = some (.int .u8 k) := by rw [hw]; exact c0
    replace c1 : W1.cell? ⟨p, 1, none⟩ = some (.int .i64 i) := by rw [hw]; exact c1
    replace c2 : W1.cell? ⟨p, 2, none⟩ = some (.string s) := by rw [hw]; exact c2
    replace c3 : W1.cell? ⟨p, 3, none⟩ = some (.slice A len cap) := by rw [hw]; exact c3
    replace c4 : W1.cell? ⟨p, 4, none⟩ = some (.int .i64 sa) := by rw [hw]; exact c4
    replace c5 : W1.cell? ⟨p, 5, none⟩ = some (.int .i64 fa) := by rw [hw]; exact c5
    replace d0 : W1.cell? ⟨p', 0, none⟩ = some (.int .u8 k') := by rw [hw]; exact d0
    replace d1 : W1.cell? ⟨p', 1, none⟩ = some (.int .i64 i') := by rw [hw]; exact d1
    replace d2 : W1.cell? ⟨p', 2, none⟩ = some (.string s') := by rw [hw]; exact d2
    replace d3 : W1.cell? ⟨p', 3, none⟩ = some (.slice A' len' cap') := by rw [hw]; exact d3
    replace d4 : W1.cell? ⟨p', 4, none⟩ = some (.int .i64 sb) := by rw [hw]; exact d4
    replace d5 : W1.cell? ⟨p', 5, none⟩ = some (.int .i64 fb) := by rw [hw]; exact d5
    clear hw
    go_wp2_with fail
    go_quiet ((go_at_call 50; exact Calls.quiet_of_same (cmp_50 _ _ _)))
    obtain ⟨W2, hw⟩ : ∃ W2, W2 = W1.drewN nq := ⟨_, rfl⟩
    rw [← hw]
    have HH : Hid (W2.heap = w.heap ∧ W2.os = w.os ∧ W2.tape = w.tape ∧ W2.output = w.output) := by rw [hw]; exact HH.out
    replace c0 : W2.cell? ⟨p, 0, none⟩ = some (.int .u8 k) := by rw [hw]; exact c0
    replace c1 : W2.cell? ⟨p, 1, none⟩ = some (.int .i64 i) := by rw [hw]; exact c1
    replace c2 : W2.cell? ⟨p, 2, none⟩ = some (.string s) := by rw [hw]; exact c2
    replace c3 : W2.cell? ⟨p, 3, none⟩ = some (.slice A len cap) := by rw [hw]; exact c3
    replace c4 : W2.cell? ⟨p, 4, none⟩ = some (.int .i64 sa) := by rw [hw]; exact c4
    replace c5 : W2.cell? ⟨p, 5, none⟩ = some (.int .i64 fa) := by rw [hw]; exact c5
    replace d0 : W2.cell? ⟨p', 0, none⟩ = some (.int .u8 k') := by rw [hw]; exact d0
    replace d1 : W2.cell? ⟨p', 1, none⟩ = some (.int .i64 i') := by rw [hw]; exact d1
    replace d2 : W2.cell? ⟨p', 2, none⟩ = some (.string s') := by rw [hw]; exact d2
    replace d3 : W2.cell? ⟨p', 3, none⟩ = some (.slice A' len' cap') := by rw [hw]; exact d3
    replace d4 : W2.cell? ⟨p', 4, none⟩ = some (.int .i64 sb) := by rw [hw]; exact d4
    replace d5 : W2.cell? ⟨p', 5, none⟩ = some (.int .i64 fb) := by rw [hw]; exact d5
    clear hw
    go_wp2_with fail
    go_still_tail 8, mixed
    refine wpList_plain rfl fun K hK => ?_
    go_simp
    refine (hcv { W2 with drawn := W2.drawn + 1 } HH.out.1 HH.out.2.1 HH.out.2.2.1 HH.out.2.2.2).mono ?_
    rintro e w2 ⟨rfl, hb⟩
    refine hK _ _ ?_
    clear hK K hcv c0 c1 c2 c3 c4 c5 d0 d1 d2 d3 d4 d5
    have b1 : w2.cell? ⟨p, 6, none⟩ = some (.bool pa) := by rw [bcell ((hb.block p hlp).trans HP.out.1)]; rfl
    have b2 : w2.cell? ⟨p', 6, none⟩ = some (.bool pa) := by rw [bcell ((hb.block p' hlp').trans HP.out.2)]; rfl
    clear HP
    go_wp2_with fail
    go_quiet (fail)
    go_wp2_with fail
    go_ret
    exact ⟨rfl, ⟨hb.os, hb.tape, hb.output, hb.size, hb.block⟩⟩
  · subst h4 h5
    go_enter Try.func48, Try.ntmps48
    go_wp2_with fail
    go_quiet ((go_at_call 50; exact Calls.quiet_of_same (cmp_50 _ _ _)))
    obtain ⟨W1, hw⟩ : ∃ W1, W1 = w.drewN nq := ⟨_, rfl⟩
    rw [← hw]
    have HH : Hid (W1.heap = w.heap ∧ W1.os = w.os ∧ W1.tape = w.tape ∧ W1.output = w.output) := by rw [hw]; exact ⟨rfl, rfl, rfl, rfl⟩
    replace c0 : W1.cell? ⟨p, 0, none⟩ = some (.int .u8 k) := by rw [hw]; exact c0
    replace c1 : W1.cell? ⟨p, 1, none⟩ = some (.int .i64 i) := by rw [hw]; exact c1
    replace c2 : W1.cell? ⟨p, 2, none⟩ = some (.string s) := by rw [hw]; exact c2
    replace c3 : W1.cell? ⟨p, 3, none⟩ = some (.slice A len cap) := by rw [hw]; exact c3
    replace c4 : W1.cell? ⟨p, 4, none⟩ = some (.int .i64 sa) := by rw [hw]; exact c4
    replace c5 : W1.cell? ⟨p, 5, none⟩ = some (.int .i64 fa) := by rw [hw]; exact c5
    replace d0 : W1.cell? ⟨p', 0, none⟩ = some (.int .u8 k') := by rw [hw]; exact d0
    replace d1 : W1.cell? ⟨p', 1, none⟩ = some (.int .i64 i') := by rw [hw]; exact d1
    replace d2 : W1.cell? ⟨p', 2, none⟩ = some (.string s') := by rw [hw]; exact d2
    replace d3 : W1.cell? ⟨p', 3, none⟩ = some (.slice A' len' cap') := by rw [hw]; exact d3
    replace d4 : W1.cell? ⟨p', 4, none⟩ = some (.int .i64 sb) := by rw [hw]; exact d4
    replace d5 : W1.cell? ⟨p', 5, none⟩ = some (.int .i64 fb) := by rw [hw]; exact d5
    clear hw
    go_wp2_with fail
    go_quiet ((go_at_call 50; exact Calls.quiet_of_same (cmp_50 _ _ _)))
    obtain ⟨W2, hw⟩ : ∃ W2, W2 = W1.drewN nq := ⟨_, rfl⟩
    rw [← hw]
    have HH : Hid (W2.heap = w.heap ∧ W2.os = w.os ∧ W2.tape = w.tape ∧ W2.output = w.output) := by rw [hw]; exact HH.out
    replace c0 : W2.cell? ⟨p, 0, none⟩ = some (.int .u8 k) := by rw [hw]; exact c0
    replace c1 : W2.cell? ⟨p, 1, none⟩ = some (.int .i64 i) := by rw [hw]; exact c1
    replace c2 : W2.cell? ⟨p, 2, none⟩ = some (.string s) := by rw [hw]; exact c2
    replace c3 : W2.cell? ⟨p, 3, none⟩ = some (.slice A len cap) := by rw [hw]; exact c3
    replace c4 : W2.cell? ⟨p, 4, none⟩ = some (.int .i64 sa) := by rw [hw]; exact c4
    replace c5 : W2.cell? ⟨p, 5, none⟩ = some (.int .i64 fa) := by rw [hw]; exact c5
    replace d0 : W2.cell? ⟨p', 0, none⟩ = some (.int .u8 k') := by rw [hw]; exact d0
    replace d1 : W2.cell? ⟨p', 1, none⟩ = some (.int .i64 i') := by rw [hw]; exact d1
    replace d2 : W2.cell? ⟨p', 2, none⟩ = some (.string s') := by rw [hw]; exact d2
    replace d3 : W2.cell? ⟨p', 3, none⟩ = some (.slice A' len' cap') := by rw [hw]; exact d3
    replace d4 : W2.cell? ⟨p', 4, none⟩ = some (.int .i64 sb) := by rw [hw]; exact d4
    replace d5 : W2.cell? ⟨p', 5, none⟩ = some (.int .i64 fb) := by rw [hw]; exact d5
    clear hw
    go_wp2_with fail
    go_still_tail 8, mixed
    refine wpList_plain rfl fun K hK => ?_
    go_simp
    refine (hcv { W2 with drawn := W2.drawn + 1 } HH.out.1 HH.out.2.1 HH.out.2.2.1 HH.out.2.2.2).mono ?_
    rintro e w2 ⟨rfl, hb⟩
    refine hK _ _ ?_
    clear hK K hcv c0 c1 c2 c3 c4 c5 d0 d1 d2 d3 d4 d5
    have b1 : w2.cell? ⟨p, 6, none⟩ = some (.bool false) := by rw [bcell ((hb.block p hlp).trans HP.out.1)]; rfl
    have b2 : w2.cell? ⟨p', 6, none⟩ = some (.bool true) := by rw [bcell ((hb.block p' hlp').trans HP.out.2)]; rfl
    clear HP
    go_wp2_with fail
    go_quiet (fail)
    go_wp2_with fail
    go_ret
    exact ⟨rfl, ⟨hb.os, hb.tape, hb.output, hb.size, hb.block⟩⟩
  · subst h4 h5
    go_enter Try.func48, Try.ntmps48
    go_wp2_with fail
    go_quiet ((go_at_call 50; exact Calls.quiet_of_same (cmp_50 _ _ _)))
    obtain ⟨W1, hw⟩ : ∃ W1, W1 = w.drewN nq := ⟨_, rfl⟩
    rw [← hw]
    have HH : Hid (W1.heap = w.heap ∧ W1.os = w.os ∧ W1.tape = w.tape ∧ W1.output = w.output) := by rw [hw]; exact ⟨rfl, rfl, rfl, rfl⟩
    replace c0 : W1.cell? ⟨p, 0, none⟩ = some (.int .u8 k) := by rw [hw]; exact c0
    replace c1 : W1.cell? ⟨p, 1, none⟩ = some (.int .i64 i) := by rw [hw]; exact c1
    replace c2 : W1.cell? ⟨p, 2, none⟩ = some (.string s) := by rw [hw]; exact c2
    replace c3 : W1.cell? ⟨p, 3, none⟩ = some (.slice A len cap) := by rw [hw]; exact c3
    replace c4 : W1.cell? ⟨p, 4, none⟩ = some (.int .i64 sa) := by rw [hw]; exact c4
    replace c5 : W1.cell? ⟨p, 5, none⟩ = some (.int .i64 fa) := by rw [hw]; exact c5
    replace d0 : W1.cell? ⟨p', 0, none⟩ = some (.int .u8 k') := by rw [hw]; exact d0
    replace d1 : W1.cell? ⟨p', 1, none⟩ = some (.int .i64 i') := by rw [hw]; exact d1
    replace d2 : W1.cell? ⟨p', 2, none⟩ = some (.string s') := by rw [hw]; exact d2
    replace d3 : W1.cell? ⟨p', 3, none⟩ = some (.slice A' len' cap') := by rw [hw]; exact d3
    replace d4 : W1.cell? ⟨p', 4, none⟩ = some (.int .i64 sb) := by rw [hw]; exact d4
    replace d5 : W1.cell? ⟨p', 5, none⟩ = some (.int .i64 fb) := by rw [hw]; exact d5
    clear hw
    go_wp2_with fail
    go_quiet ((go_at_call 50; exact Calls.quiet_of_same (cmp_50 _ _ _)))
    obtain ⟨W2, hw⟩ : ∃ W2, W2 = W1.drewN nq := ⟨_, rfl⟩
    rw [← hw]
    have HH : Hid (W2.heap = w.heap ∧ W2.os = w.os ∧ W2.tape = w.tape ∧ W2.output = w.output) := by rw [hw]; exact HH.out
    replace c0 : W2.cell? ⟨p, 0, none⟩ = some (.int .u8 k) := by rw [hw]; exact c0
    replace c1 : W2.cell? ⟨p, 1, none⟩ = some (.int .i64 i) := by rw [hw]; exact c1
    replace c2 : W2.cell? ⟨p, 2, none⟩ = some (.string s) := by rw [hw]; exact c2
    replace c3 : W2.cell? ⟨p, 3, none⟩ = some (.slice A len cap) := by rw [hw]; exact c3
    replace c4 : W2.cell? ⟨p, 4, none⟩ = some (.int .i64 sa) := by rw [hw]; exact c4
    replace c5 : W2.cell? ⟨p, 5, none⟩ = some (.int .i64 fa) := by rw [hw]; exact c5
    replace d0 : W2.cell? ⟨p', 0, none⟩ = some (.int .u8 k') := by rw [hw]; exact d0
    replace d1 : W2.cell? ⟨p', 1, none⟩ = some (.int .i64 i') := by rw [hw]; exact d1
    replace d2 : W2.cell? ⟨p', 2, none⟩ = some (.string s') := by rw [hw]; exact d2
    replace d3 : W2.cell? ⟨p', 3, none⟩ = some (.slice A' len' cap') := by rw [hw]; exact d3
    replace d4 : W2.cell? ⟨p', 4, none⟩ = some (.int .i64 sb) := by rw [hw]; exact d4
    replace d5 : W2.cell? ⟨p', 5, none⟩ = some (.int .i64 fb) := by rw [hw]; exact d5
    clear hw
    go_wp2_with fail
    go_still_tail 8, mixed
    refine wpList_plain rfl fun K hK => ?_
    go_simp
    refine (hcv { W2 with drawn := W2.drawn + 1 } HH.out.1 HH.out.2.1 HH.out.2.2.1 HH.out.2.2.2).mono ?_
    rintro e w2 ⟨rfl, hb⟩
    refine hK _ _ ?_
    clear hK K hcv c0 c1 c2 c3 c4 c5 d0 d1 d2 d3 d4 d5
    have b1 : w2.cell? ⟨p, 6, none⟩ = some (.bool true) := by rw [bcell ((hb.block p hlp).trans HP.out.1)]; rfl
    have b2 : w2.cell? ⟨p', 6, none⟩ = some (.bool false) := by rw [bcell ((hb.block p' hlp').trans HP.out.2)]; rfl
    clear HP
    go_wp2_with fail
    go_quiet (fail)
    go_wp2_with fail
    go_ret
    exact ⟨rfl, ⟨hb.os, hb.tape, hb.output, hb.size, hb.block⟩⟩
end Go.Proofs.Qxb6613283a
