/-
  THE WALK of rootIs.
-/
import Derived.Test.Qxb6613283aWalkG
import Derived.Test.Qxb6613283aWalkH
namespace Go.Proofs.Qxb6613283a
open Go.RowKit
open Go.Deep (BT)

theorem rootF_step (es : List El) (j : Nat) (e : El) (h : es[j]? = some e) : rootF (es.take (j + 1)) = if e.pend then rootF (es.take j) else rootF (es.take j) + 1 := by
  unfold rootF; rw [List.take_add_one, h]; simp
theorem rootM_step (es : List El) (j : Nat) (e : El) (h : es[j]? = some e) : rootM (es.take (j + 1)) = if e.pend then rootM (es.take j) else if e.fin < rootM (es.take j) then e.fin else rootM (es.take j) := by
  unfold rootM; rw [List.take_add_one, h]; simp
theorem rootS_step (es : List El) (j : Nat) (e : El) (h : es[j]? = some e) : rootS (es.take (j + 1)) = addM (rootS (es.take j)) e.hv := by
  unfold rootS; rw [List.take_add_one, h]; simp
theorem rootF_range (es : List El) : ∀ j, j ≤ es.length → 0 ≤ rootF (es.take j) ∧ rootF (es.take j) ≤ j
  | 0, _ => by simp [rootF]
  | j + 1, hj => by
    have ih := rootF_range es j (by omega)
    rw [rootF_step es j _ (List.getElem?_eq_getElem (by omega))]
    split <;> omega
theorem rootS_range (es : List El) : ∀ j, j ≤ es.length → 0 ≤ rootS (es.take j) ∧ rootS (es.take j) < MP
  | 0, _ => by simp [rootS, MP]
  | j + 1, hj => by
    rw [rootS_step es j _ (List.getElem?_eq_getElem (by omega))]
    exact addM_range _ _

set_option maxHeartbeats 2000000 in
set_option maxRecDepth 100000 in
theorem rootIs_nil (w : World) (A : Option Addr) (cap : Nat) : Calls Try.prog 13 #[.pointer none, .slice A 0 cap] w fun r w' => r = .returned (.bool true) ∧ w' = w := by
  go_enter Try.func13, Try.ntmps13
  go_wp2_with fail
  go_ret
  exact ⟨rfl, rfl⟩

set_option maxHeartbeats 2000000 in
set_option maxRecDepth 100000 in
theorem rootIs_13 (w : World) (S : Nat → Prop) (A : Option Addr) (len cap : Nat) (es : List El) (b : Nat) (hes : SIn lim w S A es) (hl : es.length = len) (hll : len ≤ 4096) (h0 : 0 < len) (hoe : ∀ e, e ∈ es → OkE e)
    (r2 : w.cell? ⟨b, 2, none⟩ = some (.int .i32 (es.length : Int))) (r3 : w.cell? ⟨b, 3, none⟩ = some (.int .i32 (rootF es))) (r6 : w.cell? ⟨b, 6, none⟩ = some (.int .i64 (rootM es))) (r7 : w.cell? ⟨b, 7, none⟩ = some (.int .u64 (rootS es))) :
    Calls Try.prog 13 #[.pointer (some ⟨b, 0, none⟩), .slice A len cap] w fun r w' => r = .returned (.bool true) ∧ w' = w := by
  have HE : Hid (SIn lim w S A es ∧ es.length = len ∧ ∀ e, e ∈ es → OkE e) := ⟨hes, hl, hoe⟩
  have c2 := get_22 w b _ r2
  have c3 := get_23 w b _ r3
  have c6 := get_24 w b _ r6
  have c7 := get_25 w b _ r7
  rw [hl] at c2
  have hrF := rootF_range es es.length (Nat.le_refl _)
  rw [List.take_length, hl] at hrF
  clear hes hl hoe r2 r3 r6 r7
  have hd : ((len : Int) == 0) = false := by simp; omega
  have hwl : IntKind.i64.wrap (len : Int) = len := by rw [IntKind.wrap_i64]; omega
  have hwf : IntKind.i64.wrap (rootF es) = rootF es := by rw [IntKind.wrap_i64]; omega
  go_enter Try.func13, Try.ntmps13
  go_wp2_with fail
  go_loopg [5, 6, 7, 18] len (fun gf fv mv sv iv wr => ∃ (j : Nat), j + gf = len ∧ fv = .int .i64 (rootF (es.take j)) ∧ mv = .int .i64 (rootM (es.take j)) ∧ sv = .int .u64 (rootS (es.take j)) ∧ iv = .int .i64 j ∧ wr = w)
  case atStart => exact ⟨0, by omega, rfl, rfl, rfl, rfl, rfl⟩
  case round =>
    obtain ⟨j, hj0, rfl, rfl, rfl, rfl, rfl⟩ := hrel
    have HJ : Hid (j + gk = len) := hj0
    have hjl : j ≤ len := by omega
    clear hj0
    have hF := rootF_range es j (by rw [HE.out.2.1]; exact hjl)
    have hSS := rootS_range es j (by rw [HE.out.2.1]; exact hjl)
    by_cases hlt : j < len
    · obtain ⟨e, he⟩ : ∃ e, es[j]? = some e := ⟨_, List.getElem?_eq_getElem (by rw [HE.out.2.1]; exact hlt)⟩
      have HX : Hid (es[j]? = some e ∧ OkE e) := ⟨he, HE.out.2.2 e (List.mem_of_getElem? he)⟩
      obtain ⟨D, off, n, k, i, s, B, bl, bc, rfl, hD, d0, d1, d2, d3, d4, d5, d6, d7, hv⟩ := (HE.out.1 j e he).at
      clear d0 d1 d2 d3 d4 hv hD he
      have ha := fun W => addMod_21 (rootS (es.take j)) e.hv (by have := HX.out.2; unfold OkE at this; unfold MP at *; omega) (by have := HX.out.2; unfold OkE at this; unfold MP at *; omega) W
      obtain ⟨f, hf⟩ : ∃ f, f = rootF (es.take j) := ⟨_, rfl⟩
      obtain ⟨q, hq⟩ : ∃ q, q = rootM (es.take j) := ⟨_, rfl⟩
      obtain ⟨z, hz⟩ : ∃ z, z = rootS (es.take j) := ⟨_, rfl⟩
      rw [← hf, ← hq, ← hz]
      rw [← hf] at hF
      rw [← hz] at ha hSS
      have HQ : Hid (f = rootF (es.take j) ∧ q = rootM (es.take j) ∧ z = rootS (es.take j)) := ⟨hf, hq, hz⟩
      clear hf hq hz
      have hw1 : IntKind.i64.wrap (f + 1) = f + 1 := by rw [IntKind.wrap_i64]; omega
      cases hp : e.pend with
      | true =>
        rw [hp] at d6
        have HP : Hid (e.pend = true) := hp
        go_wp2_with (go_at_call 21; refine (ha _).mono ?_; rintro r w' ⟨rfl, rfl⟩)
        go_roundg (gk - 1)
        case rel =>
          refine ⟨j + 1, by have := HJ.out; omega, ?_, ?_, ?_, by go_num, rfl⟩
          · rw [rootF_step es j e HX.out.1, ← HQ.out.1, HP.out]; rfl
          · rw [rootM_step es j e HX.out.1, ← HQ.out.2.1, HP.out]; rfl
          · rw [rootS_step es j e HX.out.1, ← HQ.out.2.2]
        case measure => have := HJ.out; omega
      | false =>
        rw [hp] at d6
        have HP : Hid (e.pend = false) := hp
        by_cases hm : e.fin < q
        · have hm' : decide (e.fin < q) = true := by simpa using hm
          have HM : Hid (e.fin < q) := hm
          go_wp2_with (go_at_call 21; refine (ha _).mono ?_; rintro r w' ⟨rfl, rfl⟩)
          go_roundg (gk - 1)
          case rel =>
            refine ⟨j + 1, by have := HJ.out; omega, ?_, ?_, ?_, by go_num, rfl⟩
            · rw [rootF_step es j e HX.out.1, ← HQ.out.1, HP.out]; rfl
            · rw [rootM_step es j e HX.out.1, ← HQ.out.2.1, HP.out]; simp [HM.out]
            · rw [rootS_step es j e HX.out.1, ← HQ.out.2.2]
          case measure => have := HJ.out; omega
        · have hm' : decide (e.fin < q) = false := by simpa using hm
          have HM : Hid (¬ e.fin < q) := hm
          go_wp2_with (go_at_call 21; refine (ha _).mono ?_; rintro r w' ⟨rfl, rfl⟩)
          go_roundg (gk - 1)
          case rel =>
            refine ⟨j + 1, by have := HJ.out; omega, ?_, ?_, ?_, by go_num, rfl⟩
            · rw [rootF_step es j e HX.out.1, ← HQ.out.1, HP.out]; rfl
            · rw [rootM_step es j e HX.out.1, ← HQ.out.2.1, HP.out]; rw [if_neg (by simp), if_neg (by have := HM.out; omega)]
            · rw [rootS_step es j e HX.out.1, ← HQ.out.2.2]
          case measure => have := HJ.out; omega
    · obtain rfl : j = len := by omega
      have e1 : es.take j = es := by rw [← HE.out.2.1, List.take_length]
      rw [e1]
      clear e1 hF hSS
      go_wp2_with (first | (go_at_call 22; refine c2.mono ?_; rintro r w' ⟨rfl, rfl⟩) | (go_at_call 23; refine c3.mono ?_; rintro r w' ⟨rfl, rfl⟩) | (go_at_call 24; refine c6.mono ?_; rintro r w' ⟨rfl, rfl⟩) | (go_at_call 25; refine c7.mono ?_; rintro r w' ⟨rfl, rfl⟩))
      go_ret
      exact ⟨rfl, rfl⟩
end Go.Proofs.Qxb6613283a
