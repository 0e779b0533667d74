/-
  THE WALK of FnInsertOrderDoesNotMatter.
-/
import Derived.Test.Qxb6613283aLawA
namespace Go.Proofs.Qxb6613283a
open Go.RowKit
open Go.Deep (BT)

/-- rootIs, at the root of the treap of the elements. -/
theorem rootIs_tree (w : World) (S T : Nat → Prop) (A : Option Addr) (len cap : Nat) (es : List El) (v : Option Addr) (hes : SIn lim w S A es) (hl : es.length = len) (hll : len ≤ 4096) (hoe : ∀ e, e ∈ es → OkE e) (hfit : FitE es) (ht : TIn w T (allT .nil es) v) :
    Calls Try.prog 13 #[.pointer v, .slice A len cap] w fun r w' => r = .returned (.bool true) ∧ w' = w := by
  obtain ⟨r1, r2, r3, r4⟩ := allT_root hfit hoe
  by_cases h0 : len = 0
  · subst h0
    obtain rfl : es = [] := List.length_eq_zero_iff.1 hl
    obtain rfl : v = none := ht
    exact rootIs_nil w A cap
  · cases hq : allT .nil es with
    | nil => rw [hq] at r1; simp only [szT] at r1; omega
    | node d1 d2 p l r =>
      rw [hq] at r1 r2 r3 r4 ht
      obtain ⟨b, ep, lo, ro, rfl, hb, he, hl', hr', a0, a1, a2, a3, a4, a5, a6, a7⟩ := ht.cells
      exact rootIs_13 w S A len cap es b hes hl hll (by omega) hoe (by rw [a2, r1]) (by rw [a3, r2]) (by rw [a6, r3]) (by rw [a7, r4])

set_option maxHeartbeats 2000000 in
set_option maxRecDepth 100000 in
theorem law4 (w : World) (A : Option Addr) (len cap : Nat) (es : List El) (k : Int) (hes : SIn anyLen w (fun k => k < w.heap.size) A es) (hl : es.length = len) (hlc : len ≤ cap) (hO : ∀ e, e ∈ es → 0 ≤ e.hv ∧ e.fin ≤ 9223372036854775807) :
    Calls Try.prog 4 #[.slice A len cap, .int .i64 k] w fun r w' => r = .returned (.bool true) ∧ Below w.heap.size w w' := by
  by_cases hbig : 4096 < len
  · have hd : decide ((4096 : Int) < len) = true := by simp; omega
    clear hes hO
    go_enter Try.func4, Try.ntmps4
    go_wp2_with fail
    go_ret
    exact ⟨rfl, Below.refl _ _⟩
  · have hd : decide ((4096 : Int) < len) = false := by simp; omega
    have HE : Hid (SIn anyLen w (fun k => k < w.heap.size) A es ∧ es.length = len ∧ (∀ e, e ∈ es → 0 ≤ e.hv ∧ e.fin ≤ 9223372036854775807)) := ⟨hes, hl, hO⟩
    clear hes hl hO
    obtain ⟨N, hN⟩ : ∃ N, N = w.heap.size := ⟨_, rfl⟩
    have HN : Hid (N = w.heap.size) := hN
    rw [← hN]
    have h5 := elemsBytes_5 w (fun k => k < w.heap.size) anyLen A len cap es HE.out.1 HE.out.2.1 (by omega) (fun _ h => h)
    rw [← hN] at h5
    clear hN
    go_enter Try.func4, Try.ntmps4
    go_wp2_with fail
    refine h5.mono ?_
    clear h5
    rintro r w1 ⟨⟨x, rfl, hx⟩, hb1⟩
    have H1 : Hid (Below N w w1 ∧ N ≤ w1.heap.size) := ⟨hb1, by have := HN.out; have := hb1.size; omega⟩
    have HX : Hid (x ≤ 1048576 → SIn lim w (fun k => k < N) A es) := hx
    clear hx hb1
    by_cases hxb : 1048576 < x
    · have hxd : decide (1048576 < x) = true := by simpa using hxb
      go_wp2_with fail
      go_ret
      exact ⟨rfl, H1.out.1⟩
    · have hxd : decide (1048576 < x) = false := by simpa using hxb
      have HSL : Hid (SIn lim w (fun k => k < N) A es) := HX.out (by omega)
      clear HX
      by_cases hk0 : k < 0
      · have hkd : decide (k < 0) = true := by simpa using hk0
        go_wp2_with fail
        go_ret
        exact ⟨rfl, H1.out.1⟩
      · have hkd : decide (k < 0) = false := by simpa using hk0
        by_cases hk1 : (len : Int) < k
        · have hke : decide ((len : Int) < k) = true := by simpa using hk1
          go_wp2_with fail
          go_ret
          exact ⟨rfl, H1.out.1⟩
        · have hke : decide ((len : Int) < k) = false := by simpa using hk1
          obtain ⟨q, rfl⟩ : ∃ q : Nat, k = (q : Int) := ⟨k.toNat, by omega⟩
          have hql : q ≤ len := by omega
          have h6 := hvFit_6 w1 (fun k => k < N) A len cap es (HSL.out.frame (fun k hk => H1.out.1.block k hk) (fun _ h => h)) HE.out.2.1 (by omega) (fun k hk => Nat.lt_of_lt_of_le hk H1.out.2)
          have hkf : decide (len < q) = false := by simp; omega
          go_wp2_with fail
          refine h6.mono ?_
          clear h6
          rintro r w2 ⟨⟨x2, rfl, hx2⟩, hb2⟩
          have H2 : Hid (Below N w w2 ∧ N ≤ w2.heap.size) := ⟨H1.out.1.trans (hb2.mono H1.out.2), Nat.le_trans H1.out.2 hb2.size⟩
          clear hb2 H1
          cases x2 with
          | false =>
            go_wp2_with fail
            go_ret
            exact ⟨rfl, H2.out.1⟩
          | true =>
            have hfe := hx2 rfl
            have HF : Hid (FitE es ∧ ∀ e, e ∈ es → OkE e) := ⟨hfe.1, fun e he => ⟨(HE.out.2.2 e he).1, hfe.2 e he, (HE.out.2.2 e he).2⟩⟩
            clear hx2 hfe
            have h12 := insertAll_12 w2 (fun k => k < N) A len cap es .nil none (HSL.out.frame (fun k hk => H2.out.1.block k hk) (fun _ h => h)) HE.out.2.1 (fun k hk => Nat.lt_of_lt_of_le hk H2.out.2) rfl trivial HF.out.2 (by simp only [szT]; omega)
            go_wp2_with (go_at_call 7; refine (noMember_7 _).mono ?_; rintro r w' ⟨rfl, rfl⟩)
            refine h12.mono ?_
            clear h12
            rintro r w3 ⟨⟨v1, rfl, ht1⟩, hb3⟩
            have HT : Hid (TIn w3 (fun k => k < w3.heap.size) (allT .nil es) v1 ∧ Below N w w3 ∧ N ≤ w3.heap.size) := ⟨ht1, H2.out.1.trans (hb3.mono H2.out.2), Nat.le_trans H2.out.2 hb3.size⟩
            clear ht1 hb3 H2
            have hs1 := fun W => slice_l A len cap q hql W
            have hs2 := fun W => slice_h A len cap q (by omega) W
            have k1 : SIn lim w (fun k => k < N) (if cap = q then A else A.map (·.add (q * 8))) (es.drop q) := HSL.out.drop (by rw [HE.out.2.1]; exact hlc)
            have k2 : SIn lim w (fun k => k < N) (if cap = 0 then A else A.map (·.add 0)) (es.take q) := HSL.out.take
            obtain ⟨B1, hB1⟩ : ∃ B1, B1 = (if cap = q then A else A.map (·.add (q * 8))) := ⟨_, rfl⟩
            obtain ⟨B2, hB2⟩ : ∃ B2, B2 = (if cap = 0 then A else A.map (·.add 0)) := ⟨_, rfl⟩
            rw [← hB1] at hs1 k1
            rw [← hB2] at hs2 k2
            clear hB1 hB2
            have h12 : Calls Try.prog 12 #[.pointer none, .slice B1 (len - q) (cap - q)] w3.drew fun r w4 => ∃ v', r = .returned (.pointer v') ∧ Calls Try.prog 12 #[.pointer v', .slice B2 q cap] w4 fun r w5 => ∃ v2, r = .returned (.pointer v2) ∧
                Hid (TIn w5 (fun k => k < w5.heap.size) (allT .nil (es.drop q ++ es.take q)) v2 ∧ TIn w5 (fun k => k < w5.heap.size) (allT .nil es) v1 ∧ Below N w w5 ∧ N ≤ w5.heap.size) := by
              have hlq : (es.drop q).length = len - q := by rw [List.length_drop, HE.out.2.1]
              have hlt : (es.take q).length = q := by rw [List.length_take, HE.out.2.1]; omega
              refine (insertAll_12 w3.drew (fun k => k < N) B1 (len - q) (cap - q) (es.drop q) .nil none (k1.frame (w' := w3.drew) (fun k hk => HT.out.2.1.block k hk) (fun _ h => h)) hlq (fun k hk => Nat.lt_of_lt_of_le hk HT.out.2.2) rfl trivial (fun e he => HF.out.2 e (List.mem_of_mem_drop he)) (by simp only [szT]; omega)).mono ?_
              rintro r w4 ⟨⟨v', rfl, t4⟩, b4'⟩
              have b4 : Below w3.heap.size w3 w4 := ⟨b4'.os, b4'.tape, b4'.output, b4'.size, b4'.block⟩
              have c4 := HT.out.2.1.trans (b4.mono HT.out.2.2)
              refine ⟨v', rfl, ?_⟩
              refine (insertAll_12 w4 (fun k => k < N) B2 q cap (es.take q) (allT .nil (es.drop q)) v' (k2.frame (fun k hk => c4.block k hk) (fun _ h => h)) hlt (fun k hk => Nat.lt_of_lt_of_le hk (Nat.le_trans HT.out.2.2 b4.size)) t4 (allT_okT _ _ (fun e he => HF.out.2 e (List.mem_of_mem_drop he)) trivial) (fun e he => HF.out.2 e (List.mem_of_mem_take he)) (by rw [allT_sz, hlq]; simp only [szT]; omega)).mono ?_
              rintro r w5 ⟨⟨v2, rfl, t5⟩, b5⟩
              have b35 : Below w3.heap.size w3 w5 := b4.trans (b5.mono b4.size)
              refine ⟨v2, rfl, ?_, HT.out.1.frame (fun k hk => b35.block k hk) (fun k hk => Nat.lt_of_lt_of_le hk b35.size), HT.out.2.1.trans (b35.mono HT.out.2.2), Nat.le_trans HT.out.2.2 b35.size⟩
              have e : allT .nil (es.drop q ++ es.take q) = allT (allT .nil (es.drop q)) (es.take q) := by unfold allT; rw [List.foldl_append]
              rw [e]
              exact t5
            clear k1 k2
            go_wp2_with fail
            go_region_held3 (fun _ => True) (trivial)
              (first
                | (go_at_call 7; refine (noMember_7 _).mono ?_; rintro r w' ⟨rfl, rfl⟩)
                | (go_at_call_has 12 B1; refine h12.mono ?_; rintro r w4 ⟨v', rfl, h12c⟩)
                | (go_at_call_has 12 B2; refine h12c.mono ?_; rintro r w5 ⟨v2, rfl, hfin⟩))
            have HW := hfin
            clear hs1 hs2 h12 h12c hfin HT
            have h13 := rootIs_tree w5 (fun k => k < N) (fun k => k < w5.heap.size) A len cap es v1 (HSL.out.frame (fun k hk => HW.out.2.2.1.block k hk) (fun _ h => h)) HE.out.2.1 (by omega) HF.out.2 HF.out.1 HW.out.2.1
            have hperm : es.Perm (es.drop q ++ es.take q) := by
              have h1 : (es.take q ++ es.drop q).Perm (es.drop q ++ es.take q) := List.perm_append_comm
              rwa [List.take_append_drop] at h1
            have hdp := dpT_le (allT .nil es) (allT_ct es .nil trivial)
            rw [allT_sz, HE.out.2.1] at hdp
            simp only [szT] at hdp
            have h14 := sameTree_14 (allT .nil es) (allT .nil (es.drop q ++ es.take q)) w5 (fun k => k < w5.heap.size) v1 v2 (len + 1) HW.out.2.1 HW.out.1 (allT_perm hperm HF.out.1) (fun _ h => h) (by omega) (by omega)
            rw [show ((len + 1 : Nat) : Int) = (len : Int) + 1 by omega] at h14
            clear hperm hdp
            go_wp2_with (go_at_call 13; refine h13.mono ?_; rintro r w' ⟨rfl, rfl⟩)
            refine h14.mono ?_
            clear h14 h13
            rintro r w6 ⟨rfl, hb6⟩
            have H6 : Hid (Below N w w6) := HW.out.2.2.1.trans (hb6.mono HW.out.2.2.2)
            clear hb6 HW
            go_wp2_with fail
            go_ret
            exact ⟨rfl, H6.out⟩
end Go.Proofs.Qxb6613283a
