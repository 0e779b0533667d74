/-
  THE WALK of FnInsertBuildsThePoolInOrder.
-/
import Derived.Test.Qxb6613283aWalkY
import Derived.Test.Qxb6613283aWalkL
import Derived.Test.Qxb6613283aLawA
namespace Go.Proofs.Qxb6613283a
open Go.RowKit
open Go.Deep (BT)

/-- The three calls of one round. -/
theorem round_calls (w1 : World) (S : Nat → Prop) (X : Nat) (k i : Int) (s : ByteArray) (B : Option Addr) (bl bc n : Nat) (e : El) (t : BT (El × Nat)) (u : Option Addr) (hX : w1.heap[X]? = some (.cells #[.int .u8 k, .int .i64 i, .string s, .slice B bl bc, .int .i64 e.start, .int .i64 e.fin, .bool e.pend, .int .u64 e.hv] 32)) (hv : VIn w1 S lim n #[.int .u8 k, .int .i64 i, .string s, .slice B bl bc] e.K e.F) (hS : ∀ k, S k → k < w1.heap.size)
    (ht : TIn w1 (fun k => k < w1.heap.size) t u) (hoe : OkE e) (hok : OkT t) (hsz : szT t ≤ 4096) :
    Calls Try.prog 10 #[.agg #[.int .u8 k, .int .i64 i, .string s, .slice B bl bc]] w1.drew fun r w2 => ∃ cs', r = .returned (.agg cs') ∧ EB X k i s B bl bc e w2 ∧
      Calls Try.prog 9 #[.agg cs', .int .i64 e.start, .int .i64 e.fin, .bool e.pend, .int .u64 e.hv] w2 fun r w3 => ∃ mb, r = .returned (.pointer (some ⟨mb, 0, none⟩)) ∧ EB X k i s B bl bc e w3 ∧
      Calls Try.prog 8 #[.pointer u, .pointer (some ⟨mb, 0, none⟩)] w3 fun r w4 => ∃ v', r = .returned (.pointer v') ∧ EB X k i s B bl bc e w4 ∧ Hid (TIn w4 (fun k => k < w4.heap.size) (insT e t) v' ∧ Below w1.heap.size w1 w4) := by
  refine (toValue_10 n w1.drew S _ e.K e.F (VIn.frame (w := w1) (w' := w1.drew) (fun _ _ => rfl) (fun _ h => h) (fun _ h => h) n _ _ _ hv) hS).mono ?_
  rintro r w2 ⟨⟨cs', rfl, hv2⟩, hb2⟩
  have b2 : Below w1.heap.size w1 w2 := ⟨hb2.os, hb2.tape, hb2.output, hb2.size, hb2.block⟩
  have x2 := (b2.block X (blt hX)).trans hX
  refine ⟨cs', rfl, EB.of x2, ?_⟩
  refine (insert_one t w2 u e n cs' _ hv2 (fun k hk => hk.2) (ht.frame (fun k hk => b2.block k hk) (fun k hk => Nat.lt_of_lt_of_le hk b2.size)) hoe hok hsz).mono ?_
  rintro r w3 ⟨rfl, hb3, h8⟩
  refine ⟨_, rfl, EB.of ((hb3.block X (blt x2)).trans x2), ?_⟩
  refine h8.mono ?_
  rintro r w4 ⟨⟨v', rfl, ht4⟩, hb4⟩
  exact ⟨v', rfl, EB.of ((hb4.block X (blt x2)).trans x2), ht4, b2.trans (hb4.mono b2.size)⟩

set_option maxHeartbeats 4000000 in
set_option maxRecDepth 100000 in
theorem law3 (w : World) (A : Option Addr) (len cap : Nat) (es : List El) (k : Int) (hes : SIn anyLen w (fun k => k < w.heap.size) A es) (hl : es.length = len) (hlc : len ≤ cap) (hO : ∀ e, e ∈ es → 0 ≤ e.hv ∧ e.fin ≤ 9223372036854775807) :
    Calls Try.prog 3 #[.slice A len cap, .int .i64 k] w fun r w' => r = .returned (.bool true) ∧ Below w.heap.size w w' := by
  by_cases hbig : 4096 < len
  · have hd : decide ((4096 : Int) < len) = true := by simp; omega
    clear hes hO
    go_enter Try.func3, Try.ntmps3
    go_wp2_with fail
    go_ret
    exact ⟨rfl, Below.refl _ _⟩
  · have hd : decide ((4096 : Int) < len) = false := by simp; omega
    have HE : Hid (SIn anyLen w (fun k => k < w.heap.size) A es ∧ es.length = len ∧ (∀ e, e ∈ es → 0 ≤ e.hv ∧ e.fin ≤ 9223372036854775807)) := ⟨hes, hl, hO⟩
    clear hes hl hO
    obtain ⟨N, hN⟩ : ∃ N, N = w.heap.size := ⟨_, rfl⟩
    have HN : Hid (N = w.heap.size) := hN
    rw [← hN]
    have h5 := elemsBytes_5 w (fun k => k < w.heap.size) anyLen A len cap es HE.out.1 HE.out.2.1 (by omega) (fun _ h => h)
    rw [← hN] at h5
    clear hN
    go_enter Try.func3, Try.ntmps3
    go_wp2_with fail
    refine h5.mono ?_
    clear h5
    rintro r w1 ⟨⟨x, rfl, hx⟩, hb1⟩
    have H1 : Hid (Below N w w1 ∧ N ≤ w1.heap.size) := ⟨hb1, by have := HN.out; have := hb1.size; omega⟩
    have HX : Hid (x ≤ 1048576 → SIn lim w (fun k => k < N) A es) := hx
    clear hx hb1
    by_cases hxb : 1048576 < x
    · have hxd : decide (1048576 < x) = true := by simpa using hxb
      go_wp2_with fail
      go_ret
      exact ⟨rfl, H1.out.1⟩
    · have hxd : decide (1048576 < x) = false := by simpa using hxb
      have HSL : Hid (SIn lim w (fun k => k < N) A es) := HX.out (by omega)
      clear HX
      by_cases hk0 : k < 0
      · have hkd : decide (k < 0) = true := by simpa using hk0
        go_wp2_with fail
        go_ret
        exact ⟨rfl, H1.out.1⟩
      · have hkd : decide (k < 0) = false := by simpa using hk0
        by_cases hk1 : (len : Int) < k
        · have hke : decide ((len : Int) < k) = true := by simpa using hk1
          go_wp2_with fail
          go_ret
          exact ⟨rfl, H1.out.1⟩
        · have hke : decide ((len : Int) < k) = false := by simpa using hk1
          obtain ⟨q, rfl⟩ : ∃ q : Nat, k = (q : Int) := ⟨k.toNat, by omega⟩
          have hql : q ≤ len := by omega
          have h6 := hvFit_6 w1 (fun k => k < N) A len cap es (HSL.out.frame (fun k hk => H1.out.1.block k hk) (fun _ h => h)) HE.out.2.1 (by omega) (fun k hk => Nat.lt_of_lt_of_le hk H1.out.2)
          have hkf : decide (len < q) = false := by simp; omega
          go_wp2_with fail
          refine h6.mono ?_
          clear h6
          rintro r w2 ⟨⟨x2, rfl, hx2⟩, hb2⟩
          have H2 : Hid (Below N w w2 ∧ N ≤ w2.heap.size) := ⟨H1.out.1.trans (hb2.mono H1.out.2), Nat.le_trans H1.out.2 hb2.size⟩
          clear hb2 H1
          cases x2 with
          | false =>
            go_wp2_with fail
            go_ret
            exact ⟨rfl, H2.out.1⟩
          | true =>
            have hfe := hx2 rfl
            have HF : Hid (FitE es ∧ ∀ e, e ∈ es → OkE e) := ⟨hfe.1, fun e he => ⟨(HE.out.2.2 e he).1, hfe.2 e he, (HE.out.2.2 e he).2⟩⟩
            clear hx2 hfe
            clear hxd hkd hke hk0 hk1 hxb
            go_wp2_with (go_at_call 7; refine (noMember_7 _).mono ?_; rintro r w' ⟨rfl, rfl⟩)
            go_loopg [5, 6, 32] len (fun gf tv pv iv wr => ∃ (i : Nat) (u kv : Option Addr), i + gf = len ∧ tv = .pointer u ∧ pv = .pointer kv ∧ iv = .int .i64 i ∧ TIn wr (fun k => k < wr.heap.size) (allT .nil (es.take i)) u ∧ (q < i → TIn wr (fun k => k < wr.heap.size) (allT .nil (es.take q)) kv) ∧ Below N w wr ∧ N ≤ wr.heap.size)
            case atStart => exact ⟨0, none, none, by omega, rfl, rfl, rfl, rfl, fun h => by omega, H2.out.1, H2.out.2⟩
            case round =>
              obtain ⟨i, u, kv, hj0, rfl, rfl, rfl, hti, htq, hbw, hsw⟩ := hrel
              have HJ : Hid (i + gk = len) := hj0
              have HI : Hid (TIn wr (fun k => k < wr.heap.size) (allT .nil (es.take i)) u ∧ (q < i → TIn wr (fun k => k < wr.heap.size) (allT .nil (es.take q)) kv) ∧ Below N w wr ∧ N ≤ wr.heap.size) := ⟨hti, htq, hbw, hsw⟩
              have hil : i ≤ len := by omega
              clear hj0 hti htq hbw hsw
              by_cases hlt : i < len
              · obtain ⟨e, he⟩ : ∃ e, es[i]? = some e := ⟨_, List.getElem?_eq_getElem (by rw [HE.out.2.1]; exact hlt)⟩
                have HXE : Hid (EItem lim w (fun k => k < N) A i e ∧ es[i]? = some e) := ⟨HSL.out i e he, he⟩
                clear he
                obtain ⟨D, off, nn, kk, vv, ss, Bb, bl, bc, rfl, hD, d0, d1, d2, d3, d4, d5, d6, d7, hvv⟩ := HXE.out.1.at
                have hc : ∀ o, wr.cell? ⟨D, o, none⟩ = w.cell? ⟨D, o, none⟩ := fun o => World.cell?_of_block (HI.out.2.2.1.block D hD)
                have g0 := (hc _).trans d0
                have g1 := (hc _).trans d1
                have g2 := (hc _).trans d2
                have g3 := (hc _).trans d3
                have g4 := (hc _).trans d4
                have g5 := (hc _).trans d5
                have g6 := (hc _).trans d6
                have g7 := (hc _).trans d7
                have HV : Hid (VIn w (fun k => k < N) lim nn #[.int .u8 kk, .int .i64 vv, .string ss, .slice Bb bl bc] e.K e.F) := hvv
                clear d0 d1 d2 d3 d4 d5 d6 d7 hvv hc hD
                by_cases hiq : i = q
                · have hiq1 : ((i : Int) == (q : Int)) = true := by simp [hiq]
                  have hiq2 : (i == q) = true := by simp [hiq]
                  have HIQ : Hid (i = q) := hiq
                  clear hiq hiq1 hiq2
                  have hiq3 := HIQ.out
                  subst hiq3
                  go_wp2_with fail
                  clear g0 g1 g2 g3 g4 g5 g6 g7
                  generalize hw1 : wr.alloc _ = w4
                  generalize hX : wr.heap.size = X
                  have a1 : w4.heap[X]? = some (.cells #[.int .u8 kk, .int .i64 vv, .string ss, .slice Bb bl bc, .int .i64 e.start, .int .i64 e.fin, .bool e.pend, .int .u64 e.hv] 32) := by rw [← hw1, ← hX]; exact alloc_at _ _
                  have a2 : Below X wr w4 := by rw [← hw1, ← hX]; exact alloc_below _ _
                  have a4 : Below N w w4 := HI.out.2.2.1.trans (a2.mono (by rw [← hX]; exact HI.out.2.2.2))
                  have a5 : TIn w4 (fun k => k < w4.heap.size) (allT .nil (es.take i)) u := HI.out.1.frame (fun k hk => a2.block k (by rw [← hX]; exact hk)) (fun k hk => Nat.lt_of_lt_of_le hk a2.size)
                  have a6 : i < i → TIn w4 (fun k => k < w4.heap.size) (allT .nil (es.take i)) kv := fun h => (HI.out.2.1 h).frame (fun k hk => a2.block k (by rw [← hX]; exact hk)) (fun k hk => Nat.lt_of_lt_of_le hk a2.size)
                  have hmem : e ∈ es := List.mem_of_getElem? HXE.out.2
                  have h10 := round_calls w4 (fun k => k < N) X kk vv ss Bb bl bc nn e (allT .nil (es.take i)) u a1 (VIn.frame (fun k hk => a4.block k hk) (fun _ h => h) (fun _ h => h) nn _ _ _ HV.out) (fun k hk => Nat.lt_of_lt_of_le hk (Nat.le_trans HI.out.2.2.2 (by rw [hX]; exact Nat.le_of_lt (blt a1)))) a5 (HF.out.2 e hmem) (allT_okT _ _ (fun x hx => HF.out.2 x (List.mem_of_mem_take hx)) trivial) (by rw [allT_sz, List.length_take]; simp only [szT]; omega)
                  have hs1 : EB X kk vv ss Bb bl bc e w4.drew := EB.of a1
                  have HA4 : Hid (Below N w w4 ∧ TIn w4 (fun k => k < w4.heap.size) (allT .nil (es.take i)) u ∧ (i < i → TIn w4 (fun k => k < w4.heap.size) (allT .nil (es.take i)) kv) ∧ N ≤ w4.heap.size) := ⟨a4, a5, a6, Nat.le_trans HI.out.2.2.2 (by rw [hX]; exact Nat.le_of_lt (blt a1))⟩
                  clear hw1 hX a1 a2 a4 a5 a6 hmem
                  go_region_held3 (fun W => W.cell? ⟨X, 0, none⟩ = some (.int .u8 kk) ∧ W.cell? ⟨X, 1, none⟩ = some (.int .i64 vv) ∧ W.cell? ⟨X, 2, none⟩ = some (.string ss) ∧ W.cell? ⟨X, 3, none⟩ = some (.slice Bb bl bc) ∧ W.cell? ⟨X, 4, none⟩ = some (.int .i64 e.start) ∧ W.cell? ⟨X, 5, none⟩ = some (.int .i64 e.fin) ∧ W.cell? ⟨X, 6, none⟩ = some (.bool e.pend) ∧ W.cell? ⟨X, 7, none⟩ = some (.int .u64 e.hv)) (assumption)
                    (first
                      | (go_at_call 10; refine h10.mono ?_; rintro r w5 ⟨cs', rfl, hs2, h9⟩)
                      | (go_at_call 9; refine h9.mono ?_; rintro r w6 ⟨mb, rfl, hs3, h8⟩)
                      | (go_at_call 8; refine h8.mono ?_; rintro r w7 ⟨v', rfl, hs4, hfin⟩))
                  have HFN := hfin
                  clear hs1 hs2 hs3 hs4 h10 h9 h8 hfin
                  go_wp2_with fail
                  go_roundg (gk - 1)
                  case rel =>
                    obtain ⟨f1, f2⟩ := HFN.out
                    have hfr : ∀ {t : BT (El × Nat)} {z : Option Addr}, TIn w4 (fun k => k < w4.heap.size) t z → TIn w7 (fun k => k < w7.heap.size) t z := fun h => h.frame (fun k hk => f2.block k hk) (fun k hk => Nat.lt_of_lt_of_le hk f2.size)
                    refine ⟨i + 1, v', u, by have := HJ.out; omega, rfl, rfl, by go_num, ?_, fun hq => ?_, HA4.out.1.trans (f2.mono HA4.out.2.2.2), Nat.le_trans HA4.out.2.2.2 f2.size⟩
                    · rw [List.take_add_one, HXE.out.2]
                      simp only [allT, Option.toList_some, List.foldl_append, List.foldl_cons, List.foldl_nil] at f1 ⊢
                      exact f1
                    · exact hfr HA4.out.2.1
                  case measure => have := HJ.out; omega
                · have hiq1 : ((i : Int) == (q : Int)) = false := by simp; omega
                  have hiq2 : (i == q) = false := by simpa using hiq
                  have HIQ : Hid (¬ i = q) := hiq
                  go_wp2_with fail
                  clear g0 g1 g2 g3 g4 g5 g6 g7
                  generalize hw1 : wr.alloc _ = w4
                  generalize hX : wr.heap.size = X
                  have a1 : w4.heap[X]? = some (.cells #[.int .u8 kk, .int .i64 vv, .string ss, .slice Bb bl bc, .int .i64 e.start, .int .i64 e.fin, .bool e.pend, .int .u64 e.hv] 32) := by rw [← hw1, ← hX]; exact alloc_at _ _
                  have a2 : Below X wr w4 := by rw [← hw1, ← hX]; exact alloc_below _ _
                  have a4 : Below N w w4 := HI.out.2.2.1.trans (a2.mono (by rw [← hX]; exact HI.out.2.2.2))
                  have a5 : TIn w4 (fun k => k < w4.heap.size) (allT .nil (es.take i)) u := HI.out.1.frame (fun k hk => a2.block k (by rw [← hX]; exact hk)) (fun k hk => Nat.lt_of_lt_of_le hk a2.size)
                  have a6 : q < i → TIn w4 (fun k => k < w4.heap.size) (allT .nil (es.take q)) kv := fun h => (HI.out.2.1 h).frame (fun k hk => a2.block k (by rw [← hX]; exact hk)) (fun k hk => Nat.lt_of_lt_of_le hk a2.size)
                  have hmem : e ∈ es := List.mem_of_getElem? HXE.out.2
                  have h10 := round_calls w4 (fun k => k < N) X kk vv ss Bb bl bc nn e (allT .nil (es.take i)) u a1 (VIn.frame (fun k hk => a4.block k hk) (fun _ h => h) (fun _ h => h) nn _ _ _ HV.out) (fun k hk => Nat.lt_of_lt_of_le hk (Nat.le_trans HI.out.2.2.2 (by rw [hX]; exact Nat.le_of_lt (blt a1)))) a5 (HF.out.2 e hmem) (allT_okT _ _ (fun x hx => HF.out.2 x (List.mem_of_mem_take hx)) trivial) (by rw [allT_sz, List.length_take]; simp only [szT]; omega)
                  have hs1 : EB X kk vv ss Bb bl bc e w4.drew := EB.of a1
                  have HA4 : Hid (Below N w w4 ∧ TIn w4 (fun k => k < w4.heap.size) (allT .nil (es.take i)) u ∧ (q < i → TIn w4 (fun k => k < w4.heap.size) (allT .nil (es.take q)) kv) ∧ N ≤ w4.heap.size) := ⟨a4, a5, a6, Nat.le_trans HI.out.2.2.2 (by rw [hX]; exact Nat.le_of_lt (blt a1))⟩
                  clear hw1 hX a1 a2 a4 a5 a6 hmem
                  go_region_held3 (fun W => W.cell? ⟨X, 0, none⟩ = some (.int .u8 kk) ∧ W.cell? ⟨X, 1, none⟩ = some (.int .i64 vv) ∧ W.cell? ⟨X, 2, none⟩ = some (.string ss) ∧ W.cell? ⟨X, 3, none⟩ = some (.slice Bb bl bc) ∧ W.cell? ⟨X, 4, none⟩ = some (.int .i64 e.start) ∧ W.cell? ⟨X, 5, none⟩ = some (.int .i64 e.fin) ∧ W.cell? ⟨X, 6, none⟩ = some (.bool e.pend) ∧ W.cell? ⟨X, 7, none⟩ = some (.int .u64 e.hv)) (assumption)
                    (first
                      | (go_at_call 10; refine h10.mono ?_; rintro r w5 ⟨cs', rfl, hs2, h9⟩)
                      | (go_at_call 9; refine h9.mono ?_; rintro r w6 ⟨mb, rfl, hs3, h8⟩)
                      | (go_at_call 8; refine h8.mono ?_; rintro r w7 ⟨v', rfl, hs4, hfin⟩))
                  have HFN := hfin
                  clear hs1 hs2 hs3 hs4 h10 h9 h8 hfin
                  go_wp2_with fail
                  go_roundg (gk - 1)
                  case rel =>
                    obtain ⟨f1, f2⟩ := HFN.out
                    have hfr : ∀ {t : BT (El × Nat)} {z : Option Addr}, TIn w4 (fun k => k < w4.heap.size) t z → TIn w7 (fun k => k < w7.heap.size) t z := fun h => h.frame (fun k hk => f2.block k hk) (fun k hk => Nat.lt_of_lt_of_le hk f2.size)
                    refine ⟨i + 1, v', kv, by have := HJ.out; omega, rfl, rfl, by go_num, ?_, fun hq => ?_, HA4.out.1.trans (f2.mono HA4.out.2.2.2), Nat.le_trans HA4.out.2.2.2 f2.size⟩
                    · rw [List.take_add_one, HXE.out.2]
                      simp only [allT, Option.toList_some, List.foldl_append, List.foldl_cons, List.foldl_nil] at f1 ⊢
                      exact f1
                    · exact hfr (HA4.out.2.2.1 (by have := HIQ.out; omega))
                  case measure => have := HJ.out; omega
              · obtain rfl : i = len := by omega
                have e1 : es.take i = es := by rw [← HE.out.2.1, List.take_length]
                have HT1 : Hid (TIn wr (fun k => k < wr.heap.size) (allT .nil es) u) := by have h := HI.out.1; rw [e1] at h; exact h
                have hs2 := fun W => slice_h A i cap q (by omega) W
                have k2 : SIn lim w (fun k => k < N) (if cap = 0 then A else A.map (·.add 0)) (es.take q) := HSL.out.take
                obtain ⟨B2, hB2⟩ : ∃ B2, B2 = (if cap = 0 then A else A.map (·.add 0)) := ⟨_, rfl⟩
                rw [← hB2] at hs2 k2
                have HK2 : Hid (SIn lim w (fun k => k < N) B2 (es.take q)) := k2
                clear hB2 k2 e1
                have h11 := reads_11 wr (fun k => k < N) (fun k => k < wr.heap.size) A i cap es u (HSL.out.frame (fun k hk => HI.out.2.2.1.block k hk) (fun _ h => h)) HE.out.2.1 (by omega) (fun k hk => Nat.lt_of_lt_of_le hk HI.out.2.2.2) (fun _ h => h) HF.out.2 HF.out.1 HT1.out
                have hfq : FitE (es.take q) := fun a ha b hb => HF.out.1 a (List.mem_of_mem_take ha) b (List.mem_of_mem_take hb)
                have hql2 : (es.take q).length = q := by rw [List.length_take, HE.out.2.1]; omega
                have h11b : ∀ (W : World) (z : Option Addr), Below wr.heap.size wr W → TIn wr (fun k => k < wr.heap.size) (allT .nil (es.take q)) z → Calls Try.prog 11 #[.pointer z, .slice B2 q cap] W fun r w' => r = .returned (.bool true) ∧ Below N w w' := fun W z hb hz =>
                  (reads_11 W (fun k => k < N) (fun k => k < W.heap.size) B2 q cap (es.take q) z (HK2.out.frame (fun k hk => (hb.block k (Nat.lt_of_lt_of_le hk HI.out.2.2.2)).trans (HI.out.2.2.1.block k hk)) (fun _ h => h)) hql2 (by omega) (fun k hk => Nat.lt_of_lt_of_le hk (Nat.le_trans HI.out.2.2.2 hb.size)) (fun _ h => h) (fun x hx => HF.out.2 x (List.mem_of_mem_take hx)) hfq (hz.frame (fun k hk => hb.block k hk) (fun k hk => Nat.lt_of_lt_of_le hk hb.size))).mono fun r w' ⟨h1, h2⟩ => ⟨h1, HI.out.2.2.1.trans ((hb.mono HI.out.2.2.2).trans (h2.mono (Nat.le_trans HI.out.2.2.2 hb.size)))⟩
                clear hfq hql2
                by_cases hqi : q = i
                · have hq1 : ((q : Int) == (i : Int)) = true := by simp [hqi]
                  have hq2 : (q == i) = true := by simp [hqi]
                  have HZ : Hid (TIn wr (fun k => k < wr.heap.size) (allT .nil (es.take q)) u) := by have h := HI.out.1; rw [← hqi] at h; exact h
                  have h11c := fun W hb => h11b W u hb HZ.out
                  clear h11b hqi
                  go_wp2_with fail
                  refine h11.mono ?_
                  clear h11
                  rintro r w8 ⟨rfl, hb8⟩
                  have h11d := h11c w8 hb8
                  clear h11c
                  go_wp2_with fail
                  refine h11d.mono ?_
                  clear h11d
                  rintro r w9 ⟨rfl, hb9⟩
                  go_wp2_with fail
                  go_ret
                  exact ⟨rfl, hb9⟩
                · have hq1 : ((q : Int) == (i : Int)) = false := by simp; omega
                  have hq2 : (q == i) = false := by simpa using hqi
                  have HZ : Hid (TIn wr (fun k => k < wr.heap.size) (allT .nil (es.take q)) kv) := HI.out.2.1 (by omega)
                  have h11c := fun W hb => h11b W kv hb HZ.out
                  clear h11b hqi
                  go_wp2_with fail
                  refine h11.mono ?_
                  clear h11
                  rintro r w8 ⟨rfl, hb8⟩
                  have h11d := h11c w8 hb8
                  clear h11c
                  go_wp2_with fail
                  refine h11d.mono ?_
                  clear h11d
                  rintro r w9 ⟨rfl, hb9⟩
                  go_wp2_with fail
                  go_ret
                  exact ⟨rfl, hb9⟩
end Go.Proofs.Qxb6613283a
