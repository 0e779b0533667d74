/-
  THE WALK of insertAll.
-/
import Derived.Test.Qxb6613283aWalkP
import Derived.Test.Qxb6613283aWalkG
import Derived.Test.Qxb6613283aWalkH
import Derived.Deep.RegionHeld3
namespace Go.Proofs.Qxb6613283a
open Go.RowKit
open Go.Deep (BT)

set_option maxHeartbeats 1000000 in
set_option maxRecDepth 100000 in
theorem insert_8 (t : BT (El × Nat)) (w : World) (S : Nat → Prop) (v : Option Addr) (mb ep : Nat) (m : El) (sz fm me sm : Int) (ht : TIn w S t v) (hS : ∀ k, S k → k < w.heap.size ∧ k ≠ mb)
    (hm : w.heap[mb]? = some (.cells (MC ep 1 sz fm (.pointer none) (.pointer none) me sm) 51)) (hem : EAt w S ep m) (hom : OkE m) (hok : OkT t) (hsz : szT t ≤ 4096) :
    Calls Try.prog 8 #[.pointer v, .pointer (some ⟨mb, 0, none⟩)] w fun e w' => (∃ v', e = .returned (.pointer v') ∧ TIn w' (fun k => S k ∨ k = mb ∨ (w.heap.size ≤ k ∧ k < w'.heap.size)) (insT m t) v') ∧ Upd mb w w' := by
  have h := insert_17 t w S v mb ep m sz fm me sm ht hS hm hem hom hok hsz
  clear ht hS hm hem hom hok hsz
  go_enter Try.func8, Try.ntmps8
  go_wp2_with fail
  refine h.mono ?_
  clear h
  rintro e w' ⟨⟨v', rfl, h1⟩, h2⟩
  have H : Hid (TIn w' (fun k => S k ∨ k = mb ∨ (w.heap.size ≤ k ∧ k < w'.heap.size)) (insT m t) v' ∧ Upd mb w w') := ⟨h1, h2⟩
  clear h1 h2
  go_wp2_with fail
  go_ret
  exact ⟨⟨_, rfl, H.out.1⟩, H.out.2⟩

/-- The box of an element, cell by cell. -/
def EB (X : Nat) (k i : Int) (s : ByteArray) (B : Option Addr) (bl bc : Nat) (e : El) (W : World) : Prop :=
  W.cell? ⟨X, 0, none⟩ = some (.int .u8 k) ∧ W.cell? ⟨X, 1, none⟩ = some (.int .i64 i) ∧ W.cell? ⟨X, 2, none⟩ = some (.string s) ∧ W.cell? ⟨X, 3, none⟩ = some (.slice B bl bc) ∧ W.cell? ⟨X, 4, none⟩ = some (.int .i64 e.start) ∧ W.cell? ⟨X, 5, none⟩ = some (.int .i64 e.fin) ∧ W.cell? ⟨X, 6, none⟩ = some (.bool e.pend) ∧ W.cell? ⟨X, 7, none⟩ = some (.int .u64 e.hv)
theorem EB.of {X : Nat} {k i : Int} {s : ByteArray} {B : Option Addr} {bl bc : Nat} {e : El} {W : World} (h : W.heap[X]? = some (.cells #[.int .u8 k, .int .i64 i, .string s, .slice B bl bc, .int .i64 e.start, .int .i64 e.fin, .bool e.pend, .int .u64 e.hv] 32)) : EB X k i s B bl bc e W :=
  ⟨by rw [bcell h]; rfl, by rw [bcell h]; rfl, by rw [bcell h]; rfl, by rw [bcell h]; rfl, by rw [bcell h]; rfl, by rw [bcell h]; rfl, by rw [bcell h]; rfl, by rw [bcell h]; rfl⟩

/-- The three calls of one round: a new member of an element, inserted. -/
theorem insert_one (t : BT (El × Nat)) (w : World) (v : Option Addr) (e : El) (n : Nat) (cs : Array Value) (S : Nat → Prop) (hv : VIn w S lim n cs e.K e.F) (hS : ∀ k, S k → k < w.heap.size) (ht : TIn w (fun k => k < w.heap.size) t v) (hoe : OkE e) (hok : OkT t) (hsz : szT t ≤ 4096) :
    Calls Try.prog 9 #[.agg cs, .int .i64 e.start, .int .i64 e.fin, .bool e.pend, .int .u64 e.hv] w fun r w' => r = .returned (.pointer (some ⟨w.heap.size + 2, 0, none⟩)) ∧ Below w.heap.size w w' ∧
      Calls Try.prog 8 #[.pointer v, .pointer (some ⟨w.heap.size + 2, 0, none⟩)] w' fun r w'' => (∃ v', r = .returned (.pointer v') ∧ TIn w'' (fun k => k < w''.heap.size) (insT e t) v') ∧ Below w.heap.size w w'' := by
  refine (newMember_9 w S n cs e hv hS).mono ?_
  rintro r w1 ⟨rfl, h1, h2, h3, h4⟩
  refine ⟨rfl, h4, ?_⟩
  refine (insert_8 t w1 (fun k => k < w.heap.size ∨ k = w.heap.size + 1) v (w.heap.size + 2) (w.heap.size + 1) e 0 0 0 0 (ht.frame (fun k hk => h4.block k hk) (fun k hk => .inl hk)) (fun k hk => by omega) h1
    (h2.frame (fun _ _ => rfl) (fun k hk => hk.elim (fun h => .inl (hS k h)) .inr)) hoe hok hsz).mono ?_
  rintro r w2 ⟨⟨v', rfl, h5⟩, h6⟩
  have := h6.size
  refine ⟨⟨v', rfl, h5.frame (fun _ _ => rfl) (fun k hk => by omega)⟩, ?_⟩
  refine ⟨h6.os.trans h4.os, h6.tape.trans h4.tape, h6.output.trans h4.output, by omega, fun k hk => ?_⟩
  exact (h6.block k (by omega) (by omega)).trans (h4.block k hk)

set_option maxHeartbeats 2000000 in
set_option maxRecDepth 100000 in
theorem insertAll_12 (w : World) (S : Nat → Prop) (A : Option Addr) (len cap : Nat) (es : List El) (t : BT (El × Nat)) (v : Option Addr) (hes : SIn lim w S A es) (hl : es.length = len) (hS : ∀ k, S k → k < w.heap.size) (ht : TIn w (fun k => k < w.heap.size) t v)
    (hok : OkT t) (hoe : ∀ e, e ∈ es → OkE e) (hsz : szT t + len ≤ 4096) :
    Calls Try.prog 12 #[.pointer v, .slice A len cap] w fun r w' => (∃ v', r = .returned (.pointer v') ∧ TIn w' (fun k => k < w'.heap.size) (allT t es) v') ∧ Below w.heap.size w w' := by
  have HE : Hid (SIn lim w S A es ∧ es.length = len) := ⟨hes, hl⟩
  have HS : Hid (∀ k, S k → k < w.heap.size) := hS
  have HT : Hid (TIn w (fun k => k < w.heap.size) t v ∧ OkT t ∧ (∀ e, e ∈ es → OkE e) ∧ szT t + len ≤ 4096) := ⟨ht, hok, hoe, hsz⟩
  have hll : len ≤ 4096 := by have := szT_nonneg t; omega
  clear hes hl hS ht hok hoe hsz
  go_enter Try.func12, Try.ntmps12
  go_wp2_with fail
  go_loopg [0, 9] len (fun gf tv iv wr => ∃ (j : Nat) (u : Option Addr), j + gf = len ∧ tv = .pointer u ∧ iv = .int .i64 j ∧ TIn wr (fun k => k < wr.heap.size) (allT t (es.take j)) u ∧ Below w.heap.size w wr)
  case atStart => exact ⟨0, v, by omega, rfl, rfl, HT.out.1, Below.refl _ _⟩
  case round =>
    obtain ⟨j, u, hj0, rfl, rfl, htj, hbel⟩ := hrel
    have HJ : Hid (j + gk = len) := hj0
    have HI : Hid (TIn wr (fun k => k < wr.heap.size) (allT t (es.take j)) u ∧ Below w.heap.size w wr) := ⟨htj, hbel⟩
    have hjl : j ≤ len := by omega
    clear hj0 htj hbel
    by_cases hlt : j < len
    · obtain ⟨e, he⟩ : ∃ e, es[j]? = some e := ⟨_, List.getElem?_eq_getElem (by rw [HE.out.2]; exact hlt)⟩
      have HX : Hid (EItem lim w S A j e ∧ es[j]? = some e) := ⟨HE.out.1 j e he, he⟩
      clear he
      obtain ⟨D, off, n, k, i, s, B, bl, bc, rfl, hD, d0, d1, d2, d3, d4, d5, d6, d7, hv⟩ := HX.out.1.at
      have hc : ∀ o, wr.cell? ⟨D, o, none⟩ = w.cell? ⟨D, o, none⟩ := fun o => World.cell?_of_block (HI.out.2.block D (HS.out D hD))
      have g0 := (hc _).trans d0
      have g1 := (hc _).trans d1
      have g2 := (hc _).trans d2
      have g3 := (hc _).trans d3
      have g4 := (hc _).trans d4
      have g5 := (hc _).trans d5
      have g6 := (hc _).trans d6
      have g7 := (hc _).trans d7
      have HV : Hid (VIn w S lim n #[.int .u8 k, .int .i64 i, .string s, .slice B bl bc] e.K e.F) := hv
      clear d0 d1 d2 d3 d4 d5 d6 d7 hv hc hD
      go_wp2_with fail
      clear g0 g1 g2 g3 g4 g5 g6 g7
      generalize hw1 : wr.alloc _ = w1
      generalize hX : wr.heap.size = X
      have a1 : w1.heap[X]? = some (.cells #[.int .u8 k, .int .i64 i, .string s, .slice B bl bc, .int .i64 e.start, .int .i64 e.fin, .bool e.pend, .int .u64 e.hv] 32) := by rw [← hw1, ← hX]; exact alloc_at _ _
      have a2 : Below X wr w1 := by rw [← hw1, ← hX]; exact alloc_below _ _
      have a3 : X < w1.heap.size := blt a1
      have a4 : Below w.heap.size w w1 := HI.out.2.trans (a2.mono (by rw [← hX]; exact HI.out.2.size))
      have a5 : TIn w1 (fun k => k < w1.heap.size) (allT t (es.take j)) u := HI.out.1.frame (fun k hk => a2.block k (by rw [← hX]; exact hk)) (fun k hk => Nat.lt_of_lt_of_le hk a2.size)
      have h10 : Calls Try.prog 10 #[.agg #[.int .u8 k, .int .i64 i, .string s, .slice B bl bc]] w1.drew fun r w2 => ∃ cs', r = .returned (.agg cs') ∧ EB X k i s B bl bc e w2 ∧
          Calls Try.prog 9 #[.agg cs', .int .i64 e.start, .int .i64 e.fin, .bool e.pend, .int .u64 e.hv] w2 fun r w3 => ∃ mb, r = .returned (.pointer (some ⟨mb, 0, none⟩)) ∧ EB X k i s B bl bc e w3 ∧
          Calls Try.prog 8 #[.pointer u, .pointer (some ⟨mb, 0, none⟩)] w3 fun r w4 => ∃ v', r = .returned (.pointer v') ∧ EB X k i s B bl bc e w4 ∧ Hid (TIn w4 (fun k => k < w4.heap.size) (insT e (allT t (es.take j))) v' ∧ Below w.heap.size w w4) := by
        refine (toValue_10 n w1.drew S _ e.K e.F (VIn.frame (w := w) (w' := w1.drew) (fun k hk => a4.block k (HS.out k hk)) (fun _ h => h) (fun _ h => h) n _ _ _ HV.out) (fun k hk => Nat.lt_of_lt_of_le (HS.out k hk) a4.size)).mono ?_
        rintro r w2 ⟨⟨cs', rfl, hv2⟩, hb2⟩
        have b2 : Below w1.heap.size w1 w2 := ⟨hb2.os, hb2.tape, hb2.output, hb2.size, hb2.block⟩
        have x2 := (b2.block X a3).trans a1
        refine ⟨cs', rfl, EB.of x2, ?_⟩
        have hmem : e ∈ es := List.mem_of_getElem? HX.out.2
        refine (insert_one (allT t (es.take j)) w2 u e n cs' _ hv2 (fun k hk => hk.2) (a5.frame (fun k hk => b2.block k hk) (fun k hk => Nat.lt_of_lt_of_le hk b2.size)) (HT.out.2.2.1 e hmem) (allT_okT _ _ (fun x hx => HT.out.2.2.1 x (List.mem_of_mem_take hx)) HT.out.2.1) (by rw [allT_sz, List.length_take]; have := HT.out.2.2.2; omega)).mono ?_
        rintro r w3 ⟨rfl, hb3, h8⟩
        refine ⟨_, rfl, EB.of ((hb3.block X (blt x2)).trans x2), ?_⟩
        refine h8.mono ?_
        rintro r w4 ⟨⟨v', rfl, ht4⟩, hb4⟩
        exact ⟨v', rfl, EB.of ((hb4.block X (blt x2)).trans x2), ht4, a4.trans ((b2.mono a4.size).trans (hb4.mono (Nat.le_trans a4.size b2.size)))⟩
      have hs1 : EB X k i s B bl bc e w1.drew := EB.of a1
      clear hw1 hX a1 a2 a3 a4 a5
      go_region_held3 (fun W => W.cell? ⟨X, 0, none⟩ = some (.int .u8 k) ∧ W.cell? ⟨X, 1, none⟩ = some (.int .i64 i) ∧ W.cell? ⟨X, 2, none⟩ = some (.string s) ∧ W.cell? ⟨X, 3, none⟩ = some (.slice B bl bc) ∧ W.cell? ⟨X, 4, none⟩ = some (.int .i64 e.start) ∧ W.cell? ⟨X, 5, none⟩ = some (.int .i64 e.fin) ∧ W.cell? ⟨X, 6, none⟩ = some (.bool e.pend) ∧ W.cell? ⟨X, 7, none⟩ = some (.int .u64 e.hv)) (assumption)
        (first
          | (go_at_call 10; refine h10.mono ?_; rintro r w2 ⟨cs', rfl, hs2, h9⟩)
          | (go_at_call 9; refine h9.mono ?_; rintro r w3 ⟨mb, rfl, hs3, h8⟩)
          | (go_at_call 8; refine h8.mono ?_; rintro r w4 ⟨v', rfl, hs4, hfin⟩))
      have HF := hfin
      clear hs1 hs2 hs3 hs4 h10 h9 h8 hfin
      go_wp2_with fail
      go_roundg (gk - 1)
      case rel =>
        refine ⟨j + 1, v', by have := HJ.out; omega, rfl, by go_num, ?_, HF.out.2⟩
        rw [List.take_add_one, HX.out.2]
        have h := HF.out.1
        simp only [allT, Option.toList_some, List.foldl_append, List.foldl_cons, List.foldl_nil] at h ⊢
        exact h
      case measure => have := HJ.out; omega
    · obtain rfl : j = len := by omega
      go_wp2_with fail
      go_ret
      refine ⟨⟨_, rfl, ?_⟩, HI.out.2⟩
      have h := HI.out.1
      rw [← HE.out.2, List.take_length] at h
      exact h
end Go.Proofs.Qxb6613283a
