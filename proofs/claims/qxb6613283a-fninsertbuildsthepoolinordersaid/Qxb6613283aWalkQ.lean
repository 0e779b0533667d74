/-
  THE WALK of sameTree.
-/
import Derived.Test.Qxb6613283aWalkG
import Derived.Test.Qxb6613283aWalkH
import Derived.Sort.AtCall
namespace Go.Proofs.Qxb6613283a
open Go.RowKit
open Go.Deep (BT)

/-- A node's cells, one by one. -/
theorem TIn.cells {w : World} {S : Nat → Prop} {d1 d2 : Nat} {p : El × Nat} {l r : BT (El × Nat)} {v : Option Addr} (h : TIn w S (.node d1 d2 p l r) v) :
    ∃ b ep lo ro, v = some ⟨b, 0, none⟩ ∧ S b ∧ EAt w S ep p.1 ∧ TIn w S l lo ∧ TIn w S r ro ∧ w.cell? ⟨b, 0, none⟩ = some (.pointer (some ⟨ep, 0, none⟩)) ∧ w.cell? ⟨b, 1, none⟩ = some (.int .i32 p.2) ∧ w.cell? ⟨b, 2, none⟩ = some (.int .i32 (szT (.node d1 d2 p l r))) ∧
      w.cell? ⟨b, 3, none⟩ = some (.int .i32 (fmT (.node d1 d2 p l r))) ∧ w.cell? ⟨b, 4, none⟩ = some (.pointer lo) ∧ w.cell? ⟨b, 5, none⟩ = some (.pointer ro) ∧ w.cell? ⟨b, 6, none⟩ = some (.int .i64 (meT (.node d1 d2 p l r))) ∧ w.cell? ⟨b, 7, none⟩ = some (.int .u64 (smT (.node d1 d2 p l r))) := by
  obtain ⟨b, ep, lo, ro, rfl, hs, hc, he, hl, hr⟩ := h
  exact ⟨b, ep, lo, ro, rfl, hs, he, hl, hr, by rw [bcell hc]; rfl, by rw [bcell hc]; rfl, by rw [bcell hc]; rfl, by rw [bcell hc]; rfl, by rw [bcell hc]; rfl, by rw [bcell hc]; rfl, by rw [bcell hc]; rfl, by rw [bcell hc]; rfl⟩

set_option maxHeartbeats 2000000 in
set_option maxRecDepth 100000 in
theorem sameTree_14 (t : BT (El × Nat)) : ∀ (t' : BT (El × Nat)) (w : World) (S : Nat → Prop) (v v' : Option Addr) (fuel : Nat), TIn w S t v → TIn w S t' v' → simT t t' → (∀ k, S k → k < w.heap.size) → dpT t < fuel → fuel ≤ 5000 →
    Calls Try.prog 14 #[.pointer v, .pointer v', .int .i64 fuel] w fun r w' => r = .returned (.bool true) ∧ Below w.heap.size w w' := by
  induction t with
  | nil =>
    intro t' w S v v' fuel ht ht' hsim hS hd hf
    cases t' with
    | node => exact hsim.elim
    | nil =>
      obtain rfl : v = none := ht
      obtain rfl : v' = none := ht'
      clear hS
      go_enter Try.func14, Try.ntmps14
      go_wp2_with fail
      go_ret
      exact ⟨rfl, Below.refl _ _⟩
  | node d1 d2 p l r ihl ihr =>
    intro t' w S v v' fuel ht ht' hsim hS hd hf
    cases t' with
    | nil => exact hsim.elim
    | node d1' d2' p' l' r' =>
      have HIH : Hid (_ ∧ _) := ⟨ihl, ihr⟩
      have HSM : Hid (simT l l' ∧ simT r r') := ⟨hsim.2.2.2.1, hsim.2.2.2.2⟩
      have hag := simT_agg hsim
      obtain ⟨N, hN⟩ : ∃ N, N = w.heap.size := ⟨_, rfl⟩
      have HN : Hid (N = w.heap.size) := hN
      have HS : Hid (∀ k, S k → k < N) := by rw [hN]; exact hS
      obtain ⟨b, ep, lo, ro, rfl, hb, he, hl, hr, a0, a1, a2, a3, a4, a5, a6, a7⟩ := ht.cells
      obtain ⟨b', ep', lo', ro', rfl, hb', he', hl', hr', z0, z1, z2, z3, z4, z5, z6, z7⟩ := ht'.cells
      rw [← hsim.2.2.1] at z1
      rw [← hag.1] at z2
      rw [← hag.2.1] at z3
      rw [← hag.2.2.1] at z6
      rw [← hag.2.2.2] at z7
      generalize szT (.node d1 d2 p l r) = x2 at a2 z2
      generalize fmT (.node d1 d2 p l r) = x3 at a3 z3
      generalize meT (.node d1 d2 p l r) = x6 at a6 z6
      generalize smT (.node d1 d2 p l r) = x7 at a7 z7
      have HC : Hid (w.cell? ⟨b, 0, none⟩ = some (.pointer (some ⟨ep, 0, none⟩)) ∧ w.cell? ⟨b, 1, none⟩ = some (.int .i32 p.2) ∧ w.cell? ⟨b, 2, none⟩ = some (.int .i32 x2) ∧ w.cell? ⟨b, 3, none⟩ = some (.int .i32 x3) ∧ w.cell? ⟨b, 4, none⟩ = some (.pointer lo) ∧ w.cell? ⟨b, 5, none⟩ = some (.pointer ro) ∧ w.cell? ⟨b, 6, none⟩ = some (.int .i64 x6) ∧ w.cell? ⟨b, 7, none⟩ = some (.int .u64 x7)) := ⟨a0, a1, a2, a3, a4, a5, a6, a7⟩
      have HC' : Hid (w.cell? ⟨b', 0, none⟩ = some (.pointer (some ⟨ep', 0, none⟩)) ∧ w.cell? ⟨b', 1, none⟩ = some (.int .i32 p.2) ∧ w.cell? ⟨b', 2, none⟩ = some (.int .i32 x2) ∧ w.cell? ⟨b', 3, none⟩ = some (.int .i32 x3) ∧ w.cell? ⟨b', 4, none⟩ = some (.pointer lo') ∧ w.cell? ⟨b', 5, none⟩ = some (.pointer ro') ∧ w.cell? ⟨b', 6, none⟩ = some (.int .i64 x6) ∧ w.cell? ⟨b', 7, none⟩ = some (.int .u64 x7)) := ⟨z0, z1, z2, z3, z4, z5, z6, z7⟩
      have HT : Hid (TIn w S l lo ∧ TIn w S r ro ∧ TIn w S l' lo' ∧ TIn w S r' ro' ∧ EAt w S ep p.1 ∧ EAt w S ep' p'.1) := ⟨hl, hr, hl', hr', he, he'⟩
      have HB : Hid (b < N ∧ b' < N) := ⟨HS.out b hb, HS.out b' hb'⟩
      have HK : Hid (p.1.key = p'.1.key ∧ p.1.hv = p'.1.hv) := ⟨hsim.1, hsim.2.1⟩
      have hfu : fuel ≠ 0 := by omega
      have HD : Hid (dpT l < fuel - 1 ∧ dpT r < fuel - 1 ∧ fuel - 1 ≤ 5000 ∧ ((fuel : Int) - 1 = ((fuel - 1 : Nat) : Int))) := by simp only [dpT] at hd; exact ⟨by omega, by omega, by omega, by omega⟩
      rw [← hN]
      clear hN hS hb he hl hr a0 a1 a2 a3 a4 a5 a6 a7 hb' he' hl' hr' z0 z1 z2 z3 z4 z5 z6 z7 hag hsim ht ht' ihl ihr hd
      have hcl : ∀ {W : World}, Below N w W → ∀ {q o : Nat}, q < N → W.cell? ⟨q, o, none⟩ = w.cell? ⟨q, o, none⟩ := fun h _ _ hq => World.cell?_of_block (h.block _ hq)
      have HCL : Hid (∀ {W : World}, Below N w W → ∀ {q o : Nat}, q < N → W.cell? ⟨q, o, none⟩ = w.cell? ⟨q, o, none⟩) := hcl
      clear hcl
      have hn1 := nodeElem_26 w S b ep p.1 HC.out.1 HT.out.2.2.2.2.1 (fun k hk => by have := HN.out; have := HS.out k hk; omega) (by have := HN.out; have := HB.out.1; omega)
      rw [← HN.out] at hn1
      go_enter Try.func14, Try.ntmps14
      go_wp2_with fail
      refine hn1.mono ?_
      clear hn1
      rintro e w1 ⟨⟨cs1, rfl, hE1⟩, hb1⟩
      obtain ⟨n1, k1, i1, s1, A1, l1, c1, rfl, hv1⟩ := id hE1
      have HW1 : Hid (EIn w1 (fun k => N ≤ k ∧ k < w1.heap.size) #[.int .u8 k1, .int .i64 i1, .string s1, .slice A1 l1 c1, .int .i64 p.1.start, .int .i64 p.1.fin, .bool p.1.pend, .int .u64 p.1.hv] p.1 ∧ Below N w w1 ∧ N ≤ w1.heap.size) := ⟨hE1, hb1, by have := HN.out; have := hb1.size; omega⟩
      clear hE1 hv1 hb1
      go_wp2_with fail
      generalize hw2 : w1.alloc _ = w2
      generalize hX : w1.heap.size = X
      have HW2 : Hid (w2.heap[X]? = some (.cells #[.int .u8 k1, .int .i64 i1, .string s1, .slice A1 l1 c1, .int .i64 p.1.start, .int .i64 p.1.fin, .bool p.1.pend, .int .u64 p.1.hv] 32) ∧ Below N w w2 ∧ EIn w2 (fun k => k < w2.heap.size) #[.int .u8 k1, .int .i64 i1, .string s1, .slice A1 l1 c1, .int .i64 p.1.start, .int .i64 p.1.fin, .bool p.1.pend, .int .u64 p.1.hv] p.1 ∧ N ≤ X ∧ w2.heap.size = X + 1) := by
        have q1 : Below X w1 w2 := by rw [← hw2, ← hX]; exact alloc_below _ _
        have hx := HW1.out.2.2
        rw [hX] at hx
        exact ⟨by rw [← hw2, ← hX]; exact alloc_at _ _, HW1.out.2.1.trans (q1.mono hx), HW1.out.1.frame (fun k hk => q1.block k (by rw [← hX]; exact hk.2)) (fun k hk => Nat.lt_of_lt_of_le hk.2 q1.size), hx, by rw [← hw2, ← hX]; exact Array.size_push _⟩
      clear hw2 hX HW1
      have hn2 := nodeElem_26 w2 S b' ep' p'.1 ((HCL.out HW2.out.2.1 HB.out.2).trans HC'.out.1) (HT.out.2.2.2.2.2.frame (fun k hk => HW2.out.2.1.block k (HS.out k hk)) (fun _ h => h)) (fun k hk => by have := HW2.out.2.2.2; have := HS.out k hk; omega) (by have := HW2.out.2.2.2; have := HB.out.2; omega)
      go_wp2_with fail
      refine hn2.mono ?_
      clear hn2
      rintro e w3 ⟨⟨cs2, rfl, hE2⟩, hb3⟩
      obtain ⟨n2, k2, i2, s2, A2, l2, c2, rfl, hv2⟩ := id hE2
      have HW3 : Hid (EIn w3 (fun k => w2.heap.size ≤ k ∧ k < w3.heap.size) #[.int .u8 k2, .int .i64 i2, .string s2, .slice A2 l2 c2, .int .i64 p'.1.start, .int .i64 p'.1.fin, .bool p'.1.pend, .int .u64 p'.1.hv] p'.1 ∧ Below w2.heap.size w2 w3) := ⟨hE2, hb3⟩
      clear hE2 hv2 hb3
      have hx3 : w3.heap[X]? = some (.cells #[.int .u8 k1, .int .i64 i1, .string s1, .slice A1 l1 c1, .int .i64 p.1.start, .int .i64 p.1.fin, .bool p.1.pend, .int .u64 p.1.hv] 32) := (HW3.out.2.block X (blt HW2.out.1)).trans HW2.out.1
      have r0 : ∀ o, (w3.alloc o).cell? ⟨X, 0, none⟩ = some (.int .u8 k1) := fun o => (World.cell?_of_block (Below.heap_alloc _ _ _ (blt hx3))).trans (by rw [bcell hx3]; rfl)
      have r1 : ∀ o, (w3.alloc o).cell? ⟨X, 1, none⟩ = some (.int .i64 i1) := fun o => (World.cell?_of_block (Below.heap_alloc _ _ _ (blt hx3))).trans (by rw [bcell hx3]; rfl)
      have r2 : ∀ o, (w3.alloc o).cell? ⟨X, 2, none⟩ = some (.string s1) := fun o => (World.cell?_of_block (Below.heap_alloc _ _ _ (blt hx3))).trans (by rw [bcell hx3]; rfl)
      have r3 : ∀ o, (w3.alloc o).cell? ⟨X, 3, none⟩ = some (.slice A1 l1 c1) := fun o => (World.cell?_of_block (Below.heap_alloc _ _ _ (blt hx3))).trans (by rw [bcell hx3]; rfl)
      have r4 : ∀ o, (w3.alloc o).cell? ⟨X, 4, none⟩ = some (.int .i64 p.1.start) := fun o => (World.cell?_of_block (Below.heap_alloc _ _ _ (blt hx3))).trans (by rw [bcell hx3]; rfl)
      have r5 : ∀ o, (w3.alloc o).cell? ⟨X, 5, none⟩ = some (.int .i64 p.1.fin) := fun o => (World.cell?_of_block (Below.heap_alloc _ _ _ (blt hx3))).trans (by rw [bcell hx3]; rfl)
      have r6 : ∀ o, (w3.alloc o).cell? ⟨X, 6, none⟩ = some (.bool p.1.pend) := fun o => (World.cell?_of_block (Below.heap_alloc _ _ _ (blt hx3))).trans (by rw [bcell hx3]; rfl)
      have r7 : ∀ o, (w3.alloc o).cell? ⟨X, 7, none⟩ = some (.int .u64 p.1.hv) := fun o => (World.cell?_of_block (Below.heap_alloc _ _ _ (blt hx3))).trans (by rw [bcell hx3]; rfl)
      clear hx3
      go_wp2_with fail
      clear r0 r1 r2 r3 r4 r5 r6 r7
      generalize hw4 : w3.alloc _ = w4
      generalize hY : w3.heap.size = Y
      have HW4 : Hid (w4.heap[X]? = some (.cells #[.int .u8 k1, .int .i64 i1, .string s1, .slice A1 l1 c1, .int .i64 p.1.start, .int .i64 p.1.fin, .bool p.1.pend, .int .u64 p.1.hv] 32) ∧ w4.heap[Y]? = some (.cells #[.int .u8 k2, .int .i64 i2, .string s2, .slice A2 l2 c2, .int .i64 p'.1.start, .int .i64 p'.1.fin, .bool p'.1.pend, .int .u64 p'.1.hv] 32) ∧ Below N w w4 ∧ EIn w4 (fun k => k < w4.heap.size) #[.int .u8 k1, .int .i64 i1, .string s1, .slice A1 l1 c1, .int .i64 p.1.start, .int .i64 p.1.fin, .bool p.1.pend, .int .u64 p.1.hv] p.1 ∧ EIn w4 (fun k => k < w4.heap.size) #[.int .u8 k2, .int .i64 i2, .string s2, .slice A2 l2 c2, .int .i64 p'.1.start, .int .i64 p'.1.fin, .bool p'.1.pend, .int .u64 p'.1.hv] p'.1 ∧ N ≤ w4.heap.size) := by
        have q1 : Below Y w3 w4 := by rw [← hw4, ← hY]; exact alloc_below _ _
        have hz := HW3.out.2
        have hzs := hz.size
        have hx := HW2.out.2.2.2
        have hxx : X < w2.heap.size := by omega
        have q2 : Below w2.heap.size w2 w4 := hz.trans (q1.mono (by rw [← hY]; exact hzs))
        refine ⟨(q2.block X hxx).trans HW2.out.1, by rw [← hw4, ← hY]; exact alloc_at _ _, HW2.out.2.1.trans (q2.mono (by omega)), HW2.out.2.2.1.frame (fun k hk => q2.block k hk) (fun k hk => Nat.lt_of_lt_of_le hk q2.size), HW3.out.1.frame (fun k hk => q1.block k (by rw [← hY]; exact hk.2)) (fun k hk => Nat.lt_of_lt_of_le hk.2 q1.size), ?_⟩
        have := q2.size
        omega
      clear hw4 hY HW3 HW2
      have hcm := cmpElem_16 w4 (fun k => k < w4.heap.size) _ _ p.1 p'.1 HW4.out.2.2.2.1 HW4.out.2.2.2.2.1 (fun k hk => hk)
      rw [show cmpE p.1 p'.1 = 0 from by rw [cmpE_eq _ _ (HW4.out.2.2.2.1.pf HW4.out.2.2.2.2.1), HK.out.1]; exact lexS_refl _] at hcm
      refine hcm.mono ?_
      clear hcm
      rintro e w5 ⟨rfl, hb5⟩
      have HW5 : Hid (Below N w w5 ∧ N ≤ w5.heap.size) := ⟨HW4.out.2.2.1.trans (hb5.mono HW4.out.2.2.2.2.2), Nat.le_trans HW4.out.2.2.2.2.2 hb5.size⟩
      have x7 : w5.cell? ⟨X, 7, none⟩ = some (.int .u64 p.1.hv) := (World.cell?_of_block (hb5.block X (blt HW4.out.1))).trans (by rw [bcell HW4.out.1]; rfl)
      have y7 : w5.cell? ⟨Y, 7, none⟩ = some (.int .u64 p.1.hv) := (World.cell?_of_block (hb5.block Y (blt HW4.out.2.1))).trans (by rw [bcell HW4.out.2.1, HK.out.2]; rfl)
      clear hb5 HW4
      have g27a := get_27 w5 b _ ((HCL.out HW5.out.1 HB.out.1).trans HC.out.2.1)
      have g27b := get_27 w5 b' _ ((HCL.out HW5.out.1 HB.out.2).trans HC'.out.2.1)
      have g22a := get_22 w5 b _ ((HCL.out HW5.out.1 HB.out.1).trans HC.out.2.2.1)
      have g22b := get_22 w5 b' _ ((HCL.out HW5.out.1 HB.out.2).trans HC'.out.2.2.1)
      have g23a := get_23 w5 b _ ((HCL.out HW5.out.1 HB.out.1).trans HC.out.2.2.2.1)
      have g23b := get_23 w5 b' _ ((HCL.out HW5.out.1 HB.out.2).trans HC'.out.2.2.2.1)
      have g24a := get_24 w5 b _ ((HCL.out HW5.out.1 HB.out.1).trans HC.out.2.2.2.2.2.2.1)
      have g24b := get_24 w5 b' _ ((HCL.out HW5.out.1 HB.out.2).trans HC'.out.2.2.2.2.2.2.1)
      have g25a := get_25 w5 b _ ((HCL.out HW5.out.1 HB.out.1).trans HC.out.2.2.2.2.2.2.2)
      have g25b := get_25 w5 b' _ ((HCL.out HW5.out.1 HB.out.2).trans HC'.out.2.2.2.2.2.2.2)
      have g28a := get_28 w5 b _ ((HCL.out HW5.out.1 HB.out.1).trans HC.out.2.2.2.2.1)
      have g28b := get_28 w5 b' _ ((HCL.out HW5.out.1 HB.out.2).trans HC'.out.2.2.2.2.1)
      have hfs : IntKind.i64.wrap ((fuel : Int) - 1) = ((fuel - 1 : Nat) : Int) := by rw [IntKind.wrap_i64, HD.out.2.2.2]; have := HD.out.2.2.1; omega
      go_wp2_with (first
        | (go_at_call_has 27 b; refine g27a.mono ?_; rintro e w' ⟨rfl, rfl⟩)
        | (go_at_call_has 27 b'; refine g27b.mono ?_; rintro e w' ⟨rfl, rfl⟩)
        | (go_at_call_has 22 b; refine g22a.mono ?_; rintro e w' ⟨rfl, rfl⟩)
        | (go_at_call_has 22 b'; refine g22b.mono ?_; rintro e w' ⟨rfl, rfl⟩)
        | (go_at_call_has 23 b; refine g23a.mono ?_; rintro e w' ⟨rfl, rfl⟩)
        | (go_at_call_has 23 b'; refine g23b.mono ?_; rintro e w' ⟨rfl, rfl⟩)
        | (go_at_call_has 24 b; refine g24a.mono ?_; rintro e w' ⟨rfl, rfl⟩)
        | (go_at_call_has 24 b'; refine g24b.mono ?_; rintro e w' ⟨rfl, rfl⟩)
        | (go_at_call_has 25 b; refine g25a.mono ?_; rintro e w' ⟨rfl, rfl⟩)
        | (go_at_call_has 25 b'; refine g25b.mono ?_; rintro e w' ⟨rfl, rfl⟩)
        | (go_at_call_has 28 b; refine g28a.mono ?_; rintro e w' ⟨rfl, rfl⟩)
        | (go_at_call_has 28 b'; refine g28b.mono ?_; rintro e w' ⟨rfl, rfl⟩))
      have ih1 := HIH.out.1 l' w' S lo lo' (fuel - 1) (HT.out.1.frame (fun k hk => HW5.out.1.block k (HS.out k hk)) (fun _ h => h)) (HT.out.2.2.1.frame (fun k hk => HW5.out.1.block k (HS.out k hk)) (fun _ h => h)) HSM.out.1 (fun k hk => Nat.lt_of_lt_of_le (HS.out k hk) HW5.out.2) HD.out.1 HD.out.2.2.1
      refine ih1.mono ?_
      clear ih1
      rintro e w6 ⟨rfl, hb6⟩
      have HW6 : Hid (Below N w w6 ∧ N ≤ w6.heap.size) := ⟨HW5.out.1.trans (hb6.mono HW5.out.2), Nat.le_trans HW5.out.2 hb6.size⟩
      clear hb6 HW5 x7 y7 g27a g27b g22a g22b g23a g23b g24a g24b g25a g25b g28a g28b
      have g29a := get_29 w6 b _ ((HCL.out HW6.out.1 HB.out.1).trans HC.out.2.2.2.2.2.1)
      have g29b := get_29 w6 b' _ ((HCL.out HW6.out.1 HB.out.2).trans HC'.out.2.2.2.2.2.1)
      go_wp2_with (first
        | (go_at_call_has 29 b; refine g29a.mono ?_; rintro e w' ⟨rfl, rfl⟩)
        | (go_at_call_has 29 b'; refine g29b.mono ?_; rintro e w' ⟨rfl, rfl⟩))
      have ih2 := HIH.out.2 r' w' S ro ro' (fuel - 1) (HT.out.2.1.frame (fun k hk => HW6.out.1.block k (HS.out k hk)) (fun _ h => h)) (HT.out.2.2.2.1.frame (fun k hk => HW6.out.1.block k (HS.out k hk)) (fun _ h => h)) HSM.out.2 (fun k hk => Nat.lt_of_lt_of_le (HS.out k hk) HW6.out.2) HD.out.2.1 HD.out.2.2.1
      refine ih2.mono ?_
      clear ih2
      rintro e w7 ⟨rfl, hb7⟩
      have HW7 : Hid (Below N w w7) := HW6.out.1.trans (hb7.mono HW6.out.2)
      clear hb7 HW6 g29a g29b
      go_wp2_with fail
      go_ret
      exact ⟨rfl, HW7.out⟩
end Go.Proofs.Qxb6613283a
