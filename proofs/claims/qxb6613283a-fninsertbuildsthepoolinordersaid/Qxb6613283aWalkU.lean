/-
  THE WALKS of sameVal, sameElem, below, mulSmall, each where it answers well.
-/
import Derived.Test.Qxb6613283aWalkH
import Derived.Sort.AtCall
namespace Go.Proofs.Qxb6613283a
open Go.RowKit

theorem fullOf_inj {k i k' i' : Int} {s s' : List UInt8} {b b' : Bool} {fs fs' : List (List Int)} {n m : Nat} (h : fullOf k i s b fs = fullOf k' i' s' b' fs') (hf : ∀ x, x ∈ fs → FullN n x) (hf' : ∀ x, x ∈ fs' → FullN m x) :
    k = k' ∧ i = i' ∧ s = s' ∧ b = b' ∧ fs = fs' := by
  simp only [fullOf, List.cons.injEq] at h
  obtain ⟨h1, h2, h3⟩ := h
  have hs := strKey_PF s s' _ _ h3
  have hs' := strKey_inj _ _ hs
  subst hs'
  have h4 := List.append_cancel_left h3
  simp only [List.cons.injEq] at h4
  refine ⟨h1, h2, rfl, ?_, flatK_inj _ _ (fun a ha c hc => FullN.pf n m a c (hf a ha) (hf' c hc)) h4.2⟩
  cases b <;> cases b' <;> simp at h4 <;> rfl

set_option maxHeartbeats 2000000 in
set_option maxRecDepth 100000 in
theorem sameVal_39 : ∀ (n : Nat) (w : World) (S : Nat → Prop) (cs cs' : Array Value) (K K' F : List Int) (m : Nat), VIn w S lim n cs K F → VIn w S lim m cs' K' F → (∀ k, S k → k < w.heap.size) →
    Calls Try.prog 39 #[.agg cs, .agg cs'] w fun e w' => e = .returned (.bool true) ∧ Below w.heap.size w w'
  | 0, _, _, _, _, _, _, _, _, h, _, _ => h.elim
  | _ + 1, _, _, _, _, _, _, _, 0, _, h, _ => h.elim
  | n + 1, w, S, cs, cs', K, K', F, m + 1, hv0, hv0', hS => by
    have hk1 := (VIn.keyN _ _ _ _ hv0).2
    obtain ⟨k, i, s, A, len, cap, ks, fs, e1, e2, e3, l1, l2, q1, q2, h⟩ := hv0
    obtain ⟨k', i', s', A', len', cap', ks', fs', e1', e2', e3', l1', l2', q1', q2', h'⟩ := hv0'
    subst e1 e1' e3
    have hfn : ∀ x, x ∈ fs → FullN n x := fun x hx => by
      obtain ⟨j, hj, rfl⟩ := List.mem_iff_getElem.1 hx
      obtain ⟨D, off, c0, c1, c2, c3, kj, fj, eA, hD, d0, d1, d2, d3, ek, ef, hv⟩ := h j (by omega)
      rw [List.getElem?_eq_getElem hj] at ef
      cases ef
      exact (VIn.keyN n _ _ _ hv).2
    have hfm : ∀ x, x ∈ fs' → FullN m x := fun x hx => by
      obtain ⟨j, hj, rfl⟩ := List.mem_iff_getElem.1 hx
      obtain ⟨D, off, c0, c1, c2, c3, kj, fj, eA, hD, d0, d1, d2, d3, ek, ef, hv⟩ := h' j (by omega)
      rw [List.getElem?_eq_getElem hj] at ef
      cases ef
      exact (VIn.keyN m _ _ _ hv).2
    obtain ⟨ek, ei, es, eb, ef⟩ := fullOf_inj e3' hfn hfm
    subst ek ei ef
    obtain rfl : len = len' := by omega
    have HV : Hid (∀ j, j < len → Item w S (VIn w S lim n) A ks fs j) := h
    have HV' : Hid (∀ j, j < len → Item w S (VIn w S lim m) A' ks' fs j) := h'
    have IH := fun w S cs cs' K K' F => sameVal_39 n w S cs cs' K K' F m
    unfold lim at q2
    have HS : Hid (∀ k, S k → k < w.heap.size) := hS
    clear h h' hfn hfm hk1 e2 e2' e3' l1 l2 l1' l2' q1 q1' q2' hS
    have ha1 : ∀ o o', ((w.alloc o).alloc o').heap[w.heap.size]? = some o := fun o o' => (Below.heap_alloc _ _ _ (by simp)).trans (alloc_at w o)
    have ha2 : ∀ o o', ((w.alloc o).alloc o').heap[w.heap.size + 1]? = some o' := fun o o' => by have := alloc_at (w.alloc o) o'; simpa using this
    have hal : ∀ o o', Below w.heap.size w ((w.alloc o).alloc o') := fun o o' => (alloc_below w o).alloc (by simp) o'
    have hss : (s.toList == s'.toList) = true := by simp [es]
    have hq1 : ∀ W : World, (binOp .eql 27 (.slice A len cap) (.slice none 0 0)).run Try.prog W = .ok (.bool A.isNone) W := fun W => by simp only [binOp]; simp [Op.equal, Op.maxDepth, Lib.run_equalIn_slice_nil W 9999 27 29 A len cap 0 0 Try.underlying27]
    have hq2 : ∀ W : World, (binOp .eql 27 (.slice A' len cap') (.slice none 0 0)).run Try.prog W = .ok (.bool A.isNone) W := fun W => by rw [eb]; simp only [binOp]; simp [Op.equal, Op.maxDepth, Lib.run_equalIn_slice_nil W 9999 27 29 A' len cap' 0 0 Try.underlying27]
    clear eb
    go_enter Try.func39, Try.ntmps39
    go_wp2_with fail
    generalize hw2 : (w.alloc _).alloc _ = w2
    have HW : Hid (w2.heap[w.heap.size]? = some (.cells #[.int .u8 k, .int .i64 i, .string s, .slice A len cap] 29) ∧ w2.heap[w.heap.size + 1]? = some (.cells #[.int .u8 k, .int .i64 i, .string s', .slice A' len cap'] 29) ∧ Below w.heap.size w w2 ∧ w.heap.size + 2 ≤ w2.heap.size) := by
      rw [← hw2]; exact ⟨ha1 _ _, ha2 _ _, hal _ _, by simp⟩
    obtain ⟨N, hN⟩ : ∃ N, N = w.heap.size := ⟨_, rfl⟩
    rw [← hN] at HW HS ⊢
    have HN : Hid (N = w.heap.size) := hN
    clear hw2 ha1 ha2 hal hq1 hq2 hN hss
    go_loopg [44] len (fun gf iv wr => ∃ (j : Nat), j + gf = len ∧ iv = .int .i64 j ∧ Below w2.heap.size w2 wr)
    case atStart => exact ⟨0, by omega, rfl, Below.refl _ _⟩
    case round =>
      obtain ⟨j, hj0, rfl, hbel⟩ := hrel
      have HJ : Hid (j + gk = len) := hj0
      have HB : Hid (Below w2.heap.size w2 wr) := hbel
      have hjl : j ≤ len := by omega
      clear hj0 hbel
      by_cases hlt : j < len
      · obtain ⟨D, off, c0, c1, c2, c3, kj, fj, rfl, hD, d0, d1, d2, d3, ek, ef, hv⟩ := HV.out j hlt
        obtain ⟨D', off', b0, b1, b2, b3, kj', fj', rfl, hD', e0, e1, e2, e3, ek', ef', hv'⟩ := HV'.out j hlt
        rw [ef] at ef'
        cases ef'
        obtain ⟨G, wf, hG1, hG2⟩ := grown_class w2.heap.size w2
        have hG3 : ∀ g, Below N w (wf g) := fun g => HW.out.2.2.1.trans ((hG1 g).mono (by have := HW.out.2.2.2; omega))
        have p0 : ∀ g, (wf g).cell? ⟨D, off + j * 4, none⟩ = some c0 := fun g => (World.cell?_of_block ((hG3 g).block D (HS.out D hD))).trans d0
        have p1 : ∀ g, (wf g).cell? ⟨D, off + j * 4 + 1, none⟩ = some c1 := fun g => (World.cell?_of_block ((hG3 g).block D (HS.out D hD))).trans d1
        have p2 : ∀ g, (wf g).cell? ⟨D, off + j * 4 + 2, none⟩ = some c2 := fun g => (World.cell?_of_block ((hG3 g).block D (HS.out D hD))).trans d2
        have p3 : ∀ g, (wf g).cell? ⟨D, off + j * 4 + 3, none⟩ = some c3 := fun g => (World.cell?_of_block ((hG3 g).block D (HS.out D hD))).trans d3
        have r0 : ∀ g, (wf g).cell? ⟨D', off' + j * 4, none⟩ = some b0 := fun g => (World.cell?_of_block ((hG3 g).block D' (HS.out D' hD'))).trans e0
        have r1 : ∀ g, (wf g).cell? ⟨D', off' + j * 4 + 1, none⟩ = some b1 := fun g => (World.cell?_of_block ((hG3 g).block D' (HS.out D' hD'))).trans e1
        have r2 : ∀ g, (wf g).cell? ⟨D', off' + j * 4 + 2, none⟩ = some b2 := fun g => (World.cell?_of_block ((hG3 g).block D' (HS.out D' hD'))).trans e2
        have r3 : ∀ g, (wf g).cell? ⟨D', off' + j * 4 + 3, none⟩ = some b3 := fun g => (World.cell?_of_block ((hG3 g).block D' (HS.out D' hD'))).trans e3
        have x1 : ∀ g, (wf g).cell? ⟨N, 3, none⟩ = some (.slice (some ⟨D, off, none⟩) len cap) := fun g => (World.cell?_of_block ((hG1 g).block N (blt HW.out.1))).trans (by rw [bcell HW.out.1]; rfl)
        have x2 : ∀ g, (wf g).cell? ⟨N + 1, 3, none⟩ = some (.slice (some ⟨D', off', none⟩) len cap') := fun g => (World.cell?_of_block ((hG1 g).block (N + 1) (blt HW.out.2.1))).trans (by rw [bcell HW.out.2.1]; rfl)
        have hcall : ∀ g, Calls Try.prog 39 #[.agg #[c0, c1, c2, c3], .agg #[b0, b1, b2, b3]] (wf g) fun r w'' => r = .returned (.bool true) ∧ ∃ g', w'' = wf g' := fun g =>
          (IH (wf g) S _ _ kj kj' fj (VIn.frame (fun k hk => (hG3 g).block k (HS.out k hk)) (fun _ h => h) (fun _ h => h) n _ _ _ hv) (VIn.frame (fun k hk => (hG3 g).block k (HS.out k hk)) (fun _ h => h) (fun _ h => h) m _ _ _ hv') (fun k hk => by have := HS.out k hk; have := (hG1 g).size; have := HW.out.2.2.2; omega)).mono fun r w'' ⟨h1, h2⟩ => ⟨h1, hG2 w'' ((hG1 g).trans (h2.mono (hG1 g).size))⟩
        obtain ⟨g0, hg0⟩ := hG2 { wr with drawn := wr.drawn + 1 } ⟨HB.out.os, HB.out.tape, HB.out.output, HB.out.size, HB.out.block⟩
        haveI : Nonempty G := ⟨g0⟩
        have HG0 : Hid ({ wr with drawn := wr.drawn + 1 } = wf g0) := hg0
        have HGG : Hid (∀ g, Below w2.heap.size w2 (wf g)) := hG1
        clear hg0 hG1 hG2 hG3 d0 d1 d2 d3 e0 e1 e2 e3 hv hv' hD hD' ek ek' ef IH
        go_wp2_with fail
        refine wp_region_quiet_in wf mixed (by kernel_rfl) g0 HG0.out ?_
        repeat (go_big_quiet_step ((exact hcall _)))
        refine wpQuiet_nil ?_
        rintro _ ⟨g, rfl⟩
        clear p0 p1 p2 p3 r0 r1 r2 r3 x1 x2 hcall
        go_wp2_with fail
        go_roundg (gk - 1)
        case rel => exact ⟨j + 1, by have := HJ.out; omega, by go_num, HGG.out g⟩
        case measure => have := HJ.out; omega
      · obtain rfl : j = len := by omega
        go_wp2_with fail
        go_ret
        exact ⟨rfl, by rw [← HN.out]; exact HW.out.2.2.1.trans (HB.out.mono (by have := HW.out.2.2.2; omega))⟩
/-- Two elements, alike in all. -/
def EqE (a b : El) : Prop := a.start = b.start ∧ a.fin = b.fin ∧ a.pend = b.pend ∧ a.hv = b.hv ∧ a.F = b.F

set_option maxHeartbeats 2000000 in
set_option maxRecDepth 100000 in
theorem sameElem_20 (w : World) (S : Nat → Prop) (cs cs' : Array Value) (a b : El) (ha : EIn w S cs a) (hb : EIn w S cs' b) (hS : ∀ k, S k → k < w.heap.size) (he : EqE a b) :
    Calls Try.prog 20 #[.agg cs, .agg cs'] w fun r w' => r = .returned (.bool true) ∧ Below w.heap.size w w' := by
  obtain ⟨n, k, i, s, A, len, cap, e1, hv⟩ := ha
  obtain ⟨n', k', i', s', A', len', cap', e1', hv'⟩ := hb
  obtain ⟨sa, fa, pa, xa, Ka, Fa⟩ := a
  obtain ⟨sb, fb, pb, xb, Kb, Fb⟩ := b
  obtain ⟨q1, q2, q3, q4, q5⟩ := he
  dsimp only at *
  subst q1 q2 q3 q4 q5
  subst e1 e1'
  have hal : ∀ o o', Below w.heap.size w ((w.alloc o).alloc o') := fun o o' => (alloc_below w o).alloc (by simp) o'
  have hcv : ∀ o o', Calls Try.prog 39 #[.agg #[.int .u8 k, .int .i64 i, .string s, .slice A len cap], .agg #[.int .u8 k', .int .i64 i', .string s', .slice A' len' cap']] ((w.alloc o).alloc o') fun e w' => e = .returned (.bool true) ∧ Below w.heap.size w w' := fun o o' =>
    (sameVal_39 n ((w.alloc o).alloc o') S _ _ Ka Kb Fa n' (VIn.frame (fun k hk => (hal o o').block k (hS k hk)) (fun _ h => h) (fun _ h => h) n _ _ _ hv) (VIn.frame (fun k hk => (hal o o').block k (hS k hk)) (fun _ h => h) (fun _ h => h) n' _ _ _ hv') (fun k hk => Nat.lt_of_lt_of_le (hS k hk) (hal o o').size)).mono fun e w' ⟨he, hb⟩ => ⟨he, (hal o o').trans (hb.mono (hal o o').size)⟩
  clear hv hv' hS hal
  go_enter Try.func20, Try.ntmps20
  go_wp2_with fail
  refine (hcv _ _).mono ?_
  rintro e w2 ⟨rfl, hb⟩
  clear hcv
  go_wp2_with fail
  go_ret
  exact ⟨rfl, hb⟩

set_option maxHeartbeats 2000000 in
set_option maxRecDepth 100000 in
theorem below_37 (w : World) (S : Nat → Prop) (cs cs' : Array Value) (a b : El) (ha : EIn w S cs a) (hb : EIn w S cs' b) (hS : ∀ k, S k → k < w.heap.size) (he : abvK b a = true) :
    Calls Try.prog 37 #[.agg cs, .agg cs'] w fun r w' => r = .returned (.bool true) ∧ Below w.heap.size w w' := by
  have hal : ∀ o o', Below w.heap.size w ((w.alloc o).alloc o') := fun o o' => (alloc_below w o).alloc (by simp) o'
  have hcv : ∀ o o', Calls Try.prog 16 #[.agg cs, .agg cs'] ((w.alloc o).alloc o') fun e w' => e = .returned (.int .i64 (cmpK a b)) ∧ Below w.heap.size w w' := fun o o' =>
    (cmpElem_16 ((w.alloc o).alloc o') S _ _ a b (ha.frame (fun k hk => (hal o o').block k (hS k hk)) (fun _ h => h)) (hb.frame (fun k hk => (hal o o').block k (hS k hk)) (fun _ h => h)) (fun k hk => Nat.lt_of_lt_of_le (hS k hk) (hal o o').size)).mono fun e w' ⟨he, hb'⟩ => ⟨by rw [he, cmpE_eq a b (ha.pf hb)]; rfl, (hal o o').trans (hb'.mono (hal o o').size)⟩
  obtain ⟨n, k, i, s, A, len, cap, e1, hv⟩ := ha
  obtain ⟨n', k', i', s', A', len', cap', e1', hv'⟩ := hb
  subst e1 e1'
  rw [abvK_iff] at he
  clear hv hv' hS
  by_cases hlt : a.hv < b.hv
  · have hlt' : decide (a.hv < b.hv) = true := by simpa using hlt
    clear hcv
    go_enter Try.func37, Try.ntmps37
    go_wp2_with fail
    go_ret
    exact ⟨rfl, hal _ _⟩
  · have hlt' : decide (a.hv < b.hv) = false := by simpa using hlt
    have he' : b.hv = a.hv ∧ cmpK a b < 0 := by omega
    have hq : (a.hv == b.hv) = true := by rw [he'.1]; simp
    have hc : decide (cmpK a b < 0) = true := by simpa using he'.2
    clear he he' hal
    go_enter Try.func37, Try.ntmps37
    go_wp2_with fail
    refine (hcv _ _).mono ?_
    rintro e w2 ⟨rfl, hb⟩
    clear hcv
    go_wp2_with fail
    go_ret
    exact ⟨rfl, hb⟩

theorem and1 (c : Nat) (hc : c ≤ 8192) : bits .and .i64 (c : Int) 1 = ((c % 2 : Nat) : Int) := by
  have h1 : (BitVec.ofInt 64 (c : Int)).toNat = c := by
    rw [BitVec.ofInt_natCast, BitVec.toNat_ofNat]; exact Nat.mod_eq_of_lt (by omega)
  have h2 : (BitVec.ofInt 64 (1 : Int)).toNat = 1 := rfl
  show IntKind.i64.wrap ((BitVec.ofInt 64 (c : Int) &&& BitVec.ofInt 64 1).toNat : Int) = _
  rw [BitVec.toNat_and, h1, h2, Nat.and_one_is_mod, IntKind.wrap_i64]
  omega
theorem modstep (y b h : Int) : (y + (b % MP) * h) % MP = (y + b * h) % MP := by
  rw [Int.add_emod, Int.mul_emod, Int.emod_emod_of_dvd b (Int.dvd_refl MP), ← Int.mul_emod, ← Int.add_emod]
theorem modstep' (a b h : Int) : ((a % MP) + (b % MP) * h) % MP = (a + b * h) % MP := by
  rw [modstep, Int.emod_add_emod]

set_option maxHeartbeats 2000000 in
set_option maxRecDepth 100000 in
theorem mulSmall_38 (a c : Nat) (ha : (a : Int) < MP) (hc : c ≤ 8192) (w : World) : Calls Try.prog 38 #[.int .u64 (a : Int), .int .i64 (c : Int)] w fun r w' => r = .returned (.int .u64 (((a : Int) * c) % MP)) ∧ w' = w := by
  go_enter Try.func38, Try.ntmps38
  go_wp2_with fail
  go_loopg [0, 1, 5] c (fun gf av cv rv wr => ∃ (x y : Int), av = .int .u64 x ∧ cv = .int .i64 (gf : Int) ∧ rv = .int .u64 y ∧ (0 ≤ x ∧ x < MP) ∧ (0 ≤ y ∧ y < MP) ∧ (y + x * gf) % MP = ((a : Int) * c) % MP ∧ gf ≤ 8192 ∧ wr = w)
  case atStart => exact ⟨a, 0, rfl, rfl, rfl, ⟨by omega, ha⟩, ⟨by omega, by unfold MP; omega⟩, by simp, hc, rfl⟩
  case round =>
    obtain ⟨x, y, rfl, rfl, rfl, hx, hy, he, hg, rfl⟩ := hrel
    have HE : Hid ((y + x * gk) % MP = ((a : Int) * c) % MP ∧ gk ≤ 8192) := ⟨he, hg⟩
    have HXY : Hid ((0 ≤ x ∧ x < MP) ∧ (0 ≤ y ∧ y < MP)) := ⟨hx, hy⟩
    by_cases h0 : 0 < gk
    · have a1 := fun W => addMod_21 y x hy hx W
      have a2 := fun W => addMod_21 x x hx hx W
      have hb := and1 gk hg
      obtain ⟨h, hh⟩ : ∃ h, h = gk / 2 := ⟨_, rfl⟩
      have HH : Hid (h = gk / 2) := hh
      clear he hx hy ha hc hh
      by_cases hodd : gk % 2 = 1
      · rw [hodd] at hb
        have HO : Hid (gk % 2 = 1) := hodd
        clear hodd
        go_wp2_with (first
          | (go_at_call_has 21 y; refine (a1 _).mono ?_; rintro r w' ⟨rfl, rfl⟩)
          | (go_at_call 21; refine (a2 _).mono ?_; rintro r w' ⟨rfl, rfl⟩))
        go_roundg h
        case rel =>
          have h1 := HH.out
          have h2 := HO.out
          refine ⟨addM x x, addM y x, rfl, by rw [HH.out]; simp, rfl, addM_range _ _, addM_range _ _, ?_, by omega, rfl⟩
          rw [← HE.out.1]
          unfold addM
          rw [modstep']
          congr 1
          have e : (gk : Int) = 2 * (h : Int) + 1 := by omega
          rw [e, Int.mul_add, Int.add_mul, ← Int.mul_assoc, Int.mul_comm x 2, Int.mul_assoc]
          omega
        case measure => have := HH.out; omega
      · have hev : gk % 2 = 0 := by omega
        rw [hev] at hb
        have HO : Hid (gk % 2 = 0) := hev
        clear hodd hev
        go_wp2_with (go_at_call 21; refine (a2 _).mono ?_; rintro r w' ⟨rfl, rfl⟩)
        go_roundg h
        case rel =>
          have h1 := HH.out
          have h2 := HO.out
          refine ⟨addM x x, y, rfl, by rw [HH.out]; simp, rfl, addM_range _ _, HXY.out.2, ?_, by omega, rfl⟩
          rw [← HE.out.1]
          unfold addM
          rw [modstep]
          congr 1
          have e : (gk : Int) = 2 * (h : Int) := by omega
          rw [e, Int.add_mul, ← Int.mul_assoc, Int.mul_comm x 2, Int.mul_assoc]
          omega
        case measure => have := HH.out; omega
    · obtain rfl : gk = 0 := by omega
      clear he hx hy ha hc
      go_wp2_with fail
      go_ret
      refine ⟨?_, rfl⟩
      have h := HE.out.1
      simp only [Int.natCast_zero, Int.mul_zero, Int.add_zero] at h
      rw [← h, Int.emod_eq_of_lt HXY.out.2.1 HXY.out.2.2]
      rfl
end Go.Proofs.Qxb6613283a
