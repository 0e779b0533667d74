/-
  THE WALK of member.insert.
-/
import Derived.Test.Qxb6613283aWalkS
namespace Go.Proofs.Qxb6613283a
open Go.RowKit
open Go.Deep (BT)

set_option maxHeartbeats 1000000 in
set_option maxRecDepth 100000 in
theorem insert_17 (t : BT (El × Nat)) : ∀ (w : World) (S : Nat → Prop) (v : Option Addr) (mb ep : Nat) (m : El) (sz fm me sm : Int), TIn w S t v → (∀ k, S k → k < w.heap.size ∧ k ≠ mb) →
    w.heap[mb]? = some (.cells (MC ep 1 sz fm (.pointer none) (.pointer none) me sm) 51) → EAt w S ep m → OkE m → OkT t → szT t ≤ 4096 →
    Calls Try.prog 17 #[.pointer v, .pointer (some ⟨mb, 0, none⟩)] w fun e w' => (∃ v', e = .returned (.pointer v') ∧ TIn w' (fun k => S k ∨ k = mb ∨ (w.heap.size ≤ k ∧ k < w'.heap.size)) (insT m t) v') ∧ Upd mb w w' := by
  induction t with
  | nil =>
    intro w S v mb ep m sz fm me sm ht hS hm hem hom hok hsz
    obtain rfl : v = none := ht
    have hfx := fixT w S mb ep (m, 1) sz fm me sm .nil .nil none none hm hem rfl rfl hS hom trivial (by simp [szT])
    clear hm hem hS hom
    go_enter Try.func17, Try.ntmps17
    go_wp2_with fail
    refine hfx.mono ?_
    clear hfx
    rintro e w1 ⟨rfl, hti, hup, hsz⟩
    have HF : Hid (TIn w1 (fun k => S k ∨ k = mb) (nd (m, 1) .nil .nil) (some ⟨mb, 0, none⟩) ∧ Upd mb w w1) := ⟨hti, hup⟩
    clear hti hup hsz
    go_wp2_with fail
    go_ret
    exact ⟨⟨_, rfl, HF.out.1.frame (fun _ _ => rfl) (fun k hk => hk.elim .inl (fun h => .inr (.inl h)))⟩, HF.out.2⟩
  | node d1 d2 p l r ihl ihr =>
    intro w S v mb ep m sz fm me sm ht hS hm hem hom hok hsz
    have HIH : Hid (_ ∧ _) := ⟨ihl, ihr⟩
    have HT : Hid (TIn w S (.node d1 d2 p l r) v) := ht
    obtain ⟨b, ep', lo, ro, rfl, hs, hc, he, hl, hr⟩ := ht
    obtain ⟨N, hN⟩ : ∃ N, N = w.heap.size := ⟨_, rfl⟩
    obtain ⟨x1, hx1⟩ : ∃ x1, x1 = ((p.2 : Int) + szT l + szT r) := ⟨_, rfl⟩
    obtain ⟨x2, hx2⟩ : ∃ x2, x2 = ((if p.1.pend then 0 else (p.2 : Int)) + fmT l + fmT r) := ⟨_, rfl⟩
    obtain ⟨x3, hx3⟩ : ∃ x3, x3 = (minI (minI (if p.1.pend then 9223372036854775807 else p.1.fin) (meT l)) (meT r)) := ⟨_, rfl⟩
    obtain ⟨x4, hx4⟩ : ∃ x4, x4 = (addM (addM ((p.1.hv * p.2) % MP) (smT l)) (smT r)) := ⟨_, rfl⟩
    rw [← hx1, ← hx2, ← hx3, ← hx4] at hc
    have hcm := compare_33 w S mb b ep ep' m p.1 hem he (fun k hk => (hS k hk).1) (by rw [bcell hm]; rfl) (by rw [bcell hc]; rfl)
    rw [cmpE_K hem he] at hcm
    obtain ⟨cc, hcc⟩ : ∃ cc, cc = cmpK m p.1 := ⟨_, rfl⟩
    rw [← hcc, ← hN] at hcm
    rw [← hN]
    have hnn : 0 ≤ szT l ∧ 0 ≤ szT r := ⟨szT_nonneg l, szT_nonneg r⟩
    have hpb : (p.2 : Int) + szT l + szT r ≤ 4096 := hsz
    have HS : Hid (∀ k, S k → k < N ∧ k ≠ mb) := by rw [hN]; exact hS
    have HM : Hid (mb < N ∧ b < N ∧ b ≠ mb ∧ S b) := ⟨by rw [hN]; exact blt hm, by rw [hN]; exact blt hc, (hS b hs).2, hs⟩
    have HL : Hid (TIn w S l lo ∧ TIn w S r ro ∧ EAt w S ep' p.1 ∧ EAt w S ep m) := ⟨hl, hr, he, hem⟩
    have HC : Hid (w.heap[mb]? = some (.cells (MC ep 1 sz fm (.pointer none) (.pointer none) me sm) 51) ∧ w.heap[b]? = some (.cells (MC ep' (p.2 : Int) x1 x2 (.pointer lo) (.pointer ro) x3 x4) 51)) := ⟨hm, hc⟩
    have HN : Hid (N = w.heap.size) := hN
    have HCC : Hid (cc = cmpK m p.1) := hcc
    have HO : Hid (OkE m ∧ OkT (.node d1 d2 p l r)) := ⟨hom, hok⟩
    clear hx1 hx2 hx3 hx4 hc hl hr he hem hm hN hS hcc hs hom hok hsz ihl ihr
    by_cases hz : cc = 0
    · have hz' : (cc == 0) = true := by simp [hz]
      go_enter Try.func17, Try.ntmps17
      go_wp2_with fail
      refine hcm.mono ?_
      clear hcm
      rintro e w1 ⟨rfl, hb1⟩
      have HB1 : Hid (Below N w w1 ∧ N ≤ w1.heap.size) := ⟨hb1, by rw [HN.out]; exact hb1.size⟩
      clear hb1
      obtain ⟨N1, hN1⟩ : ∃ N1, N1 = w1.heap.size := ⟨_, rfl⟩
      have hcp := copied_34 w1 b ep' _ _ _ lo ro _ _ ((HB1.out.1.block b HM.out.2.1).trans HC.out.2)
      rw [← hN1] at hcp
      have HN1 : Hid (N1 = w1.heap.size) := hN1
      clear hN1
      go_wp2_with fail
      refine hcp.mono ?_
      clear hcp
      rintro e w2 ⟨rfl, hcop⟩
      have HB2 : Hid (w2.heap[N1]? = some (.cells (MC ep' (p.2 : Int) x1 x2 (.pointer lo) (.pointer ro) x3 x4) 51) ∧ Below N w w2 ∧ w2.heap.size = N1 + 1 ∧ N ≤ N1) := by
        have hh := HB1.out.2
        rw [HN1.out]
        exact ⟨hcop.at', HB1.out.1.trans (hcop.below.mono hh), hcop.size, hh⟩
      clear hcop
      have c1 : w2.cell? ⟨N1, 1, none⟩ = some (.int .i32 (p.2 : Int)) := by rw [bcell HB2.out.1]; rfl
      have f1 : w2.frozen? ⟨N1, 1, none⟩ = false := bfz HB2.out.1 1
      have hwr : IntKind.i32.wrap ((p.2 : Int) + 1) = (p.2 : Int) + 1 := by rw [IntKind.wrap_i32]; omega
      go_wp2_with fail
      clear c1 f1 hwr
      generalize hw4 : w2.setCell _ _ = W4
      have hW : W4.heap[N1]? = some (.cells (MC ep' ((p.2 : Int) + 1) x1 x2 (.pointer lo) (.pointer ro) x3 x4) 51) ∧ (∀ k, k ≠ N1 → W4.heap[k]? = w2.heap[k]?) ∧ W4.heap.size = w2.heap.size ∧ Upd N1 w2 W4 := by
        rw [← hw4]
        exact ⟨bset1 HB2.out.1 _, fun k hk => Below.heap_setCell _ _ _ _ hk, by simp [World.setCell], (Upd.refl N1 w2).setCell _ _⟩
      clear hw4
      have hT : ∀ k, S k → k ≠ N1 ∧ k < w2.heap.size := fun k hk => by
        have h1 := HB2.out.2.2.1
        have h2 := HB2.out.2.2.2
        have := (HS.out k hk).1; omega
      have hWS : ∀ k, S k → W4.heap[k]? = w.heap[k]? := fun k hk => (hW.2.1 k (hT k hk).1).trans (HB2.out.2.1.block k (HS.out k hk).1)
      have hcast : (((p.2 + 1 : Nat)) : Int) = (p.2 : Int) + 1 := by omega
      refine (fixT W4 S N1 ep' (p.1, p.2 + 1) x1 x2 x3 x4 l r lo ro (by rw [hcast]; exact hW.1) (HL.out.2.2.1.frame hWS (fun _ h => h)) (HL.out.1.frame hWS (fun _ h => h)) (HL.out.2.1.frame hWS (fun _ h => h)) (fun k hk => ⟨by rw [hW.2.2.1]; exact (hT k hk).2, (hT k hk).1⟩) HO.out.2.1 HO.out.2.2.1 (by show ((p.2 + 1 : Nat) : Int) + _ + _ ≤ _; omega)).mono ?_
      rintro e w5 ⟨rfl, hti, hup, hsz5⟩
      have HF : Hid (TIn w5 (fun k => S k ∨ k = N1) (nd (p.1, p.2 + 1) l r) (some ⟨N1, 0, none⟩) ∧ Upd N1 W4 w5 ∧ w5.heap.size = W4.heap.size ∧ (∀ k, k ≠ N1 → W4.heap[k]? = w2.heap[k]?) ∧ W4.heap.size = w2.heap.size ∧ Upd N1 w2 W4) := ⟨hti, hup, hsz5, hW.2.1, hW.2.2.1, hW.2.2.2⟩
      clear hti hup hsz5 hW hT hWS hcast
      go_wp2_with fail
      go_ret
      obtain ⟨f1, f2, f3, f4, f5, f6⟩ := HF.out
      have g1 := HB2.out.2.2.1
      have g2 := HB2.out.2.2.2
      have q := HB2.out.2.1
      have hn := HN.out
      refine ⟨⟨_, rfl, ?_⟩, f2.os.trans (f6.os.trans q.os), f2.tape.trans (f6.tape.trans q.tape), f2.output.trans (f6.output.trans q.output), by omega, fun k hk _ => ?_⟩
      · have hs : insT m (.node d1 d2 p l r) = nd (p.1, p.2 + 1) l r := by rw [insT, if_pos (by have := HCC.out; omega)]
        rw [hs]
        exact f1.frame (fun _ _ => rfl) (fun k hk => by
          rcases hk with hk | hk
          · exact .inl hk
          · exact .inr (.inr (by omega)))
      · exact (f2.block k (by omega) (by omega)).trans ((f4 k (by omega)).trans (q.block k (by omega)))
    · have hz' : (cc == 0) = false := by simpa using hz
      by_cases ha : abvK m p.1 = true
      · have HA : Hid (abvK m p.1 = true) := ha
        clear ha
        go_enter Try.func17, Try.ntmps17
        go_wp2_with fail
        refine hcm.mono ?_
        clear hcm
        rintro e w1 ⟨rfl, hb1⟩
        have HB1 : Hid (Below N w w1 ∧ N ≤ w1.heap.size) := ⟨hb1, by rw [HN.out]; exact hb1.size⟩
        clear hb1
        have e1 : EAt w1 S ep m := HL.out.2.2.2.frame (fun k hk => HB1.out.1.block k (HS.out k hk).1) (fun _ h => h)
        have e2 : EAt w1 S ep' p.1 := HL.out.2.2.1.frame (fun k hk => HB1.out.1.block k (HS.out k hk).1) (fun _ h => h)
        have hab := above_35 w1 S mb b ep ep' m p.1 e1 e2 (fun k hk => by have := HB1.out.2; have := (HS.out k hk).1; omega) (by rw [bcell ((HB1.out.1.block mb HM.out.1).trans HC.out.1)]; rfl) (by rw [bcell ((HB1.out.1.block b HM.out.2.1).trans HC.out.2)]; rfl)
        rw [aboveB_K e1 e2, show abvK m p.1 = true from HA.out] at hab
        clear e1 e2
        go_wp2_with fail
        refine hab.mono ?_
        clear hab
        rintro e w1b ⟨rfl, hb1⟩
        have HBB : Hid (Below N w w1b ∧ N ≤ w1b.heap.size) := ⟨HB1.out.1.trans (hb1.mono HB1.out.2), Nat.le_trans HB1.out.2 hb1.size⟩
        clear hb1 HB1
        have hsp := split_36 (.node d1 d2 p l r) w1b S (some ⟨b, 0, none⟩) mb ep m (HT.out.frame (fun k hk => HBB.out.1.block k (HS.out k hk).1) (fun _ h => h)) (fun k hk => by have := HBB.out.2; have := (HS.out k hk).1; omega) (by have := HBB.out.2; have := HM.out.1; omega) (by rw [bcell ((HBB.out.1.block mb HM.out.1).trans HC.out.1)]; rfl) (HL.out.2.2.2.frame (fun k hk => HBB.out.1.block k (HS.out k hk).1) (fun _ h => h)) HO.out.2 (by show (p.2 : Int) + szT l + szT r ≤ 8192; omega)
        go_wp2_with fail
        refine hsp.mono ?_
        clear hsp
        rintro e w3 ⟨⟨v1, v2, rfl, hv1, hv2⟩, hb3⟩
        have h3 : w3.heap[mb]? = some (.cells (MC ep 1 sz fm (.pointer none) (.pointer none) me sm) 51) := (hb3.block mb (by have := HBB.out.2; have := HM.out.1; omega)).trans ((HBB.out.1.block mb HM.out.1).trans HC.out.1)
        have HV : Hid (TIn w3 (fun k => S k ∨ (w1b.heap.size ≤ k ∧ k < w3.heap.size)) (splitT m (.node d1 d2 p l r)).1 v1 ∧ TIn w3 (fun k => S k ∨ (w1b.heap.size ≤ k ∧ k < w3.heap.size)) (splitT m (.node d1 d2 p l r)).2 v2 ∧ w3.heap[mb]? = some (.cells (MC ep 1 sz fm (.pointer none) (.pointer none) me sm) 51) ∧ Below N w w3 ∧ w1b.heap.size ≤ w3.heap.size) := ⟨hv1, hv2, h3, HBB.out.1.trans (hb3.mono HBB.out.2), hb3.size⟩
        have c4 : w3.cell? ⟨mb, 4, none⟩ = some (.pointer none) := by rw [bcell h3]; rfl
        have c5 : w3.cell? ⟨mb, 5, none⟩ = some (.pointer none) := by rw [bcell h3]; rfl
        have f4 : w3.frozen? ⟨mb, 4, none⟩ = false := bfz h3 4
        have f5 : w3.frozen? ⟨mb, 5, none⟩ = false := bfz h3 5
        clear hv1 hv2 hb3 h3
        go_wp2_with fail
        clear c4 c5 f4 f5
        generalize hw4 : (w3.setCell _ _).setCell _ _ = W4
        have hW : W4.heap[mb]? = some (.cells (MC ep 1 sz fm (.pointer v1) (.pointer v2) me sm) 51) ∧ (∀ k, k ≠ mb → W4.heap[k]? = w3.heap[k]?) ∧ W4.heap.size = w3.heap.size ∧ Upd mb w3 W4 := by
          rw [← hw4]
          exact ⟨bset5 (bset4 HV.out.2.2.1 _) _, fun k hk => (Below.heap_setCell _ _ _ _ hk).trans (Below.heap_setCell _ _ _ _ hk), by simp [World.setCell], ((Upd.refl mb w3).setCell _ _).setCell _ _⟩
        clear hw4
        have hT : ∀ k, (S k ∨ (w1b.heap.size ≤ k ∧ k < w3.heap.size)) → k ≠ mb ∧ k < w3.heap.size := fun k hk => by
          have h1 := HBB.out.2
          have h2 := HV.out.2.2.2.2
          have h3 := HM.out.1
          rcases hk with hk | hk
          · have := HS.out k hk; omega
          · omega
        have hWS : ∀ k, S k → W4.heap[k]? = w.heap[k]? := fun k hk => (hW.2.1 k (hT k (.inl hk)).1).trans (HV.out.2.2.2.1.block k (HS.out k hk).1)
        refine (fixT W4 (fun k => S k ∨ (w1b.heap.size ≤ k ∧ k < w3.heap.size)) mb ep (m, 1) sz fm me sm (splitT m (.node d1 d2 p l r)).1 (splitT m (.node d1 d2 p l r)).2 v1 v2 hW.1 (HL.out.2.2.2.frame hWS (fun _ h => .inl h)) (HV.out.1.frame (fun k hk => hW.2.1 k (hT k hk).1) (fun _ h => h)) (HV.out.2.1.frame (fun k hk => hW.2.1 k (hT k hk).1) (fun _ h => h)) (fun k hk => ⟨by rw [hW.2.2.1]; exact (hT k hk).2, (hT k hk).1⟩) HO.out.1 (splitT_okT m _ HO.out.2).1 (by have := splitT_sz m (.node d1 d2 p l r); have h9 : szT (.node d1 d2 p l r) = (p.2 : Int) + szT l + szT r := rfl; show ((1 : Nat) : Int) + _ + _ ≤ _; omega)).mono ?_
        rintro e w5 ⟨rfl, hti, hup, hsz5⟩
        have HF : Hid (TIn w5 (fun k => (S k ∨ (w1b.heap.size ≤ k ∧ k < w3.heap.size)) ∨ k = mb) (nd (m, 1) (splitT m (.node d1 d2 p l r)).1 (splitT m (.node d1 d2 p l r)).2) (some ⟨mb, 0, none⟩) ∧ Upd mb W4 w5 ∧ w5.heap.size = W4.heap.size ∧ W4.heap.size = w3.heap.size ∧ Upd mb w3 W4) := ⟨hti, hup, hsz5, hW.2.2.1, hW.2.2.2⟩
        clear hti hup hsz5 hW hT hWS
        go_wp2_with fail
        go_ret
        obtain ⟨f1, f2, f3, f5, f6⟩ := HF.out
        have g1 := HBB.out.2
        have g2 := HV.out.2.2.2.2
        refine ⟨⟨_, rfl, ?_⟩, (Upd.below (by have h := HV.out.2.2.2.1; rw [HN.out] at h; exact h)).trans (f6.trans f2)⟩
        have hs : insT m (.node d1 d2 p l r) = nd (m, 1) (splitT m (.node d1 d2 p l r)).1 (splitT m (.node d1 d2 p l r)).2 := by rw [insT, if_neg (by rw [← HCC.out]; exact hz), if_pos HA.out]
        rw [hs]
        exact f1.frame (fun _ _ => rfl) (fun k hk => by
          rcases hk with (hk | hk) | hk
          · exact .inl hk
          · exact .inr (.inr (by omega))
          · exact .inr (.inl hk))
      · have ha' : abvK m p.1 = false := by simpa using ha
        have HA : Hid (abvK m p.1 = false) := ha'
        clear ha ha'
        by_cases hlt : cc < 0
        · have hlt' : decide (cc < 0) = true := by simpa using hlt
          go_enter Try.func17, Try.ntmps17
          go_wp2_with fail
          refine hcm.mono ?_
          clear hcm
          rintro e w1 ⟨rfl, hb1⟩
          have HB1 : Hid (Below N w w1 ∧ N ≤ w1.heap.size) := ⟨hb1, by rw [HN.out]; exact hb1.size⟩
          clear hb1
          have e1 : EAt w1 S ep m := HL.out.2.2.2.frame (fun k hk => HB1.out.1.block k (HS.out k hk).1) (fun _ h => h)
          have e2 : EAt w1 S ep' p.1 := HL.out.2.2.1.frame (fun k hk => HB1.out.1.block k (HS.out k hk).1) (fun _ h => h)
          have hab := above_35 w1 S mb b ep ep' m p.1 e1 e2 (fun k hk => by have := HB1.out.2; have := (HS.out k hk).1; omega) (by rw [bcell ((HB1.out.1.block mb HM.out.1).trans HC.out.1)]; rfl) (by rw [bcell ((HB1.out.1.block b HM.out.2.1).trans HC.out.2)]; rfl)
          rw [aboveB_K e1 e2, show abvK m p.1 = false from HA.out] at hab
          clear e1 e2
          go_wp2_with fail
          refine hab.mono ?_
          clear hab
          rintro e w1b ⟨rfl, hb1⟩
          have HBB : Hid (Below N w w1b ∧ N ≤ w1b.heap.size) := ⟨HB1.out.1.trans (hb1.mono HB1.out.2), Nat.le_trans HB1.out.2 hb1.size⟩
          clear hb1 HB1
          obtain ⟨N1, hN1⟩ : ∃ N1, N1 = w1b.heap.size := ⟨_, rfl⟩
          have hcp := copied_34 w1b b ep' _ _ _ lo ro _ _ ((HBB.out.1.block b HM.out.2.1).trans HC.out.2)
          rw [← hN1] at hcp
          have HN1 : Hid (N1 = w1b.heap.size) := hN1
          clear hN1
          go_wp2_with fail
          refine hcp.mono ?_
          clear hcp
          rintro e w2 ⟨rfl, hcop⟩
          have HB2 : Hid (w2.heap[N1]? = some (.cells (MC ep' (p.2 : Int) x1 x2 (.pointer lo) (.pointer ro) x3 x4) 51) ∧ Below N w w2 ∧ w2.heap.size = N1 + 1 ∧ N ≤ N1) := by
            have hh := HBB.out.2
            rw [HN1.out]
            exact ⟨hcop.at', HBB.out.1.trans (hcop.below.mono hh), hcop.size, hh⟩
          clear hcop
          have c4 : w2.cell? ⟨N1, 4, none⟩ = some (.pointer lo) := by rw [bcell HB2.out.1]; rfl
          have hih := HIH.out.1 w2 S lo mb ep m sz fm me sm (HL.out.1.frame (fun k hk => HB2.out.2.1.block k (HS.out k hk).1) (fun _ h => h)) (fun k hk => ⟨by have := HB2.out.2.2; have := (HS.out k hk).1; omega, (HS.out k hk).2⟩) ((HB2.out.2.1.block mb HM.out.1).trans HC.out.1) (HL.out.2.2.2.frame (fun k hk => HB2.out.2.1.block k (HS.out k hk).1) (fun _ h => h)) HO.out.1 HO.out.2.2.1 (by omega)
          go_wp2_with fail
          refine hih.mono ?_
          clear hih c4
          rintro e w3 ⟨⟨v', rfl, hv1⟩, hb3⟩
          have hnm : N1 ≠ mb := by have := HM.out.1; have := HB2.out.2.2.2; omega
          have h3 : w3.heap[N1]? = some (.cells (MC ep' (p.2 : Int) x1 x2 (.pointer lo) (.pointer ro) x3 x4) 51) := (hb3.block N1 (by have := HB2.out.2.2; omega) hnm).trans HB2.out.1
          have HV : Hid (TIn w3 (fun k => S k ∨ k = mb ∨ (w2.heap.size ≤ k ∧ k < w3.heap.size)) (insT m l) v' ∧ w3.heap[N1]? = some (.cells (MC ep' (p.2 : Int) x1 x2 (.pointer lo) (.pointer ro) x3 x4) 51) ∧ Upd mb w2 w3 ∧ N1 ≠ mb) := ⟨hv1, h3, hb3, hnm⟩
          have c4 : w3.cell? ⟨N1, 4, none⟩ = some (.pointer lo) := by rw [bcell h3]; rfl
          have f4 : w3.frozen? ⟨N1, 4, none⟩ = false := bfz h3 4
          clear hv1 hb3 h3 hnm
          go_wp2_with fail
          clear c4 f4
          generalize hw4 : w3.setCell _ _ = W4
          have hW : W4.heap[N1]? = some (.cells (MC ep' (p.2 : Int) x1 x2 (.pointer v') (.pointer ro) x3 x4) 51) ∧ (∀ k, k ≠ N1 → W4.heap[k]? = w3.heap[k]?) ∧ W4.heap.size = w3.heap.size ∧ Upd N1 w3 W4 := by
            rw [← hw4]
            exact ⟨bset4 HV.out.2.1 _, fun k hk => Below.heap_setCell _ _ _ _ hk, by simp [World.setCell], (Upd.refl N1 w3).setCell _ _⟩
          clear hw4
          have hT : ∀ k, (S k ∨ k = mb ∨ (w2.heap.size ≤ k ∧ k < w3.heap.size)) → k ≠ N1 ∧ k < w3.heap.size := fun k hk => by
            have h1 := HB2.out.2.2
            have h2 := HV.out.2.2.1.size
            have h3 := HM.out.1
            have h4 := HV.out.2.2.2
            rcases hk with hk | hk | hk
            · have := HS.out k hk; omega
            · omega
            · omega
          have hWS : ∀ k, S k → W4.heap[k]? = w.heap[k]? := fun k hk => (hW.2.1 k (hT k (.inl hk)).1).trans ((HV.out.2.2.1.block k (by have := HB2.out.2.2; have := (HS.out k hk).1; omega) (HS.out k hk).2).trans (HB2.out.2.1.block k (HS.out k hk).1))
          refine (fixT W4 (fun k => S k ∨ k = mb ∨ (w2.heap.size ≤ k ∧ k < w3.heap.size)) N1 ep' p x1 x2 x3 x4 (insT m l) r v' ro hW.1 (HL.out.2.2.1.frame hWS (fun _ h => .inl h)) (HV.out.1.frame (fun k hk => hW.2.1 k (hT k hk).1) (fun _ h => h)) (HL.out.2.1.frame hWS (fun _ h => .inl h)) (fun k hk => ⟨by rw [hW.2.2.1]; exact (hT k hk).2, (hT k hk).1⟩) HO.out.2.1 (insT_okT m HO.out.1 l HO.out.2.2.1) (by rw [insT_sz]; omega)).mono ?_
          rintro e w5 ⟨rfl, hti, hup, hsz5⟩
          have HF : Hid (TIn w5 (fun k => (S k ∨ k = mb ∨ (w2.heap.size ≤ k ∧ k < w3.heap.size)) ∨ k = N1) (nd p (insT m l) r) (some ⟨N1, 0, none⟩) ∧ Upd N1 W4 w5 ∧ w5.heap.size = W4.heap.size ∧ (∀ k, k ≠ N1 → W4.heap[k]? = w3.heap[k]?) ∧ W4.heap.size = w3.heap.size ∧ Upd N1 w3 W4) := ⟨hti, hup, hsz5, hW.2.1, hW.2.2.1, hW.2.2.2⟩
          clear hti hup hsz5 hW hT hWS
          go_wp2_with fail
          go_ret
          obtain ⟨f1, f2, f3, f4, f5, f6⟩ := HF.out
          have g1 := HB2.out.2.2.1
          have g2 := HB2.out.2.2.2
          have q := HB2.out.2.1
          have u := HV.out.2.2.1
          have us := u.size
          have hn := HN.out
          refine ⟨⟨_, rfl, ?_⟩, f2.os.trans (f6.os.trans (u.os.trans q.os)), f2.tape.trans (f6.tape.trans (u.tape.trans q.tape)), f2.output.trans (f6.output.trans (u.output.trans q.output)), by omega, fun k hk hkm => ?_⟩
          · have hs : insT m (.node d1 d2 p l r) = nd p (insT m l) r := by rw [insT, if_neg (by rw [← HCC.out]; exact hz), if_neg (by rw [HA.out]; simp), if_pos (by rw [← HCC.out]; omega)]
            rw [hs]
            exact f1.frame (fun _ _ => rfl) (fun k hk => by
              rcases hk with (hk | hk | hk) | hk
              · exact .inl hk
              · exact .inr (.inl hk)
              · exact .inr (.inr (by omega))
              · exact .inr (.inr (by omega)))
          · exact (f2.block k (by omega) (by omega)).trans ((f4 k (by omega)).trans ((u.block k (by omega) hkm).trans (q.block k (by omega))))
        · have hlt' : decide (cc < 0) = false := by simpa using hlt
          go_enter Try.func17, Try.ntmps17
          go_wp2_with fail
          refine hcm.mono ?_
          clear hcm
          rintro e w1 ⟨rfl, hb1⟩
          have HB1 : Hid (Below N w w1 ∧ N ≤ w1.heap.size) := ⟨hb1, by rw [HN.out]; exact hb1.size⟩
          clear hb1
          have e1 : EAt w1 S ep m := HL.out.2.2.2.frame (fun k hk => HB1.out.1.block k (HS.out k hk).1) (fun _ h => h)
          have e2 : EAt w1 S ep' p.1 := HL.out.2.2.1.frame (fun k hk => HB1.out.1.block k (HS.out k hk).1) (fun _ h => h)
          have hab := above_35 w1 S mb b ep ep' m p.1 e1 e2 (fun k hk => by have := HB1.out.2; have := (HS.out k hk).1; omega) (by rw [bcell ((HB1.out.1.block mb HM.out.1).trans HC.out.1)]; rfl) (by rw [bcell ((HB1.out.1.block b HM.out.2.1).trans HC.out.2)]; rfl)
          rw [aboveB_K e1 e2, show abvK m p.1 = false from HA.out] at hab
          clear e1 e2
          go_wp2_with fail
          refine hab.mono ?_
          clear hab
          rintro e w1b ⟨rfl, hb1⟩
          have HBB : Hid (Below N w w1b ∧ N ≤ w1b.heap.size) := ⟨HB1.out.1.trans (hb1.mono HB1.out.2), Nat.le_trans HB1.out.2 hb1.size⟩
          clear hb1 HB1
          obtain ⟨N1, hN1⟩ : ∃ N1, N1 = w1b.heap.size := ⟨_, rfl⟩
          have hcp := copied_34 w1b b ep' _ _ _ lo ro _ _ ((HBB.out.1.block b HM.out.2.1).trans HC.out.2)
          rw [← hN1] at hcp
          have HN1 : Hid (N1 = w1b.heap.size) := hN1
          clear hN1
          go_wp2_with fail
          refine hcp.mono ?_
          clear hcp
          rintro e w2 ⟨rfl, hcop⟩
          have HB2 : Hid (w2.heap[N1]? = some (.cells (MC ep' (p.2 : Int) x1 x2 (.pointer lo) (.pointer ro) x3 x4) 51) ∧ Below N w w2 ∧ w2.heap.size = N1 + 1 ∧ N ≤ N1) := by
            have hh := HBB.out.2
            rw [HN1.out]
            exact ⟨hcop.at', HBB.out.1.trans (hcop.below.mono hh), hcop.size, hh⟩
          clear hcop
          have c4 : w2.cell? ⟨N1, 5, none⟩ = some (.pointer ro) := by rw [bcell HB2.out.1]; rfl
          have hih := HIH.out.2 w2 S ro mb ep m sz fm me sm (HL.out.2.1.frame (fun k hk => HB2.out.2.1.block k (HS.out k hk).1) (fun _ h => h)) (fun k hk => ⟨by have := HB2.out.2.2; have := (HS.out k hk).1; omega, (HS.out k hk).2⟩) ((HB2.out.2.1.block mb HM.out.1).trans HC.out.1) (HL.out.2.2.2.frame (fun k hk => HB2.out.2.1.block k (HS.out k hk).1) (fun _ h => h)) HO.out.1 HO.out.2.2.2 (by omega)
          go_wp2_with fail
          refine hih.mono ?_
          clear hih c4
          rintro e w3 ⟨⟨v', rfl, hv1⟩, hb3⟩
          have hnm : N1 ≠ mb := by have := HM.out.1; have := HB2.out.2.2.2; omega
          have h3 : w3.heap[N1]? = some (.cells (MC ep' (p.2 : Int) x1 x2 (.pointer lo) (.pointer ro) x3 x4) 51) := (hb3.block N1 (by have := HB2.out.2.2; omega) hnm).trans HB2.out.1
          have HV : Hid (TIn w3 (fun k => S k ∨ k = mb ∨ (w2.heap.size ≤ k ∧ k < w3.heap.size)) (insT m r) v' ∧ w3.heap[N1]? = some (.cells (MC ep' (p.2 : Int) x1 x2 (.pointer lo) (.pointer ro) x3 x4) 51) ∧ Upd mb w2 w3 ∧ N1 ≠ mb) := ⟨hv1, h3, hb3, hnm⟩
          have c4 : w3.cell? ⟨N1, 5, none⟩ = some (.pointer ro) := by rw [bcell h3]; rfl
          have f4 : w3.frozen? ⟨N1, 5, none⟩ = false := bfz h3 5
          clear hv1 hb3 h3 hnm
          go_wp2_with fail
          clear c4 f4
          generalize hw4 : w3.setCell _ _ = W4
          have hW : W4.heap[N1]? = some (.cells (MC ep' (p.2 : Int) x1 x2 (.pointer lo) (.pointer v') x3 x4) 51) ∧ (∀ k, k ≠ N1 → W4.heap[k]? = w3.heap[k]?) ∧ W4.heap.size = w3.heap.size ∧ Upd N1 w3 W4 := by
            rw [← hw4]
            exact ⟨bset5 HV.out.2.1 _, fun k hk => Below.heap_setCell _ _ _ _ hk, by simp [World.setCell], (Upd.refl N1 w3).setCell _ _⟩
          clear hw4
          have hT : ∀ k, (S k ∨ k = mb ∨ (w2.heap.size ≤ k ∧ k < w3.heap.size)) → k ≠ N1 ∧ k < w3.heap.size := fun k hk => by
            have h1 := HB2.out.2.2
            have h2 := HV.out.2.2.1.size
            have h3 := HM.out.1
            have h4 := HV.out.2.2.2
            rcases hk with hk | hk | hk
            · have := HS.out k hk; omega
            · omega
            · omega
          have hWS : ∀ k, S k → W4.heap[k]? = w.heap[k]? := fun k hk => (hW.2.1 k (hT k (.inl hk)).1).trans ((HV.out.2.2.1.block k (by have := HB2.out.2.2; have := (HS.out k hk).1; omega) (HS.out k hk).2).trans (HB2.out.2.1.block k (HS.out k hk).1))
          refine (fixT W4 (fun k => S k ∨ k = mb ∨ (w2.heap.size ≤ k ∧ k < w3.heap.size)) N1 ep' p x1 x2 x3 x4 l (insT m r) lo v' hW.1 (HL.out.2.2.1.frame hWS (fun _ h => .inl h)) (HL.out.1.frame hWS (fun _ h => .inl h)) (HV.out.1.frame (fun k hk => hW.2.1 k (hT k hk).1) (fun _ h => h)) (fun k hk => ⟨by rw [hW.2.2.1]; exact (hT k hk).2, (hT k hk).1⟩) HO.out.2.1 HO.out.2.2.1 (by rw [insT_sz]; omega)).mono ?_
          rintro e w5 ⟨rfl, hti, hup, hsz5⟩
          have HF : Hid (TIn w5 (fun k => (S k ∨ k = mb ∨ (w2.heap.size ≤ k ∧ k < w3.heap.size)) ∨ k = N1) (nd p l (insT m r)) (some ⟨N1, 0, none⟩) ∧ Upd N1 W4 w5 ∧ w5.heap.size = W4.heap.size ∧ (∀ k, k ≠ N1 → W4.heap[k]? = w3.heap[k]?) ∧ W4.heap.size = w3.heap.size ∧ Upd N1 w3 W4) := ⟨hti, hup, hsz5, hW.2.1, hW.2.2.1, hW.2.2.2⟩
          clear hti hup hsz5 hW hT hWS
          go_wp2_with fail
          go_ret
          obtain ⟨f1, f2, f3, f4, f5, f6⟩ := HF.out
          have g1 := HB2.out.2.2.1
          have g2 := HB2.out.2.2.2
          have q := HB2.out.2.1
          have u := HV.out.2.2.1
          have us := u.size
          have hn := HN.out
          refine ⟨⟨_, rfl, ?_⟩, f2.os.trans (f6.os.trans (u.os.trans q.os)), f2.tape.trans (f6.tape.trans (u.tape.trans q.tape)), f2.output.trans (f6.output.trans (u.output.trans q.output)), by omega, fun k hk hkm => ?_⟩
          · have hs : insT m (.node d1 d2 p l r) = nd p l (insT m r) := by rw [insT, if_neg (by rw [← HCC.out]; exact hz), if_neg (by rw [HA.out]; simp), if_neg (by rw [← HCC.out]; omega)]
            rw [hs]
            exact f1.frame (fun _ _ => rfl) (fun k hk => by
              rcases hk with (hk | hk | hk) | hk
              · exact .inl hk
              · exact .inr (.inl hk)
              · exact .inr (.inr (by omega))
              · exact .inr (.inr (by omega)))
          · exact (f2.block k (by omega) (by omega)).trans ((f4 k (by omega)).trans ((u.block k (by omega) hkm).trans (q.block k (by omega))))
end Go.Proofs.Qxb6613283a
