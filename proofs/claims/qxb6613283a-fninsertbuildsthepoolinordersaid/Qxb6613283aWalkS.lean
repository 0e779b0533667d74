/-
  THE WALKS of member.split, over fix, copied, compare.
-/
import Derived.Test.Qxb6613283aWalkF
import Derived.Test.Qxb6613283aTin
namespace Go.Proofs.Qxb6613283a
open Go.RowKit
open Go.Deep (BT)

theorem TIn.kid {w : World} {S : Nat → Prop} {t : BT (El × Nat)} {v : Option Addr} {b : Nat} (h : TIn w S t v) (hS : ∀ k, S k → k < w.heap.size ∧ k ≠ b) : Kid w b v (szT t) (fmT t) (meT t) (smT t) := by
  cases t with
  | nil => exact .inl ⟨h, rfl, rfl, rfl, rfl⟩
  | node _ _ p l r =>
    obtain ⟨x, ep, lo, ro, e, hs, hc, he, hl, hr⟩ := h
    exact .inr ⟨x, e, (hS x hs).2, (hS x hs).1, by rw [bcell hc]; rfl, by rw [bcell hc]; rfl, by rw [bcell hc]; rfl, by rw [bcell hc]; rfl⟩

/-- fix, of a member whose children are treaps. -/
theorem fixT (w : World) (S : Nat → Prop) (b ep : Nat) (p : El × Nat) (sz fm me sm : Int) (l r : BT (El × Nat)) (lo ro : Option Addr) (hb : w.heap[b]? = some (.cells (MC ep p.2 sz fm (.pointer lo) (.pointer ro) me sm) 51))
    (he : EAt w S ep p.1) (hl : TIn w S l lo) (hr : TIn w S r ro) (hS : ∀ k, S k → k < w.heap.size ∧ k ≠ b) (hp : OkE p.1) (okl : OkT l) (hsz : p.2 + szT l + szT r ≤ 8192) :
    Calls Try.prog 32 #[.pointer (some ⟨b, 0, none⟩)] w fun e w' => e = .returned (.pointer (some ⟨b, 0, none⟩)) ∧ TIn w' (fun k => S k ∨ k = b) (nd p l r) (some ⟨b, 0, none⟩) ∧ Upd b w w' ∧ w'.heap.size = w.heap.size := by
  obtain ⟨t4, t5, t6, t7⟩ := he.tail
  obtain ⟨hv, ehv⟩ : ∃ hv : Nat, p.1.hv = (hv : Int) := ⟨p.1.hv.toNat, by have := hp.1; omega⟩
  have f1 := fmT_range l
  have f2 := fmT_range r
  refine (fix_32 w b ep p.2 sz fm lo ro me sm p.1.fin hv p.1.pend (szT l) (fmT l) (meT l) (smT l) (szT r) (fmT r) (meT r) (smT r) hb (hS ep he.in).2 he.lt t5 t6 (by rw [← ehv]; exact t7)
    (by have := hp.2.1; rw [ehv] at this; unfold MP at this; omega) (hl.kid hS) (hr.kid hS) ⟨szT_nonneg l, f1.1, szT_nonneg r, f2.1, by omega, by omega, hp.2.2⟩ ⟨(smT_range l).1, (smT_range l).2, (smT_range r).1, (smT_range r).2⟩ (meT_le l okl)).mono ?_
  rintro e w' ⟨rfl, hf⟩
  have hblk : ∀ k, S k → w'.heap[k]? = w.heap[k]? := fun k hk => hf.upd.block k (hS k hk).1 (hS k hk).2
  refine ⟨rfl, ⟨b, ep, lo, ro, rfl, .inr rfl, ?_, he.frame hblk (fun _ h => .inl h), hl.frame hblk (fun _ h => .inl h), hr.frame hblk (fun _ h => .inl h)⟩, hf.upd, hf.hs⟩
  rw [ehv]
  exact hf.hb

theorem cmpE_K {w w' : World} {S S' : Nat → Prop} {p p' : Nat} {a b : El} (h : EAt w S p a) (h' : EAt w' S' p' b) : cmpE a b = cmpK a b := cmpE_eq a b (h.pf h')
theorem aboveB_K {w w' : World} {S S' : Nat → Prop} {p p' : Nat} {a b : El} (h : EAt w S p a) (h' : EAt w' S' p' b) : aboveB a b = abvK a b := by
  unfold aboveB abvK
  rw [cmpE_K h h']

set_option maxHeartbeats 1000000 in
set_option maxRecDepth 100000 in
theorem split_36 (t : BT (El × Nat)) : ∀ (w : World) (S : Nat → Prop) (v : Option Addr) (mb ep : Nat) (m : El), TIn w S t v → (∀ k, S k → k < w.heap.size) → mb < w.heap.size → w.cell? ⟨mb, 0, none⟩ = some (.pointer (some ⟨ep, 0, none⟩)) → EAt w S ep m → OkT t → szT t ≤ 8192 →
    Calls Try.prog 36 #[.pointer v, .pointer (some ⟨mb, 0, none⟩)] w fun e w' => (∃ v1 v2, e = .returned (.tuple #[.pointer v1, .pointer v2]) ∧ TIn w' (fun k => S k ∨ (w.heap.size ≤ k ∧ k < w'.heap.size)) (splitT m t).1 v1 ∧ TIn w' (fun k => S k ∨ (w.heap.size ≤ k ∧ k < w'.heap.size)) (splitT m t).2 v2) ∧ Below w.heap.size w w' := by
  induction t with
  | nil =>
    intro w S v mb ep m ht hS hmb hm hem hok hsz
    obtain rfl : v = none := ht
    clear hm hem hS
    go_enter Try.func36, Try.ntmps36
    go_wp2_with fail
    go_ret2
    exact ⟨⟨none, none, rfl, rfl, rfl⟩, Below.refl _ _⟩
  | node d1 d2 p l r ihl ihr =>
    intro w S v mb ep m ht hS hmb hm hem hok hsz
    have HIH : Hid (_ ∧ _) := ⟨ihl, ihr⟩
    clear ihl ihr
    obtain ⟨b, ep', lo, ro, rfl, hs, hc, he, hl, hr⟩ := ht
    obtain ⟨N, hN⟩ : ∃ N, N = w.heap.size := ⟨_, rfl⟩
    rw [← hN]
    have HS : Hid (∀ k, S k → k < N) := by rw [hN]; exact hS
    have HL : Hid (TIn w S l lo ∧ TIn w S r ro ∧ EAt w S ep' p.1 ∧ EAt w S ep m ∧ w.cell? ⟨mb, 0, none⟩ = some (.pointer (some ⟨ep, 0, none⟩))) := ⟨hl, hr, he, hem, hm⟩
    have hcp := copied_34 w b ep' _ _ _ lo ro _ _ hc
    obtain ⟨x1, hx1⟩ : ∃ x1, x1 = ((p.2 : Int) + szT l + szT r) := ⟨_, rfl⟩
    obtain ⟨x2, hx2⟩ : ∃ x2, x2 = ((if p.1.pend then 0 else (p.2 : Int)) + fmT l + fmT r) := ⟨_, rfl⟩
    obtain ⟨x3, hx3⟩ : ∃ x3, x3 = (minI (minI (if p.1.pend then 9223372036854775807 else p.1.fin) (meT l)) (meT r)) := ⟨_, rfl⟩
    obtain ⟨x4, hx4⟩ : ∃ x4, x4 = (addM (addM ((p.1.hv * p.2) % MP) (smT l)) (smT r)) := ⟨_, rfl⟩
    rw [← hx1, ← hx2, ← hx3, ← hx4, ← hN] at hcp
    rw [← hN] at hmb
    have HN : Hid (N = w.heap.size) := hN
    clear hx1 hx2 hx3 hx4 hc hl hr he hem hm hN hS
    go_enter Try.func36, Try.ntmps36
    go_wp2_with fail
    refine hcp.mono ?_
    rintro e w1 ⟨rfl, hcop⟩
    clear hcp
    have HB1 : Hid (w1.heap[N]? = some (.cells (MC ep' (p.2 : Int) x1 x2 (.pointer lo) (.pointer ro) x3 x4) 51) ∧ Below N w w1 ∧ w1.heap.size = N + 1) := by rw [HN.out]; exact ⟨hcop.at', hcop.below, hcop.size⟩
    clear hcop
    have e1 : EAt w1 S ep m := HL.out.2.2.2.1.frame (fun k hk => HB1.out.2.1.block k (HS.out k hk)) (fun _ h => h)
    have e2 : EAt w1 S ep' p.1 := HL.out.2.2.1.frame (fun k hk => HB1.out.2.1.block k (HS.out k hk)) (fun _ h => h)
    have hcm := compare_33 w1 S mb N ep ep' m p.1 e1 e2 (fun k hk => by have := HB1.out.2.2; have := HS.out k hk; omega) ((World.cell?_of_block (HB1.out.2.1.block mb hmb)).trans HL.out.2.2.2.2) (by rw [bcell HB1.out.1]; rfl)
    rw [cmpE_K e1 e2] at hcm
    clear e1 e2
    obtain ⟨cc, hcc⟩ : ∃ cc, cc = cmpK m p.1 := ⟨_, rfl⟩
    rw [← hcc] at hcm
    have HCC : Hid (cc = cmpK m p.1) := hcc
    clear hcc
    go_wp2_with fail
    refine hcm.mono ?_
    rintro e w2 ⟨rfl, hb2⟩
    have HB2 : Hid (w2.heap[N]? = some (.cells (MC ep' (p.2 : Int) x1 x2 (.pointer lo) (.pointer ro) x3 x4) 51) ∧ Below N w w2 ∧ N < w2.heap.size) := ⟨(hb2.block N (by have := HB1.out.2.2; omega)).trans HB1.out.1, HB1.out.2.1.trans (hb2.mono (by have := HB1.out.2.2; omega)), by have := HB1.out.2.2; have := hb2.size; omega⟩
    clear hcm hb2 HB1
    by_cases hlt : cc < 0
    · have hlt' : decide (cc < 0) = true := by simpa using hlt
      have c4 : w2.cell? ⟨N, 4, none⟩ = some (.pointer lo) := by rw [bcell HB2.out.1]; rfl
      have hih := HIH.out.1 w2 S lo mb ep m ((HL.out.1).frame (fun k hk => HB2.out.2.1.block k (HS.out k hk)) (fun _ h => h)) (fun k hk => by have := HB2.out.2.2; have := HS.out k hk; omega) (by have := HB2.out.2.2; omega) ((World.cell?_of_block (HB2.out.2.1.block mb hmb)).trans HL.out.2.2.2.2) (HL.out.2.2.2.1.frame (fun k hk => HB2.out.2.1.block k (HS.out k hk)) (fun _ h => h)) hok.2.1 (by simp only [szT] at hsz; have := szT_nonneg l; have := szT_nonneg r; omega)
      go_wp2_with fail
      refine hih.mono ?_
      clear hih c4
      rintro e w3 ⟨⟨v1, v2, rfl, hv1, hv2⟩, hb3⟩
      have h3 : w3.heap[N]? = some (.cells (MC ep' (p.2 : Int) x1 x2 (.pointer lo) (.pointer ro) x3 x4) 51) := (hb3.block N (by have := HB2.out.2.2; omega)).trans HB2.out.1
      have HV : Hid (TIn w3 (fun k => S k ∨ (w2.heap.size ≤ k ∧ k < w3.heap.size)) (splitT m l).1 v1 ∧ TIn w3 (fun k => S k ∨ (w2.heap.size ≤ k ∧ k < w3.heap.size)) (splitT m l).2 v2 ∧ w3.heap[N]? = some (.cells (MC ep' (p.2 : Int) x1 x2 (.pointer lo) (.pointer ro) x3 x4) 51) ∧ Below N w w3 ∧ w2.heap.size ≤ w3.heap.size) := ⟨hv1, hv2, h3, HB2.out.2.1.trans (hb3.mono (by have := HB2.out.2.2; omega)), hb3.size⟩
      have c4 : w3.cell? ⟨N, 4, none⟩ = some (.pointer lo) := by rw [bcell h3]; rfl
      have f4 : w3.frozen? ⟨N, 4, none⟩ = false := bfz h3 4
      clear hv1 hv2 hb3 h3
      go_wp2_with fail
      clear c4 f4
      generalize hw4 : w3.setCell _ _ = W4
      have hW : W4.heap[N]? = some (.cells (MC ep' (p.2 : Int) x1 x2 (.pointer v2) (.pointer ro) x3 x4) 51) ∧ (∀ k, k ≠ N → W4.heap[k]? = w3.heap[k]?) ∧ W4.heap.size = w3.heap.size ∧ Upd N w3 W4 := by
        rw [← hw4]
        exact ⟨bset4 HV.out.2.2.1 _, fun k hk => Below.heap_setCell _ _ _ _ hk, by simp [World.setCell], (Upd.refl N w3).setCell _ _⟩
      clear hw4
      have hT : ∀ k, (S k ∨ (w2.heap.size ≤ k ∧ k < w3.heap.size)) → k ≠ N ∧ k < w3.heap.size := fun k hk => by
        have h1 := HB2.out.2.2
        have h2 := HV.out.2.2.2.2
        rcases hk with hk | hk
        · have := HS.out k hk; omega
        · omega
      have hWS : ∀ k, S k → W4.heap[k]? = w.heap[k]? := fun k hk => (hW.2.1 k (hT k (.inl hk)).1).trans (HV.out.2.2.2.1.block k (HS.out k hk))
      refine (fixT W4 (fun k => S k ∨ (w2.heap.size ≤ k ∧ k < w3.heap.size)) N ep' p x1 x2 x3 x4 (splitT m l).2 r v2 ro hW.1 (HL.out.2.2.1.frame (fun k hk => hWS k hk) (fun _ h => .inl h)) (HV.out.2.1.frame (fun k hk => hW.2.1 k (hT k hk).1) (fun _ h => h)) (HL.out.2.1.frame (fun k hk => hWS k hk) (fun _ h => .inl h)) (fun k hk => ⟨by rw [hW.2.2.1]; exact (hT k hk).2, (hT k hk).1⟩) hok.1 (splitT_okT m l hok.2.1).2 (by have := splitT_sz m l; have := szT_nonneg (splitT m l).1; simp only [szT] at hsz; omega)).mono ?_
      rintro e w5 ⟨rfl, hti, hup, hsz5⟩
      have HF : Hid (TIn w5 (fun k => (S k ∨ (w2.heap.size ≤ k ∧ k < w3.heap.size)) ∨ k = N) (nd p (splitT m l).2 r) (some ⟨N, 0, none⟩) ∧ Upd N W4 w5 ∧ w5.heap.size = W4.heap.size ∧ (∀ k, k ≠ N → W4.heap[k]? = w3.heap[k]?) ∧ W4.heap.size = w3.heap.size ∧ Upd N w3 W4) := ⟨hti, hup, hsz5, hW.2.1, hW.2.2.1, hW.2.2.2⟩
      have HT : Hid (∀ k, (S k ∨ (w2.heap.size ≤ k ∧ k < w3.heap.size)) → k ≠ N ∧ k < w3.heap.size) := hT
      clear hti hup hsz5 hW hT hWS
      go_wp2_with fail
      go_ret2
      obtain ⟨f1, f2, f3, f4, f5, f6⟩ := HF.out
      have g1 := HB2.out.2.2
      have g2 := HV.out.2.2.2.2
      have hin : ∀ k, ((S k ∨ (w2.heap.size ≤ k ∧ k < w3.heap.size)) ∨ k = N) → (S k ∨ (N ≤ k ∧ k < w5.heap.size)) := fun k hk => by
        rcases hk with (hk | hk) | hk
        · exact .inl hk
        · exact .inr (by omega)
        · exact .inr (by omega)
      have h5 : ∀ k, (S k ∨ (w2.heap.size ≤ k ∧ k < w3.heap.size)) → w5.heap[k]? = w3.heap[k]? := fun k hk => (f2.block k (by rw [f5]; exact (HT.out k hk).2) (HT.out k hk).1).trans (f4 k (HT.out k hk).1)
      have hbel : Below N w w5 := by
        have q := HV.out.2.2.2.1
        refine ⟨f2.os.trans (f6.os.trans q.os), f2.tape.trans (f6.tape.trans q.tape), f2.output.trans (f6.output.trans q.output), by have := q.size; omega, fun k hk => ?_⟩
        have := f2.block k (by omega) (by omega)
        exact this.trans ((f4 k (by omega)).trans (q.block k hk))
      refine ⟨⟨v1, some ⟨N, 0, none⟩, rfl, ?_⟩, hbel⟩
      have hs : splitT m (.node d1 d2 p l r) = ((splitT m l).1, nd p (splitT m l).2 r) := by rw [splitT, if_pos (by rw [← HCC.out]; exact hlt)]
      rw [hs]
      exact ⟨HV.out.1.frame h5 (fun k hk => hin k (.inl hk)), f1.frame (fun _ _ => rfl) hin⟩
    · have hlt' : decide (cc < 0) = false := by simpa using hlt
      have c4 : w2.cell? ⟨N, 5, none⟩ = some (.pointer ro) := by rw [bcell HB2.out.1]; rfl
      have hih := HIH.out.2 w2 S ro mb ep m ((HL.out.2.1).frame (fun k hk => HB2.out.2.1.block k (HS.out k hk)) (fun _ h => h)) (fun k hk => by have := HB2.out.2.2; have := HS.out k hk; omega) (by have := HB2.out.2.2; omega) ((World.cell?_of_block (HB2.out.2.1.block mb hmb)).trans HL.out.2.2.2.2) (HL.out.2.2.2.1.frame (fun k hk => HB2.out.2.1.block k (HS.out k hk)) (fun _ h => h)) hok.2.2 (by simp only [szT] at hsz; have := szT_nonneg l; have := szT_nonneg r; omega)
      go_wp2_with fail
      refine hih.mono ?_
      clear hih c4
      rintro e w3 ⟨⟨v1, v2, rfl, hv1, hv2⟩, hb3⟩
      have h3 : w3.heap[N]? = some (.cells (MC ep' (p.2 : Int) x1 x2 (.pointer lo) (.pointer ro) x3 x4) 51) := (hb3.block N (by have := HB2.out.2.2; omega)).trans HB2.out.1
      have HV : Hid (TIn w3 (fun k => S k ∨ (w2.heap.size ≤ k ∧ k < w3.heap.size)) (splitT m r).1 v1 ∧ TIn w3 (fun k => S k ∨ (w2.heap.size ≤ k ∧ k < w3.heap.size)) (splitT m r).2 v2 ∧ w3.heap[N]? = some (.cells (MC ep' (p.2 : Int) x1 x2 (.pointer lo) (.pointer ro) x3 x4) 51) ∧ Below N w w3 ∧ w2.heap.size ≤ w3.heap.size) := ⟨hv1, hv2, h3, HB2.out.2.1.trans (hb3.mono (by have := HB2.out.2.2; omega)), hb3.size⟩
      have c4 : w3.cell? ⟨N, 5, none⟩ = some (.pointer ro) := by rw [bcell h3]; rfl
      have f4 : w3.frozen? ⟨N, 5, none⟩ = false := bfz h3 5
      clear hv1 hv2 hb3 h3
      go_wp2_with fail
      clear c4 f4
      generalize hw4 : w3.setCell _ _ = W4
      have hW : W4.heap[N]? = some (.cells (MC ep' (p.2 : Int) x1 x2 (.pointer lo) (.pointer v1) x3 x4) 51) ∧ (∀ k, k ≠ N → W4.heap[k]? = w3.heap[k]?) ∧ W4.heap.size = w3.heap.size ∧ Upd N w3 W4 := by
        rw [← hw4]
        exact ⟨bset5 HV.out.2.2.1 _, fun k hk => Below.heap_setCell _ _ _ _ hk, by simp [World.setCell], (Upd.refl N w3).setCell _ _⟩
      clear hw4
      have hT : ∀ k, (S k ∨ (w2.heap.size ≤ k ∧ k < w3.heap.size)) → k ≠ N ∧ k < w3.heap.size := fun k hk => by
        have h1 := HB2.out.2.2
        have h2 := HV.out.2.2.2.2
        rcases hk with hk | hk
        · have := HS.out k hk; omega
        · omega
      have hWS : ∀ k, S k → W4.heap[k]? = w.heap[k]? := fun k hk => (hW.2.1 k (hT k (.inl hk)).1).trans (HV.out.2.2.2.1.block k (HS.out k hk))
      refine (fixT W4 (fun k => S k ∨ (w2.heap.size ≤ k ∧ k < w3.heap.size)) N ep' p x1 x2 x3 x4 l (splitT m r).1 lo v1 hW.1 (HL.out.2.2.1.frame (fun k hk => hWS k hk) (fun _ h => .inl h)) (HL.out.1.frame (fun k hk => hWS k hk) (fun _ h => .inl h)) (HV.out.1.frame (fun k hk => hW.2.1 k (hT k hk).1) (fun _ h => h)) (fun k hk => ⟨by rw [hW.2.2.1]; exact (hT k hk).2, (hT k hk).1⟩) hok.1 hok.2.1 (by have := splitT_sz m r; have := szT_nonneg (splitT m r).2; simp only [szT] at hsz; omega)).mono ?_
      rintro e w5 ⟨rfl, hti, hup, hsz5⟩
      have HF : Hid (TIn w5 (fun k => (S k ∨ (w2.heap.size ≤ k ∧ k < w3.heap.size)) ∨ k = N) (nd p l (splitT m r).1) (some ⟨N, 0, none⟩) ∧ Upd N W4 w5 ∧ w5.heap.size = W4.heap.size ∧ (∀ k, k ≠ N → W4.heap[k]? = w3.heap[k]?) ∧ W4.heap.size = w3.heap.size ∧ Upd N w3 W4) := ⟨hti, hup, hsz5, hW.2.1, hW.2.2.1, hW.2.2.2⟩
      have HT : Hid (∀ k, (S k ∨ (w2.heap.size ≤ k ∧ k < w3.heap.size)) → k ≠ N ∧ k < w3.heap.size) := hT
      clear hti hup hsz5 hW hT hWS
      go_wp2_with fail
      go_ret2
      obtain ⟨f1, f2, f3, f4, f5, f6⟩ := HF.out
      have g1 := HB2.out.2.2
      have g2 := HV.out.2.2.2.2
      have hin : ∀ k, ((S k ∨ (w2.heap.size ≤ k ∧ k < w3.heap.size)) ∨ k = N) → (S k ∨ (N ≤ k ∧ k < w5.heap.size)) := fun k hk => by
        rcases hk with (hk | hk) | hk
        · exact .inl hk
        · exact .inr (by omega)
        · exact .inr (by omega)
      have h5 : ∀ k, (S k ∨ (w2.heap.size ≤ k ∧ k < w3.heap.size)) → w5.heap[k]? = w3.heap[k]? := fun k hk => (f2.block k (by rw [f5]; exact (HT.out k hk).2) (HT.out k hk).1).trans (f4 k (HT.out k hk).1)
      have hbel : Below N w w5 := by
        have q := HV.out.2.2.2.1
        refine ⟨f2.os.trans (f6.os.trans q.os), f2.tape.trans (f6.tape.trans q.tape), f2.output.trans (f6.output.trans q.output), by have := q.size; omega, fun k hk => ?_⟩
        have := f2.block k (by omega) (by omega)
        exact this.trans ((f4 k (by omega)).trans (q.block k hk))
      refine ⟨⟨some ⟨N, 0, none⟩, v2, rfl, ?_⟩, hbel⟩
      have hs : splitT m (.node d1 d2 p l r) = (nd p l (splitT m r).1, (splitT m r).2) := by rw [splitT, if_neg (by rw [← HCC.out]; omega)]
      rw [hs]
      exact ⟨f1.frame (fun _ _ => rfl) hin, HV.out.2.1.frame h5 (fun k hk => hin k (.inl hk))⟩
end Go.Proofs.Qxb6613283a
