/-
  THE PLAIN LAYER of the seat b6613283a, part 2: treaps, plain; insertion, the list in order; uniqueness. No Go in sight.
-/
import Derived.Test.Qxb6613283aWalkI
import Derived.Deep.Trees
namespace Go.Proofs.Qxb6613283a
open Go.Deep (BT)

/-- The order of two elements, by their keys. -/
def cmpK (a b : El) : Int := lexS a.key b.key
/-- Whether a stands above b. -/
def abvK (a b : El) : Bool := if a.hv = b.hv then decide (0 < cmpK a b) else decide (b.hv < a.hv)

theorem cmpK_neg (a b : El) : cmpK b a = - cmpK a b := lexS_neg _ _
theorem cmpK_zero (a b : El) : cmpK a b = 0 ↔ a.key = b.key := lexS_zero _ _
theorem cmpK_trans {a b c : El} (h : cmpK a b < 0) (h' : cmpK b c < 0) : cmpK a c < 0 := lexS_trans _ _ _ h h'
theorem cmpK_key {a b c : El} (h : a.key = b.key) : cmpK a c = cmpK b c := by unfold cmpK; rw [h]
theorem cmpK_key' {a b c : El} (h : a.key = b.key) : cmpK c a = cmpK c b := by unfold cmpK; rw [h]

theorem abvK_iff (a b : El) : abvK a b = true ↔ (b.hv < a.hv ∨ (a.hv = b.hv ∧ cmpK b a < 0)) := by
  unfold abvK
  have := cmpK_neg a b
  by_cases h : a.hv = b.hv
  · simp only [h, if_true, decide_eq_true_eq, Int.lt_irrefl, false_or, true_and]
    omega
  · simp only [h, if_false, decide_eq_true_eq, false_and, or_false]
theorem abvK_trans {a b c : El} (h : abvK a b = true) (h' : abvK b c = true) : abvK a c = true := by
  rw [abvK_iff] at *
  rcases h with h | ⟨h, k⟩ <;> rcases h' with h' | ⟨h', k'⟩
  · left; omega
  · left; omega
  · left; omega
  · right; exact ⟨h.trans h', cmpK_trans k' k⟩
theorem abvK_irr {a b : El} (h : a.hv = b.hv) (h' : a.key = b.key) : ¬ abvK a b = true := by
  rw [abvK_iff]
  have := (cmpK_zero b a).2 h'.symm
  omega
theorem abvK_tot {a b : El} (h : cmpK a b ≠ 0) (h' : ¬ abvK a b = true) : abvK b a = true := by
  rw [abvK_iff] at *
  have := cmpK_neg a b
  omega
theorem abvK_key {a b a' b' : El} (h1 : a.hv = a'.hv) (h2 : a.key = a'.key) (h3 : b.hv = b'.hv) (h4 : b.key = b'.key) : abvK a b = abvK a' b' := by
  unfold abvK cmpK
  rw [h1, h2, h3, h4]

/-- The members in order. -/
def toL : BT (El × Nat) → List (El × Nat)
  | .nil => []
  | .node _ _ p l r => toL l ++ p :: toL r
def nd (p : El × Nat) (l r : BT (El × Nat)) : BT (El × Nat) := .node 0 0 p l r
def splitT (m : El) : BT (El × Nat) → BT (El × Nat) × BT (El × Nat)
  | .nil => (.nil, .nil)
  | .node _ _ p l r => if cmpK m p.1 < 0 then ((splitT m l).1, nd p (splitT m l).2 r) else (nd p l (splitT m r).1, (splitT m r).2)
def insT (m : El) : BT (El × Nat) → BT (El × Nat)
  | .nil => nd (m, 1) .nil .nil
  | .node b o p l r => if cmpK m p.1 = 0 then nd (p.1, p.2 + 1) l r else if abvK m p.1 = true then nd (m, 1) (splitT m (.node b o p l r)).1 (splitT m (.node b o p l r)).2
    else if cmpK m p.1 < 0 then nd p (insT m l) r else nd p l (insT m r)
def insL (m : El) : List (El × Nat) → List (El × Nat)
  | [] => [(m, 1)]
  | p :: L => if cmpK m p.1 < 0 then (m, 1) :: p :: L else if cmpK m p.1 = 0 then (p.1, p.2 + 1) :: L else p :: insL m L

def Srt (L : List (El × Nat)) : Prop := L.Pairwise (fun a b => cmpK a.1 b.1 < 0)
/-- No child above its parent. -/
def hpT : BT (El × Nat) → Prop
  | .nil => True
  | .node _ _ p l r => (∀ x, x ∈ toL l ++ toL r → abvK p.1 x.1 = true) ∧ hpT l ∧ hpT r

theorem insL_mem {m : El} : ∀ {L : List (El × Nat)} {x : El × Nat}, x ∈ insL m L → x.1 = m ∨ ∃ c, (x.1, c) ∈ L
  | [], x, h => by simp [insL] at h; exact .inl (by rw [h])
  | p :: L, x, h => by
    unfold insL at h
    split at h
    · rcases List.mem_cons.1 h with rfl | h
      · exact .inl rfl
      · exact .inr ⟨x.2, h⟩
    · split at h
      · rcases List.mem_cons.1 h with rfl | h
        · exact .inr ⟨p.2, by simp⟩
        · exact .inr ⟨x.2, by simp [h]⟩
      · rcases List.mem_cons.1 h with rfl | h
        · exact .inr ⟨x.2, by simp⟩
        · rcases insL_mem h with h | ⟨c, h⟩
          · exact .inl h
          · exact .inr ⟨c, by simp [h]⟩
theorem insL_srt {m : El} : ∀ {L : List (El × Nat)}, Srt L → Srt (insL m L)
  | [], _ => by simp [insL, Srt]
  | p :: L, h => by
    have h1 := List.pairwise_cons.1 h
    unfold insL
    split
    · rename_i hc
      refine List.pairwise_cons.2 ⟨fun x hx => ?_, h⟩
      rcases List.mem_cons.1 hx with rfl | hx
      · exact hc
      · exact cmpK_trans hc (h1.1 x hx)
    · split
      · exact List.pairwise_cons.2 ⟨fun x hx => h1.1 x hx, h1.2⟩
      · rename_i h2 h3
        refine List.pairwise_cons.2 ⟨fun x hx => ?_, insL_srt h1.2⟩
        rcases insL_mem hx with e | ⟨c, hx⟩
        · rw [e, cmpK_neg]; omega
        · exact h1.1 (x.1, c) hx
theorem insL_app_gt {m : El} {B : List (El × Nat)} : ∀ {A : List (El × Nat)}, (∀ x, x ∈ A → 0 < cmpK m x.1) → insL m (A ++ B) = A ++ insL m B
  | [], _ => rfl
  | p :: A, h => by
    have h0 := h p (by simp)
    rw [List.cons_append, insL, if_neg (by omega), if_neg (by omega), insL_app_gt (fun x hx => h x (by simp [hx]))]
    rfl
theorem insL_app_lt {m : El} {p : El × Nat} {B : List (El × Nat)} (hp : cmpK m p.1 < 0) : ∀ {A : List (El × Nat)}, insL m (A ++ p :: B) = insL m A ++ p :: B
  | [] => by simp [insL, hp]
  | q :: A => by
    simp only [List.cons_append, insL]
    split
    · rfl
    · split
      · rfl
      · rw [insL_app_lt hp]; rfl
theorem insL_lt {m : El} : ∀ {B : List (El × Nat)}, (∀ x, x ∈ B → cmpK m x.1 < 0) → insL m B = (m, 1) :: B
  | [], _ => rfl
  | p :: B, h => by rw [insL, if_pos (h p (by simp))]

theorem srt_parts {l r : List (El × Nat)} {p : El × Nat} (h : Srt (l ++ p :: r)) : Srt l ∧ Srt r ∧ (∀ x, x ∈ l → cmpK x.1 p.1 < 0) ∧ (∀ x, x ∈ r → cmpK p.1 x.1 < 0) := by
  obtain ⟨h1, h2, h3⟩ := List.pairwise_append.1 h
  obtain ⟨h4, h5⟩ := List.pairwise_cons.1 h2
  exact ⟨h1, h5, fun x hx => h3 x hx p (by simp), h4⟩

theorem splitT_ok {m : El} : ∀ {t : BT (El × Nat)}, Srt (toL t) → (∀ x, x ∈ toL t → cmpK m x.1 ≠ 0) →
    toL (splitT m t).1 ++ toL (splitT m t).2 = toL t ∧ (∀ x, x ∈ toL (splitT m t).1 → 0 < cmpK m x.1) ∧ (∀ x, x ∈ toL (splitT m t).2 → cmpK m x.1 < 0)
  | .nil, _, _ => ⟨rfl, fun _ h => by simp [splitT, toL] at h, fun _ h => by simp [splitT, toL] at h⟩
  | .node _ _ p l r, h, hne => by
    obtain ⟨s1, s2, s3, s4⟩ := srt_parts h
    unfold splitT
    split
    · rename_i hc
      obtain ⟨e, ha, hb⟩ := splitT_ok (t := l) s1 (fun x hx => hne x (by simp [toL, hx]))
      refine ⟨by simp only [nd, toL]; rw [← List.append_assoc, e], ha, fun x hx => ?_⟩
      simp only [nd, toL, List.mem_append, List.mem_cons] at hx
      rcases hx with hx | rfl | hx
      · exact hb x hx
      · exact hc
      · exact cmpK_trans hc (s4 x hx)
    · rename_i hc
      have hp : 0 < cmpK m p.1 := by have := hne p (by simp [toL]); omega
      obtain ⟨e, ha, hb⟩ := splitT_ok (t := r) s2 (fun x hx => hne x (by simp [toL, hx]))
      refine ⟨by simp only [nd, toL]; rw [List.append_assoc, List.cons_append, e], fun x hx => ?_, hb⟩
      simp only [nd, toL, List.mem_append, List.mem_cons] at hx
      rcases hx with hx | rfl | hx
      · have h1 : cmpK x.1 m < 0 := cmpK_trans (s3 x hx) (by rw [cmpK_neg]; omega)
        rw [cmpK_neg] at h1; omega
      · exact hp
      · exact ha x hx
theorem splitT_hp {m : El} : ∀ {t : BT (El × Nat)}, hpT t → (∀ x, x ∈ toL (splitT m t).1 ++ toL (splitT m t).2 → x ∈ toL t) ∧ hpT (splitT m t).1 ∧ hpT (splitT m t).2
  | .nil, _ => ⟨fun _ h => h, trivial, trivial⟩
  | .node _ _ p l r, ⟨h1, h2, h3⟩ => by
    unfold splitT
    split
    · obtain ⟨hm, ha, hb⟩ := splitT_hp (m := m) h2
      refine ⟨fun x hx => ?_, ha, ⟨fun x hx => ?_, hb, h3⟩⟩
      · simp only [nd, toL, List.mem_append, List.mem_cons] at hx hm ⊢
        rcases hx with hx | hx | hx | hx
        · exact .inl (hm x (.inl hx))
        · exact .inl (hm x (.inr hx))
        · exact .inr (.inl hx)
        · exact .inr (.inr hx)
      · simp only [List.mem_append] at hx hm h1
        rcases hx with hx | hx
        · exact h1 x (.inl (hm x (.inr hx)))
        · exact h1 x (.inr hx)
    · obtain ⟨hm, ha, hb⟩ := splitT_hp (m := m) h3
      refine ⟨fun x hx => ?_, ⟨fun x hx => ?_, h2, ha⟩, hb⟩
      · simp only [nd, toL, List.mem_append, List.mem_cons] at hx hm ⊢
        rcases hx with (hx | hx | hx) | hx
        · exact .inl hx
        · exact .inr (.inl hx)
        · exact .inr (.inr (hm x (.inl hx)))
        · exact .inr (.inr (hm x (.inr hx)))
      · simp only [List.mem_append] at hx hm h1
        rcases hx with hx | hx
        · exact h1 x (.inl hx)
        · exact h1 x (.inr (hm x (.inl hx)))

/-- m's hv is that of the members with its key. -/
def FitL (m : El) (L : List (El × Nat)) : Prop := ∀ x, x ∈ L → x.1.key = m.key → x.1.hv = m.hv

theorem hp_root {b o : Nat} {p : El × Nat} {l r : BT (El × Nat)} {m : El} (h : hpT (.node b o p l r)) (ha : abvK m p.1 = true) : ∀ x, x ∈ toL (.node b o p l r) → abvK m x.1 = true := fun x hx => by
  simp only [toL, List.mem_append, List.mem_cons] at hx
  rcases hx with hx | rfl | hx
  · exact abvK_trans ha (h.1 x (by simp [hx]))
  · exact ha
  · exact abvK_trans ha (h.1 x (by simp [hx]))
theorem hp_ne {t : BT (El × Nat)} {m : El} (hf : FitL m (toL t)) (ha : ∀ x, x ∈ toL t → abvK m x.1 = true) : ∀ x, x ∈ toL t → cmpK m x.1 ≠ 0 := fun x hx h0 => by
  have hk := (cmpK_zero _ _).1 h0
  exact abvK_irr (hf x hx hk.symm).symm hk (ha x hx)

theorem insT_ok {m : El} : ∀ {t : BT (El × Nat)}, Srt (toL t) → hpT t → FitL m (toL t) → toL (insT m t) = insL m (toL t) ∧ hpT (insT m t)
  | .nil, _, _, _ => ⟨rfl, fun _ h => by simp [toL] at h, trivial, trivial⟩
  | .node b o p l r, h, hh, hf => by
    obtain ⟨s1, s2, s3, s4⟩ := srt_parts h
    have hlm : 0 ≤ cmpK m p.1 → ∀ x, x ∈ toL l → 0 < cmpK m x.1 := fun h0 x hx => by
      have h3 := s3 x hx
      by_cases hz : cmpK m p.1 = 0
      · rw [cmpK_key ((cmpK_zero _ _).1 hz), cmpK_neg]; omega
      · have h1 : cmpK x.1 m < 0 := cmpK_trans h3 (by rw [cmpK_neg]; omega)
        rw [cmpK_neg] at h1; omega
    unfold insT
    split
    · rename_i hz
      refine ⟨?_, hh⟩
      simp only [nd, toL]
      rw [insL_app_gt (hlm (by omega)), insL, if_neg (by omega), if_pos hz]
    · rename_i hz
      split
      · rename_i ha
        have hab := hp_root hh ha
        have hne := hp_ne hf hab
        obtain ⟨e, g1, g2⟩ := splitT_ok (m := m) h hne
        obtain ⟨q1, q2, q3⟩ := splitT_hp (m := m) hh
        refine ⟨?_, fun x hx => hab x (q1 x hx), q2, q3⟩
        simp only [nd]
        rw [← e, insL_app_gt g1, insL_lt g2]
        rfl
      · rename_i ha
        have hpm := abvK_tot hz ha
        split
        · rename_i hc
          obtain ⟨e, ih⟩ := insT_ok (m := m) s1 hh.2.1 (fun x hx => hf x (by simp [toL, hx]))
          refine ⟨by simp only [nd, toL]; rw [e, insL_app_lt hc], fun x hx => ?_, ih, hh.2.2⟩
          rw [e] at hx
          rcases List.mem_append.1 hx with hx | hx
          · rcases insL_mem hx with e | ⟨c, hx⟩
            · rw [e]; exact hpm
            · exact hh.1 (x.1, c) (by simp [hx])
          · exact hh.1 x (by simp [hx])
        · rename_i hc
          obtain ⟨e, ih⟩ := insT_ok (m := m) s2 hh.2.2 (fun x hx => hf x (by simp [toL, hx]))
          refine ⟨by simp only [nd, toL]; rw [e, insL_app_gt (hlm (by omega)), insL, if_neg (by omega), if_neg hz], fun x hx => ?_, hh.2.1, ih⟩
          rw [e] at hx
          rcases List.mem_append.1 hx with hx | hx
          · exact hh.1 x (by simp [hx])
          · rcases insL_mem hx with e | ⟨c, hx⟩
            · rw [e]; exact hpm
            · exact hh.1 (x.1, c) (by simp [hx])

/-! ### all of a list -/
def allT (t : BT (El × Nat)) (es : List El) : BT (El × Nat) := es.foldl (fun t e => insT e t) t
def allL (L : List (El × Nat)) (es : List El) : List (El × Nat) := es.foldl (fun t e => insL e t) L
/-- hv is a function of the key. -/
def FitE (es : List El) : Prop := ∀ a, a ∈ es → ∀ b, b ∈ es → a.key = b.key → a.hv = b.hv

theorem allL_mem : ∀ {es : List El} {L : List (El × Nat)} {x : El × Nat}, x ∈ allL L es → x.1 ∈ es ∨ ∃ c, (x.1, c) ∈ L
  | [], _, x, h => .inr ⟨x.2, h⟩
  | e :: es, L, x, h => by
    rcases allL_mem (es := es) (L := insL e L) h with h | ⟨c, h⟩
    · exact .inl (by simp [h])
    · rcases insL_mem h with h | ⟨c', h⟩
      · exact .inl (by simp only at h; simp [h])
      · exact .inr ⟨c', h⟩
theorem allT_ok (E : List El) (hE : FitE E) : ∀ (es : List El) (t : BT (El × Nat)), (∀ a, a ∈ es → a ∈ E) → (∀ x, x ∈ toL t → x.1 ∈ E) → Srt (toL t) → hpT t → toL (allT t es) = allL (toL t) es ∧ hpT (allT t es) ∧ Srt (toL (allT t es))
  | [], _, _, _, hs, hh => ⟨rfl, hh, hs⟩
  | e :: es, t, h1, h2, hs, hh => by
    obtain ⟨e1, e2⟩ := insT_ok (m := e) hs hh (fun x hx hk => hE _ (h2 x hx) _ (h1 e (by simp)) hk)
    have h3 := allT_ok E hE es (insT e t) (fun a ha => h1 a (by simp [ha])) (fun x hx => by
      rw [e1] at hx
      rcases insL_mem hx with h | ⟨c, h⟩
      · rw [h]; exact h1 e (by simp)
      · exact h2 (x.1, c) h) (by rw [e1]; exact insL_srt hs) e2
    rw [e1] at h3
    exact h3

/-! ### uniqueness -/
/-- Alike, member by member. -/
def simT : BT (El × Nat) → BT (El × Nat) → Prop
  | .nil, .nil => True
  | .node _ _ p l r, .node _ _ p' l' r' => p.1.key = p'.1.key ∧ p.1.hv = p'.1.hv ∧ p.2 = p'.2 ∧ simT l l' ∧ simT r r'
  | _, _ => False
def code (x : El × Nat) : List Int × Int × Nat := (x.1.key, x.1.hv, x.2)

theorem hp_clash {b o : Nat} {p p' : El × Nat} {l r l' r' : BT (El × Nat)} (h : hpT (.node b o p l r)) (h' : hpT (.node b o p' l' r')) (h1 : code p' ∈ (toL l ++ toL r).map code) (h2 : code p ∈ (toL l' ++ toL r').map code) : False := by
  obtain ⟨x, hx, ex⟩ := List.mem_map.1 h1
  obtain ⟨y, hy, ey⟩ := List.mem_map.1 h2
  have a1 := h.1 x hx
  have a2 := h'.1 y hy
  simp only [code, Prod.mk.injEq] at ex ey
  rw [abvK_key rfl rfl ex.2.1 ex.1] at a1
  rw [abvK_key rfl rfl ey.2.1 ey.1] at a2
  exact abvK_irr rfl rfl (abvK_trans a1 a2)

theorem uniq : ∀ {t t' : BT (El × Nat)}, hpT t → hpT t' → (toL t).map code = (toL t').map code → simT t t'
  | .nil, .nil, _, _, _ => trivial
  | .nil, .node _ _ _ _ _, _, _, h => by simp [toL] at h
  | .node _ _ _ _ _, .nil, _, _, h => by simp [toL] at h
  | .node b o p l r, .node b' o' p' l' r', h, h', e => by
    simp only [toL, List.map_append, List.map_cons] at e
    have hfin : (toL l).map code = (toL l').map code → code p = code p' → (toL r).map code = (toL r').map code → simT (.node b o p l r) (.node b' o' p' l' r') := fun e1 e2 e3 => by
      simp only [code, Prod.mk.injEq] at e2
      exact ⟨e2.1, e2.2.1, e2.2.2, uniq h.2.1 h'.2.1 e1, uniq h.2.2 h'.2.2 e3⟩
    rcases List.append_eq_append_iff.1 e with ⟨s, e1, e2⟩ | ⟨s, e1, e2⟩
    · cases s with
      | nil =>
        simp only [List.append_nil, List.nil_append, List.cons.injEq] at e1 e2
        exact hfin e1.symm e2.1 e2.2
      | cons a s =>
        simp only [List.cons_append, List.cons.injEq] at e2
        exact (hp_clash (b := b) (o := o) h h' (by simp [e2.2]) (by rw [List.map_append, e1, ← e2.1]; simp)).elim
    · cases s with
      | nil =>
        simp only [List.append_nil, List.nil_append, List.cons.injEq] at e1 e2
        exact hfin e1 e2.1.symm e2.2.symm
      | cons a s =>
        simp only [List.cons_append, List.cons.injEq] at e2
        exact (hp_clash (b := b) (o := o) h h' (by rw [List.map_append, e1, ← e2.1]; simp) (by simp [e2.2])).elim

/-! ### the order of insertion does not matter -/
def insK (k : List Int) : List (List Int × Nat) → List (List Int × Nat)
  | [] => [(k, 1)]
  | p :: L => if lexS k p.1 < 0 then (k, 1) :: p :: L else if lexS k p.1 = 0 then (p.1, p.2 + 1) :: L else p :: insK k L
def kc (x : El × Nat) : List Int × Nat := (x.1.key, x.2)
theorem kc_insL (m : El) : ∀ L : List (El × Nat), (insL m L).map kc = insK m.key (L.map kc)
  | [] => rfl
  | p :: L => by
    have ih := kc_insL m L
    simp only [insL, insK, List.map_cons]
    by_cases h1 : cmpK m p.1 < 0
    · rw [if_pos h1, if_pos (show lexS m.key (kc p).1 < 0 from h1)]; rfl
    · rw [if_neg h1, if_neg (show ¬ lexS m.key (kc p).1 < 0 from h1)]
      by_cases h2 : cmpK m p.1 = 0
      · rw [if_pos h2, if_pos (show lexS m.key (kc p).1 = 0 from h2)]; rfl
      · rw [if_neg h2, if_neg (show ¬ lexS m.key (kc p).1 = 0 from h2), List.map_cons, ih]
theorem insK_comm (a b : List Int) : ∀ L : List (List Int × Nat), insK a (insK b L) = insK b (insK a L)
  | [] => by
    have n := lexS_neg a b
    simp only [insK]
    by_cases h1 : lexS a b < 0
    · rw [if_pos h1, if_neg (by omega), if_neg (by omega)]
    · by_cases h2 : lexS a b = 0
      · have e := lexS_eq _ _ h2
        subst e
        rfl
      · rw [if_neg h1, if_neg h2, if_pos (by omega)]
  | p :: L => by
    have ih := insK_comm a b L
    have n := lexS_neg a b
    by_cases e : a = b
    · subst e; rfl
    · have hne : lexS a b ≠ 0 := fun h => e (lexS_eq _ _ h)
      by_cases a1 : lexS a p.1 < 0
      · by_cases b1 : lexS b p.1 < 0
        · simp only [insK, if_pos a1, if_pos b1]
          by_cases h1 : lexS a b < 0
          · rw [if_pos h1, if_neg (by omega), if_neg (by omega)]
          · rw [if_neg h1, if_neg hne, if_pos (by omega)]
        · have hba : lexS b a > 0 := by
            by_cases b2 : lexS b p.1 = 0
            · rw [lexS_eq _ _ b2]; have := lexS_neg a p.1; omega
            · have := lexS_trans a p.1 b a1 (by have := lexS_neg b p.1; omega)
              omega
          by_cases b2 : lexS b p.1 = 0
          · simp only [insK, if_pos a1, if_neg b1, if_pos b2]
            rw [if_neg (by omega), if_neg (by omega)]
          · simp only [insK, if_pos a1, if_neg b1, if_neg b2]
            rw [if_neg (by omega), if_neg (by omega)]
      · by_cases b1 : lexS b p.1 < 0
        · have hab : lexS a b > 0 := by
            by_cases a2 : lexS a p.1 = 0
            · rw [lexS_eq _ _ a2]; have := lexS_neg b p.1; omega
            · have := lexS_trans b p.1 a b1 (by have := lexS_neg a p.1; omega)
              omega
          by_cases a2 : lexS a p.1 = 0
          · simp only [insK, if_pos b1, if_neg a1, if_pos a2]
            rw [if_neg (by omega), if_neg (by omega)]
          · simp only [insK, if_pos b1, if_neg a1, if_neg a2]
            rw [if_neg (by omega), if_neg (by omega)]
        · by_cases a2 : lexS a p.1 = 0
          · by_cases b2 : lexS b p.1 = 0
            · exact (e ((lexS_eq _ _ a2).trans (lexS_eq _ _ b2).symm)).elim
            · simp only [insK, if_neg b1, if_neg b2, if_neg a1, if_pos a2]
          · by_cases b2 : lexS b p.1 = 0
            · simp only [insK, if_neg b1, if_pos b2, if_neg a1, if_neg a2]
            · simp only [insK, if_neg b1, if_neg b2, if_neg a1, if_neg a2, ih]
theorem kc_allL : ∀ (es : List El) (L : List (El × Nat)), (allL L es).map kc = es.foldl (fun q e => insK e.key q) (L.map kc)
  | [], _ => rfl
  | e :: es, L => by
    show (allL (insL e L) es).map kc = _
    rw [kc_allL es, kc_insL]
    rfl
theorem code_of_kc : ∀ {A B : List (El × Nat)}, A.map kc = B.map kc → (∀ x, x ∈ A → ∀ y, y ∈ B → x.1.key = y.1.key → x.1.hv = y.1.hv) → A.map code = B.map code
  | [], [], _, _ => rfl
  | [], _ :: _, h, _ => by simp at h
  | _ :: _, [], h, _ => by simp at h
  | x :: A, y :: B, h, hf => by
    simp only [List.map_cons, List.cons.injEq] at h ⊢
    have e : x.1.key = y.1.key ∧ x.2 = y.2 := by simpa [kc] using h.1
    refine ⟨?_, code_of_kc h.2 (fun p hp q hq => hf p (by simp [hp]) q (by simp [hq]))⟩
    simp only [code]
    rw [e.1, e.2, hf x (by simp) y (by simp) e.1]

/-- Inserted in another order: alike, member by member. -/
theorem allT_perm {es es' : List El} (hp : es.Perm es') (hf : FitE es) : simT (allT .nil es) (allT .nil es') := by
  have hf' : FitE es' := fun a ha b hb => hf a (hp.mem_iff.2 ha) b (hp.mem_iff.2 hb)
  obtain ⟨e1, g1, s1⟩ := allT_ok es hf es .nil (fun _ h => h) (fun _ h => by simp [toL] at h) List.Pairwise.nil trivial
  obtain ⟨e2, g2, s2⟩ := allT_ok es' hf' es' .nil (fun _ h => h) (fun _ h => by simp [toL] at h) List.Pairwise.nil trivial
  refine uniq g1 g2 ?_
  rw [e1, e2]
  refine code_of_kc ?_ (fun x hx y hy => ?_)
  · rw [kc_allL, kc_allL]
    exact hp.foldl_eq' (fun x _ y _ z => insK_comm y.key x.key z) _
  · have h1 : x.1 ∈ es := by rcases allL_mem hx with h | ⟨c, h⟩; exact h; simp [toL] at h
    have h2 : y.1 ∈ es' := by rcases allL_mem hy with h | ⟨c, h⟩; exact h; simp [toL] at h
    exact hf _ h1 _ (hp.mem_iff.2 h2)
end Go.Proofs.Qxb6613283a
