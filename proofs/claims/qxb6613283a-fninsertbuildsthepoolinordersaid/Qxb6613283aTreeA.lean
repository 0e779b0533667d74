/-
  THE PLAIN LAYER of the seat b6613283a, part 3: what a treap's members sum up to. No Go in sight.
-/
import Derived.Test.Qxb6613283aTree
namespace Go.Proofs.Qxb6613283a
open Go.Deep (BT)

def minI (a b : Int) : Int := if b < a then b else a
theorem minI_eq (a b : Int) : minI a b = min a b := by unfold minI; split <;> omega
/-- never. -/
def MX : Int := 9223372036854775807

def szT : BT (El × Nat) → Int
  | .nil => 0
  | .node _ _ p l r => p.2 + szT l + szT r
def fmT : BT (El × Nat) → Int
  | .nil => 0
  | .node _ _ p l r => (if p.1.pend then 0 else (p.2 : Int)) + fmT l + fmT r
def meT : BT (El × Nat) → Int
  | .nil => 9223372036854775807
  | .node _ _ p l r => minI (minI (if p.1.pend then 9223372036854775807 else p.1.fin) (meT l)) (meT r)
def smT : BT (El × Nat) → Int
  | .nil => 0
  | .node _ _ p l r => addM (addM ((p.1.hv * p.2) % MP) (smT l)) (smT r)

/-- Elements as Go's types hold them. -/
def OkE (e : El) : Prop := 0 ≤ e.hv ∧ e.hv < MP ∧ e.fin ≤ 9223372036854775807
def OkT : BT (El × Nat) → Prop
  | .nil => True
  | .node _ _ p l r => OkE p.1 ∧ OkT l ∧ OkT r

theorem szT_nonneg : ∀ t : BT (El × Nat), 0 ≤ szT t
  | .nil => Int.le_refl _
  | .node _ _ p l r => by have := szT_nonneg l; have := szT_nonneg r; simp only [szT]; omega
theorem fmT_range : ∀ t : BT (El × Nat), 0 ≤ fmT t ∧ fmT t ≤ szT t
  | .nil => ⟨Int.le_refl _, Int.le_refl _⟩
  | .node _ _ p l r => by
    have := fmT_range l; have := fmT_range r
    simp only [fmT, szT]
    split <;> omega
theorem meT_le : ∀ t : BT (El × Nat), OkT t → meT t ≤ 9223372036854775807
  | .nil, _ => Int.le_refl _
  | .node _ _ p l r, h => by
    have h1 := meT_le l h.2.1; have h2 := meT_le r h.2.2
    simp only [meT, minI_eq]
    omega
theorem addM_range (a b : Int) : 0 ≤ addM a b ∧ addM a b < MP := ⟨Int.emod_nonneg _ (by unfold MP; omega), Int.emod_lt_of_pos _ (by unfold MP; omega)⟩
theorem smT_range : ∀ t : BT (El × Nat), 0 ≤ smT t ∧ smT t < MP
  | .nil => by simp only [smT]; unfold MP; omega
  | .node _ _ p l r => addM_range _ _

theorem splitT_sz (m : El) : ∀ t : BT (El × Nat), szT (splitT m t).1 + szT (splitT m t).2 = szT t
  | .nil => rfl
  | .node _ _ p l r => by
    have h1 := splitT_sz m l
    have h2 := splitT_sz m r
    unfold splitT
    split <;> simp only [nd, szT] <;> omega
theorem insT_sz (m : El) : ∀ t : BT (El × Nat), szT (insT m t) = szT t + 1
  | .nil => rfl
  | .node b o p l r => by
    have h1 := insT_sz m l
    have h2 := insT_sz m r
    unfold insT
    split
    · simp only [nd, szT]; omega
    · split
      · have := splitT_sz m (.node b o p l r)
        simp only [nd, szT] at this ⊢; omega
      · split <;> simp only [nd, szT] <;> omega
theorem splitT_okT (m : El) : ∀ t : BT (El × Nat), OkT t → OkT (splitT m t).1 ∧ OkT (splitT m t).2
  | .nil, _ => ⟨trivial, trivial⟩
  | .node _ _ p l r, h => by
    have h1 := splitT_okT m l h.2.1
    have h2 := splitT_okT m r h.2.2
    unfold splitT
    split
    · exact ⟨h1.1, h.1, h1.2, h.2.2⟩
    · exact ⟨⟨h.1, h.2.1, h2.1⟩, h2.2⟩
theorem insT_okT (m : El) (hm : OkE m) : ∀ t : BT (El × Nat), OkT t → OkT (insT m t)
  | .nil, _ => ⟨hm, trivial, trivial⟩
  | .node b o p l r, h => by
    have h1 := insT_okT m hm l h.2.1
    have h2 := insT_okT m hm r h.2.2
    unfold insT
    split
    · exact h
    · split
      · have := splitT_okT m _ h
        exact ⟨hm, this.1, this.2⟩
      · split
        · exact ⟨h.1, h1, h.2.2⟩
        · exact ⟨h.1, h.2.1, h2⟩

/-! ### over the list in order -/
def szL (L : List (El × Nat)) : Int := (L.map (fun x => (x.2 : Int))).sum
def fmL (L : List (El × Nat)) : Int := (L.map (fun x => if x.1.pend then 0 else (x.2 : Int))).sum
def suL (L : List (El × Nat)) : Int := (L.map (fun x => x.1.hv * (x.2 : Int))).sum
def meV (e : El) : Int := if e.pend then 9223372036854775807 else e.fin
def meL : List (El × Nat) → Int
  | [] => 9223372036854775807
  | x :: L => minI (meV x.1) (meL L)

theorem meL_app : ∀ (A B : List (El × Nat)), (∀ x, x ∈ B → x.1.fin ≤ 9223372036854775807) → meL (A ++ B) = minI (meL A) (meL B)
  | [], B, h => by
    have : meL B ≤ 9223372036854775807 := by
      cases B with
      | nil => exact Int.le_refl _
      | cons x B =>
        have := h x (by simp)
        simp only [meL, minI_eq, meV]
        split <;> omega
    simp only [List.nil_append, meL, minI_eq]; omega
  | x :: A, B, h => by
    have := meL_app A B h
    simp only [List.cons_append, meL, minI_eq] at this ⊢
    rw [this]; omega
theorem OkT_mem : ∀ (t : BT (El × Nat)), OkT t → ∀ x, x ∈ toL t → OkE x.1
  | .nil, _, _, h => by simp [toL] at h
  | .node _ _ p l r, h, x, hx => by
    simp only [toL, List.mem_append, List.mem_cons] at hx
    rcases hx with hx | rfl | hx
    · exact OkT_mem l h.2.1 x hx
    · exact h.1
    · exact OkT_mem r h.2.2 x hx
theorem szT_L : ∀ t : BT (El × Nat), szT t = szL (toL t)
  | .nil => rfl
  | .node _ _ p l r => by
    have h1 := szT_L l; have h2 := szT_L r
    simp only [szT, toL, szL, List.map_append, List.map_cons, List.sum_append, List.sum_cons] at h1 h2 ⊢
    omega
theorem fmT_L : ∀ t : BT (El × Nat), fmT t = fmL (toL t)
  | .nil => rfl
  | .node _ _ p l r => by
    have h1 := fmT_L l; have h2 := fmT_L r
    simp only [fmT, toL, fmL, List.map_append, List.map_cons, List.sum_append, List.sum_cons] at h1 h2 ⊢
    omega
theorem meT_L : ∀ t : BT (El × Nat), OkT t → meT t = meL (toL t)
  | .nil, _ => rfl
  | .node _ _ p l r, h => by
    have h1 := meT_L l h.2.1; have h2 := meT_L r h.2.2
    simp only [toL]
    rw [meL_app _ _ (fun x hx => by
      rcases List.mem_cons.1 hx with rfl | hx
      · exact h.1.2.2
      · exact (OkT_mem r h.2.2 x hx).2.2)]
    simp only [meT, meL, h1, h2, minI_eq, meV]
    omega
theorem addM_emod (a b : Int) : addM (a % MP) (b % MP) = (a + b) % MP := by unfold addM; rw [← Int.add_emod]
theorem smT_L : ∀ t : BT (El × Nat), smT t = suL (toL t) % MP
  | .nil => rfl
  | .node _ _ p l r => by
    have h1 := smT_L l; have h2 := smT_L r
    simp only [smT, toL, suL, List.map_append, List.map_cons, List.sum_append, List.sum_cons] at h1 h2 ⊢
    rw [h1, h2, addM_emod, addM_emod]
    congr 1
    omega

theorem key_fin {a b : El} (h : a.key = b.key) : a.fin = b.fin := by
  simp only [El.key, List.cons.injEq] at h; exact h.2.1
theorem key_pend {a b : El} (h : a.key = b.key) : a.pend = b.pend := by
  simp only [El.key, List.cons.injEq] at h
  have h2 := List.append_inj_right' h.2.2 rfl
  cases ha : a.pend <;> cases hb : b.pend <;> simp [ha, hb] at h2 <;> rfl

theorem insL_sz (m : El) : ∀ L : List (El × Nat), szL (insL m L) = szL L + 1
  | [] => rfl
  | p :: L => by
    have ih := insL_sz m L
    simp only [insL]
    split
    · simp only [szL, List.map_cons, List.sum_cons]; omega
    · split
      · simp only [szL, List.map_cons, List.sum_cons]; omega
      · simp only [szL, List.map_cons, List.sum_cons] at ih ⊢; omega
theorem insL_fm (m : El) : ∀ L : List (El × Nat), fmL (insL m L) = fmL L + (if m.pend then 0 else 1)
  | [] => by simp [insL, fmL]
  | p :: L => by
    have ih := insL_fm m L
    simp only [insL]
    split
    · simp only [fmL, List.map_cons, List.sum_cons]; cases m.pend <;> simp <;> omega
    · split
      · rename_i h
        rw [key_pend ((cmpK_zero _ _).1 h)]
        simp only [fmL, List.map_cons, List.sum_cons]; cases p.1.pend <;> simp <;> omega
      · simp only [fmL, List.map_cons, List.sum_cons] at ih ⊢; omega
theorem insL_su (m : El) : ∀ L : List (El × Nat), FitL m L → suL (insL m L) = suL L + m.hv
  | [], _ => by simp [insL, suL]
  | p :: L, hf => by
    have ih := insL_su m L (fun x hx => hf x (by simp [hx]))
    simp only [insL]
    split
    · simp only [suL, List.map_cons, List.sum_cons]; simp; omega
    · split
      · rename_i h
        have e := hf p (by simp) ((cmpK_zero _ _).1 h).symm
        simp only [suL, List.map_cons, List.sum_cons]
        rw [e]
        have : m.hv * ((p.2 + 1 : Nat) : Int) = m.hv * (p.2 : Int) + m.hv := by rw [Int.natCast_add, Int.mul_add]; simp
        omega
      · simp only [suL, List.map_cons, List.sum_cons] at ih ⊢; omega
theorem insL_me (m : El) (hm : m.fin ≤ 9223372036854775807) : ∀ L : List (El × Nat), meL (insL m L) = minI (meL L) (meV m)
  | [] => by
    simp only [insL, meL, minI_eq]
    have : meV m ≤ 9223372036854775807 := by unfold meV; split <;> omega
    omega
  | p :: L => by
    have ih := insL_me m hm L
    simp only [insL]
    split
    · simp only [meL, minI_eq]; omega
    · split
      · rename_i h
        have hk := (cmpK_zero _ _).1 h
        have e : meV m = meV p.1 := by unfold meV; rw [key_pend hk, key_fin hk]
        simp only [meL, minI_eq, e]; omega
      · simp only [meL, ih, minI_eq]; omega

/-- rootIs's three numbers, over the given elements. -/
def rootF (es : List El) : Int := es.foldl (fun f e => if e.pend then f else f + 1) 0
def rootM (es : List El) : Int := es.foldl (fun q e => if e.pend then q else if e.fin < q then e.fin else q) 9223372036854775807
def rootS (es : List El) : Int := es.foldl (fun s e => addM s e.hv) 0

theorem allL_agg (E : List El) (hE : FitE E) (hO : ∀ e, e ∈ E → OkE e) : ∀ (es : List El) (L : List (El × Nat)), (∀ a, a ∈ es → a ∈ E) → (∀ x, x ∈ L → x.1 ∈ E) → meL L ≤ 9223372036854775807 →
    szL (allL L es) = szL L + es.length ∧ fmL (allL L es) = es.foldl (fun f e => if e.pend then f else f + 1) (fmL L) ∧
    meL (allL L es) = es.foldl (fun q e => if e.pend then q else if e.fin < q then e.fin else q) (meL L) ∧ suL (allL L es) % MP = es.foldl (fun s e => addM s e.hv) (suL L % MP)
  | [], L, _, _, _ => ⟨by simp [allL], rfl, rfl, rfl⟩
  | e :: es, L, h1, h2, h3 => by
    have hok := hO e (h1 e (by simp))
    have hL' : ∀ x, x ∈ insL e L → x.1 ∈ E := fun x hx => by
      rcases insL_mem hx with h | ⟨c, h⟩
      · rw [h]; exact h1 e (by simp)
      · exact h2 (x.1, c) h
    have hme := insL_me e hok.2.2 L
    have ih := allL_agg E hE hO es (insL e L) (fun a ha => h1 a (by simp [ha])) hL' (by rw [hme, minI_eq]; omega)
    rw [insL_sz, insL_fm, hme, insL_su e L (fun x hx hk => hE _ (h2 x hx) _ (h1 e (by simp)) hk)] at ih
    obtain ⟨g1, g2, g3, g4⟩ := ih
    refine ⟨?_, ?_, ?_, ?_⟩
    · show szL (allL (insL e L) es) = _
      rw [g1]; simp only [List.length_cons]; omega
    · show fmL (allL (insL e L) es) = _
      rw [g2, List.foldl_cons]
      congr 1
      cases e.pend <;> simp
    · show meL (allL (insL e L) es) = _
      rw [g3, List.foldl_cons]
      congr 1
      unfold minI meV
      cases hp : e.pend
      · simp
      · simp only [if_true]
        rw [if_neg (by omega)]
    · show suL (allL (insL e L) es) % MP = _
      rw [g4, List.foldl_cons]
      congr 1
      unfold addM
      rw [Int.emod_add_emod]

theorem allT_okT : ∀ (es : List El) (t : BT (El × Nat)), (∀ e, e ∈ es → OkE e) → OkT t → OkT (allT t es)
  | [], _, _, h => h
  | e :: es, t, h1, h => allT_okT es (insT e t) (fun a ha => h1 a (by simp [ha])) (insT_okT e (h1 e (by simp)) t h)
theorem allT_sz : ∀ (es : List El) (t : BT (El × Nat)), szT (allT t es) = szT t + es.length
  | [], _ => by simp [allT]
  | e :: es, t => by
    have := allT_sz es (insT e t)
    rw [insT_sz] at this
    show szT (allT (insT e t) es) = _
    rw [this, List.length_cons]; omega

/-- The root's four numbers. -/
theorem allT_root {es : List El} (hE : FitE es) (hO : ∀ e, e ∈ es → OkE e) : szT (allT .nil es) = es.length ∧ fmT (allT .nil es) = rootF es ∧ meT (allT .nil es) = rootM es ∧ smT (allT .nil es) = rootS es := by
  obtain ⟨e1, g1, s1⟩ := allT_ok es hE es .nil (fun _ h => h) (fun _ h => by simp [toL] at h) List.Pairwise.nil trivial
  obtain ⟨h1, h2, h3, h4⟩ := allL_agg es hE hO es [] (fun _ h => h) (fun _ h => by simp at h) (Int.le_refl _)
  rw [szT_L, fmT_L, meT_L _ (allT_okT es .nil hO trivial), smT_L, e1]
  refine ⟨?_, h2, h3, h4⟩
  show szL (allL [] es) = _
  rw [h1]; simp [szL]

/-- Alike trees sum up alike. -/
theorem simT_agg : ∀ {t t' : BT (El × Nat)}, simT t t' → szT t = szT t' ∧ fmT t = fmT t' ∧ meT t = meT t' ∧ smT t = smT t'
  | .nil, .nil, _ => ⟨rfl, rfl, rfl, rfl⟩
  | .nil, .node _ _ _ _ _, h => h.elim
  | .node _ _ _ _ _, .nil, h => h.elim
  | .node _ _ p l r, .node _ _ p' l' r', ⟨h1, h2, h3, h4, h5⟩ => by
    obtain ⟨a1, a2, a3, a4⟩ := simT_agg h4
    obtain ⟨b1, b2, b3, b4⟩ := simT_agg h5
    simp only [szT, fmT, meT, smT]
    rw [a1, a2, a3, a4, b1, b2, b3, b4, h2, h3, key_pend h1, key_fin h1]
    exact ⟨rfl, rfl, rfl, rfl⟩
/-- A tree's depth. -/
def dpT : BT (El × Nat) → Nat
  | .nil => 0
  | .node _ _ _ l r => max (dpT l) (dpT r) + 1
/-- Every count is at least one. -/
def ctT : BT (El × Nat) → Prop
  | .nil => True
  | .node _ _ p l r => 1 ≤ p.2 ∧ ctT l ∧ ctT r
theorem splitT_ct (m : El) : ∀ t : BT (El × Nat), ctT t → ctT (splitT m t).1 ∧ ctT (splitT m t).2
  | .nil, _ => ⟨trivial, trivial⟩
  | .node _ _ p l r, h => by
    have h1 := splitT_ct m l h.2.1
    have h2 := splitT_ct m r h.2.2
    unfold splitT
    split
    · exact ⟨h1.1, h.1, h1.2, h.2.2⟩
    · exact ⟨⟨h.1, h.2.1, h2.1⟩, h2.2⟩
theorem insT_ct (m : El) : ∀ t : BT (El × Nat), ctT t → ctT (insT m t)
  | .nil, _ => ⟨Nat.le_refl _, trivial, trivial⟩
  | .node b o p l r, h => by
    have h1 := insT_ct m l h.2.1
    have h2 := insT_ct m r h.2.2
    unfold insT
    split
    · exact ⟨by simp, h.2.1, h.2.2⟩
    · split
      · have := splitT_ct m _ h
        exact ⟨Nat.le_refl _, this.1, this.2⟩
      · split
        · exact ⟨h.1, h1, h.2.2⟩
        · exact ⟨h.1, h.2.1, h2⟩
theorem allT_ct : ∀ (es : List El) (t : BT (El × Nat)), ctT t → ctT (allT t es)
  | [], _, h => h
  | e :: es, t, h => allT_ct es (insT e t) (insT_ct e t h)
theorem dpT_le : ∀ t : BT (El × Nat), ctT t → (dpT t : Int) ≤ szT t
  | .nil, _ => Int.le_refl _
  | .node _ _ p l r, h => by
    have h1 := dpT_le l h.2.1
    have h2 := dpT_le r h.2.2
    have := h.1
    have := szT_nonneg l
    have := szT_nonneg r
    simp only [dpT, szT]
    omega
end Go.Proofs.Qxb6613283a
