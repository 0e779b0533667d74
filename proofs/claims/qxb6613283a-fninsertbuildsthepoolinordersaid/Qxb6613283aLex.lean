/-
  THE PLAIN LAYER of the seat b6613283a, part 1: keys of values as lists of numbers; their order. No Go in sight.
-/
namespace Go.Proofs.Qxb6613283a

/-- The order of keys: number by number, a shorter list first: -1, 0, 1. -/
def lexS : List Int → List Int → Int
  | [], [] => 0
  | [], _ :: _ => -1
  | _ :: _, [] => 1
  | a :: as, b :: bs => if a < b then -1 else if b < a then 1 else lexS as bs

theorem lexS_refl : ∀ a : List Int, lexS a a = 0
  | [] => rfl
  | a :: as => by simp [lexS, lexS_refl as]
theorem lexS_eq : ∀ a b : List Int, lexS a b = 0 → a = b
  | [], [], _ => rfl
  | [], _ :: _, h => by simp [lexS] at h
  | _ :: _, [], h => by simp [lexS] at h
  | a :: as, b :: bs, h => by
    unfold lexS at h
    split at h
    · cases h
    · split at h
      · cases h
      · have := lexS_eq as bs h
        subst this
        have : a = b := by omega
        rw [this]
theorem lexS_zero (a b : List Int) : lexS a b = 0 ↔ a = b := ⟨lexS_eq a b, fun h => h ▸ lexS_refl a⟩
theorem lexS_neg : ∀ a b : List Int, lexS b a = - lexS a b
  | [], [] => rfl
  | [], _ :: _ => rfl
  | _ :: _, [] => rfl
  | a :: as, b :: bs => by
    have ih := lexS_neg as bs
    unfold lexS
    by_cases h1 : a < b
    · simp [h1, show ¬ b < a by omega]
    · by_cases h2 : b < a
      · simp [h1, h2]
      · simp [h1, h2, ih]
theorem lexS_range : ∀ a b : List Int, lexS a b = -1 ∨ lexS a b = 0 ∨ lexS a b = 1
  | [], [] => .inr (.inl rfl)
  | [], _ :: _ => .inl rfl
  | _ :: _, [] => .inr (.inr rfl)
  | a :: as, b :: bs => by
    unfold lexS
    split
    · exact .inl rfl
    · split
      · exact .inr (.inr rfl)
      · exact lexS_range as bs
theorem lexS_trans : ∀ a b c : List Int, lexS a b < 0 → lexS b c < 0 → lexS a c < 0
  | [], [], _, h, _ => by simp [lexS] at h
  | [], _ :: _, [], _, h => by simp [lexS] at h
  | [], _ :: _, _ :: _, _, _ => by simp [lexS]
  | _ :: _, [], _, h, _ => by simp [lexS] at h
  | _ :: _, _ :: _, [], _, h => by simp [lexS] at h
  | a :: as, b :: bs, c :: cs, h1, h2 => by
    have ih := lexS_trans as bs cs
    unfold lexS at h1 h2 ⊢
    by_cases x1 : a < b
    · by_cases y1 : b < c
      · simp [show a < c by omega]
      · by_cases y2 : c < b
        · simp [y1, y2] at h2
        · simp [show a < c by omega]
    · by_cases x2 : b < a
      · simp [x1, x2] at h1
      · by_cases y1 : b < c
        · simp [show a < c by omega]
        · by_cases y2 : c < b
          · simp [y1, y2] at h2
          · simp [x1, x2] at h1
            simp [y1, y2] at h2
            simp [show ¬ a < c by omega, show ¬ c < a by omega]
            exact ih h1 h2

/-- Neither list is a beginning of the other, unless they are one. -/
def PF (a b : List Int) : Prop := ∀ x y, a ++ x = b ++ y → a = b

theorem PF.symm {a b : List Int} (h : PF a b) : PF b a := fun x y e => (h y x e.symm).symm

theorem lexS_append : ∀ (a b x y : List Int), PF a b → lexS (a ++ x) (b ++ y) = if lexS a b = 0 then lexS x y else lexS a b
  | [], b, x, y, h => by
    have : [] = b := h b [] (by simp)
    subst this
    simp [lexS]
  | a :: as, [], x, y, h => by
    have := h [] (a :: as) (by simp)
    cases this
  | a :: as, b :: bs, x, y, h => by
    by_cases h1 : a < b
    · simp [lexS, h1]
    · by_cases h2 : b < a
      · simp [lexS, h1, h2]
      · have e : a = b := by omega
        subst e
        have hp : PF as bs := fun x y e => by
          have := h x y (by simp [e])
          simpa using this
        have ih := lexS_append as bs x y hp
        simp [lexS, ih]

theorem PF.cons_of {a b : Int} {as bs : List Int} (h : a = b → PF as bs) : PF (a :: as) (b :: bs) := fun x y e => by
  simp only [List.cons_append, List.cons.injEq] at e
  obtain ⟨rfl, e⟩ := e
  rw [h rfl x y e]

/-! ### the bytes of a string: each by one more, a 0 behind them -/
def strKey (s : List UInt8) : List Int := s.map (fun b => (b.toNat : Int) + 1) ++ [0]

theorem strKey_PF : ∀ a b : List UInt8, PF (strKey a) (strKey b)
  | [], [] => fun _ _ _ => rfl
  | [], b :: bs => fun x y e => by simp [strKey] at e; omega
  | a :: as, [] => fun x y e => by simp [strKey] at e; omega
  | a :: as, b :: bs => PF.cons_of fun _ => strKey_PF as bs

theorem strKey_inj : ∀ a b : List UInt8, strKey a = strKey b → a = b
  | [], [], _ => rfl
  | [], b :: bs, e => by simp [strKey] at e
  | a :: as, [], e => by simp [strKey] at e
  | a :: as, b :: bs, e => by
    simp only [strKey, List.map_cons, List.cons_append, List.cons.injEq] at e
    have h1 := strKey_inj as bs e.2
    have h2 : a = b := UInt8.toNat_inj.1 (by omega)
    rw [h1, h2]

/-! ### a list of keys: a 1 ahead of each, a 0 behind them all -/
def flatK : List (List Int) → List Int
  | [] => [0]
  | k :: ks => 1 :: (k ++ flatK ks)

/-- All pairs out of the two lists are prefix-free. -/
def AllPF (as bs : List (List Int)) : Prop := ∀ a, a ∈ as → ∀ b, b ∈ bs → PF a b

theorem flatK_PF : ∀ as bs : List (List Int), AllPF as bs → PF (flatK as) (flatK bs)
  | [], [], _ => fun _ _ _ => rfl
  | [], b :: bs, _ => fun x y e => by simp [flatK] at e
  | a :: as, [], _ => fun x y e => by simp [flatK] at e
  | a :: as, b :: bs, h => by
    refine PF.cons_of fun _ => fun x y e => ?_
    rw [List.append_assoc, List.append_assoc] at e
    have hab := h a (by simp) b (by simp) _ _ e
    subst hab
    have e2 := List.append_cancel_left e
    rw [flatK_PF as bs (fun p hp q hq => h p (by simp [hp]) q (by simp [hq])) x y e2]

theorem flatK_inj : ∀ as bs : List (List Int), AllPF as bs → flatK as = flatK bs → as = bs
  | [], [], _, _ => rfl
  | [], b :: bs, _, e => by simp [flatK] at e
  | a :: as, [], _, e => by simp [flatK] at e
  | a :: as, b :: bs, h, e => by
    simp only [flatK, List.cons.injEq, true_and] at e
    have hab := h a (by simp) b (by simp) _ _ e
    subst hab
    rw [flatK_inj as bs (fun p hp q hq => h p (by simp [hp]) q (by simp [hq])) (List.append_cancel_left e)]

/-- cmpInt. -/
def sgn (a b : Int) : Int := if a < b then -1 else if b < a then 1 else 0

theorem lexS_flatK_step (a b : List Int) (as bs : List (List Int)) (h : PF a b) :
    lexS (flatK (a :: as)) (flatK (b :: bs)) = if lexS a b = 0 then lexS (flatK as) (flatK bs) else lexS a b := by
  simp only [flatK, lexS]
  rw [if_neg (by omega), if_neg (by omega)]
  exact lexS_append a b _ _ h
theorem lexS_flatK_nil (as : List (List Int)) : lexS (flatK []) (flatK as) = if as = [] then 0 else -1 := by
  cases as with
  | nil => rfl
  | cons a as => simp [flatK, lexS]
theorem lexS_flatK_nil' (as : List (List Int)) : lexS (flatK as) (flatK []) = if as = [] then 0 else 1 := by
  cases as with
  | nil => rfl
  | cons a as => simp [flatK, lexS]

/-- Behind k places at which the two lists agree. -/
theorem lexS_flatK_drop : ∀ (k : Nat) (as bs : List (List Int)), k ≤ as.length → k ≤ bs.length → (∀ j, j < k → as[j]? = bs[j]?) → lexS (flatK as) (flatK bs) = lexS (flatK (as.drop k)) (flatK (bs.drop k))
  | 0, _, _, _, _, _ => rfl
  | k + 1, [], _, h, _, _ => by simp at h
  | k + 1, _ :: _, [], _, h, _ => by simp at h
  | k + 1, a :: as, b :: bs, h1, h2, h => by
    have e : a = b := by have := h 0 (by omega); simpa using this
    subst e
    rw [lexS_flatK_step a a as bs (fun _ _ _ => rfl), if_pos (lexS_refl a)]
    exact lexS_flatK_drop k as bs (by simpa using h1) (by simpa using h2) (fun j hj => by have := h (j + 1) (by omega); simpa using this)

/-- The first place at which they part says the order. -/
theorem lexS_flatK_at (k : Nat) (as bs : List (List Int)) (h1 : k < as.length) (h2 : k < bs.length) (h : ∀ j, j < k → as[j]? = bs[j]?) (hpf : AllPF as bs) (hne : lexS (as[k]) (bs[k]) ≠ 0) :
    lexS (flatK as) (flatK bs) = lexS (as[k]) (bs[k]) := by
  rw [lexS_flatK_drop k as bs (by omega) (by omega) h, List.drop_eq_getElem_cons h1, List.drop_eq_getElem_cons h2,
    lexS_flatK_step _ _ _ _ (hpf _ (List.getElem_mem h1) _ (List.getElem_mem h2)), if_neg hne]

/-- Agreeing as far as the shorter goes: the lengths say it. -/
theorem lexS_flatK_len (as bs : List (List Int)) (h : ∀ j, j < min as.length bs.length → as[j]? = bs[j]?) : lexS (flatK as) (flatK bs) = sgn as.length bs.length := by
  rw [lexS_flatK_drop (min as.length bs.length) as bs (Nat.min_le_left _ _) (Nat.min_le_right _ _) h]
  unfold sgn
  by_cases h1 : as.length < bs.length
  · rw [Nat.min_eq_left (by omega), List.drop_length, lexS_flatK_nil, if_neg (by intro e; have := congrArg List.length e; simp at this; omega), if_pos (by omega)]
  · by_cases h2 : bs.length < as.length
    · rw [Nat.min_eq_right (by omega), List.drop_length, lexS_flatK_nil', if_neg (by intro e; have := congrArg List.length e; simp at this; omega), if_neg (by omega), if_pos (by omega)]
    · have e : as.length = bs.length := by omega
      rw [Nat.min_eq_left (by omega), List.drop_length, e, List.drop_length, lexS_flatK_nil, if_pos rfl, if_neg (by omega), if_neg (by omega)]

/-! ### strings -/
theorem lexS_str : ∀ a b : List UInt8, lexS (strKey a) (strKey b) = if a < b then -1 else if b < a then 1 else 0
  | [], [] => by simp [strKey, lexS]
  | [], b :: bs => by simp [strKey, lexS]
  | a :: as, [] => by simp [strKey, lexS]; omega
  | a :: as, b :: bs => by
    have ih := lexS_str as bs
    show (if (a.toNat : Int) + 1 < (b.toNat : Int) + 1 then -1 else if (b.toNat : Int) + 1 < (a.toNat : Int) + 1 then 1 else lexS (strKey as) (strKey bs)) = _
    rw [ih]
    simp only [List.cons_lt_cons_iff]
    by_cases h1 : a < b
    · have := UInt8.lt_iff_toNat_lt.1 h1
      simp [h1, show (a.toNat : Int) + 1 < (b.toNat : Int) + 1 by omega]
    · by_cases h2 : b < a
      · have := UInt8.lt_iff_toNat_lt.1 h2
        have h3 : ¬ a = b := fun e => by subst e; exact absurd this (by omega)
        simp [h1, h2, h3, show ¬ (a.toNat : Int) < (b.toNat : Int) by omega, show (b.toNat : Int) < (a.toNat : Int) by omega]
      · have e : a = b := by
          apply UInt8.toNat_inj.1
          have g1 : ¬ a.toNat < b.toNat := fun h => h1 (UInt8.lt_iff_toNat_lt.2 h)
          have g2 : ¬ b.toNat < a.toNat := fun h => h2 (UInt8.lt_iff_toNat_lt.2 h)
          omega
        subst e
        simp

/-! ### values -/
def keyOf (k i : Int) (s : List UInt8) (ks : List (List Int)) : List Int :=
  k :: (if k = 1 then [i] else if k = 2 ∨ k = 3 then strKey s else if k = 4 then flatK ks else [])
def fullOf (k i : Int) (s : List UInt8) (isNil : Bool) (fs : List (List Int)) : List Int :=
  k :: i :: (strKey s ++ ((if isNil then 1 else 0) :: flatK fs))

/-- A key of a value whose vectors nest at most so deep. -/
def KeyN : Nat → List Int → Prop
  | 0, _ => False
  | n + 1, K => ∃ k i s ks, K = keyOf k i s ks ∧ ∀ x, x ∈ ks → KeyN n x
def FullN : Nat → List Int → Prop
  | 0, _ => False
  | n + 1, F => ∃ k i s b fs, F = fullOf k i s b fs ∧ ∀ x, x ∈ fs → FullN n x

theorem KeyN.pf : ∀ (n m : Nat) (a b : List Int), KeyN n a → KeyN m b → PF a b
  | 0, _, _, _, h, _ => h.elim
  | n + 1, 0, _, _, _, h => h.elim
  | n + 1, m + 1, a, b, ⟨k, i, s, ks, ea, ha⟩, ⟨k', i', s', ks', eb, hb⟩ => by
    subst ea eb
    refine PF.cons_of fun hk => ?_
    subst hk
    by_cases h1 : k = 1
    · simp only [h1, if_true]
      exact fun x y e => by simpa using (List.append_inj e rfl).1
    · by_cases h2 : k = 2 ∨ k = 3
      · simp only [h1, h2, if_true, if_false]
        exact strKey_PF _ _
      · by_cases h4 : k = 4
        · simp only [h4, if_true]
          have g1 : ¬ ((4 : Int) = 1) := by omega
          have g2 : ¬ ((4 : Int) = 2 ∨ (4 : Int) = 3) := by omega
          simp only [g1, g2, if_false]
          exact flatK_PF _ _ (fun p hp q hq => KeyN.pf n m p q (ha p hp) (hb q hq))
        · simp only [h1, h2, h4, if_false]
          exact fun _ _ _ => rfl
theorem FullN.pf : ∀ (n m : Nat) (a b : List Int), FullN n a → FullN m b → PF a b
  | 0, _, _, _, h, _ => h.elim
  | n + 1, 0, _, _, _, h => h.elim
  | n + 1, m + 1, a, b, ⟨k, i, s, p, fs, ea, ha⟩, ⟨k', i', s', p', fs', eb, hb⟩ => by
    subst ea eb
    refine PF.cons_of fun hk => PF.cons_of fun hi => ?_
    intro x y e
    rw [List.append_assoc, List.append_assoc] at e
    have hs := strKey_PF s s' _ _ e
    rw [hs] at e ⊢
    have e2 := List.append_cancel_left e
    simp only [List.cons_append, List.cons.injEq] at e2
    rw [e2.1, flatK_PF _ _ (fun p hp q hq => FullN.pf n m p q (ha p hp) (hb q hq)) _ _ e2.2]

/-- What cmpVal and Value.Compare answer, by the fields. -/
def cmpF (k i : Int) (s : List UInt8) (ks : List (List Int)) (k' i' : Int) (s' : List UInt8) (ks' : List (List Int)) : Int :=
  if k ≠ k' then sgn k k' else if k = 1 then sgn i i' else if k = 2 ∨ k = 3 then (if s < s' then -1 else if s' < s then 1 else 0) else if k = 4 then lexS (flatK ks) (flatK ks') else 0
theorem cmpF_eq (k i : Int) (s : List UInt8) (ks : List (List Int)) (k' i' : Int) (s' : List UInt8) (ks' : List (List Int)) :
    lexS (keyOf k i s ks) (keyOf k' i' s' ks') = cmpF k i s ks k' i' s' ks' := by
  unfold keyOf cmpF
  by_cases hk : k = k'
  · subst hk
    simp only [lexS, Int.lt_irrefl, if_false, ne_eq, not_true_eq_false]
    by_cases h1 : k = 1
    · simp only [h1, if_true]
      simp [lexS, sgn]
    · by_cases h2 : k = 2 ∨ k = 3
      · simp only [h1, h2, if_true, if_false]
        exact lexS_str s s'
      · by_cases h4 : k = 4
        · have g1 : ¬ ((4 : Int) = 1) := by omega
          have g2 : ¬ ((4 : Int) = 2 ∨ (4 : Int) = 3) := by omega
          simp only [h4, g1, g2, if_true, if_false]
        · simp only [h1, h2, h4, if_false, lexS]
  · simp only [lexS, ne_eq, hk, not_false_eq_true, if_true, sgn]
    by_cases h1 : k < k'
    · simp [h1]
    · simp [h1, show k' < k by omega]

/-! ### elements -/
/-- An element of a pool, plain. -/
structure El where
  start : Int
  fin : Int
  pend : Bool
  hv : Int
  K : List Int
  F : List Int

def El.key (e : El) : List Int := e.start :: e.fin :: (e.K ++ [if e.pend then 1 else 0])
def El.full (e : El) : List Int := e.start :: e.fin :: (if e.pend then 1 else 0) :: e.hv :: e.F

/-- What cmpElem answers, by the fields. -/
def cmpE (a b : El) : Int :=
  if sgn a.start b.start ≠ 0 then sgn a.start b.start else if sgn a.fin b.fin ≠ 0 then sgn a.fin b.fin else if lexS a.K b.K ≠ 0 then lexS a.K b.K
  else if a.pend = b.pend then 0 else if b.pend then -1 else 1
theorem cmpE_eq (a b : El) (h : PF a.K b.K) : cmpE a b = lexS a.key b.key := by
  unfold cmpE El.key
  have e1 : ∀ (x y : Int) (xs ys : List Int), lexS (x :: xs) (y :: ys) = if sgn x y ≠ 0 then sgn x y else lexS xs ys := fun x y xs ys => by
    show (if x < y then -1 else if y < x then 1 else lexS xs ys) = _
    unfold sgn
    by_cases h1 : x < y
    · simp [h1]
    · by_cases h2 : y < x
      · simp [h1, h2]
      · simp [h1, h2]
  rw [e1, e1, lexS_append _ _ _ _ h]
  congr 1
  congr 1
  by_cases h0 : lexS a.K b.K = 0
  · simp only [h0, ne_eq, not_true_eq_false, if_false, if_true]
    cases a.pend <;> cases b.pend <;> simp [lexS]
  · simp only [h0, ne_eq, not_false_eq_true, if_true, if_false]
end Go.Proofs.Qxb6613283a
