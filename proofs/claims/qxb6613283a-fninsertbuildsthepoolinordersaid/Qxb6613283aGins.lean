/-
  STORES INTO A SLICE OF COUNTED ELEMENTS; the insertion's plain laws.
-/
import Derived.Test.Qxb6613283aGin
namespace Go.Proofs.Qxb6613283a
open Go.RowKit

/-- Nine cells stored, one behind another. -/
def set9 (w : World) (g o : Nat) (x0 x1 x2 x3 x4 x5 x6 x7 x8 : Value) : World :=
  ((((((((w.setCell ⟨g, o, none⟩ x0).setCell ⟨g, o + 1, none⟩ x1).setCell ⟨g, o + 2, none⟩ x2).setCell ⟨g, o + 3, none⟩ x3).setCell ⟨g, o + 4, none⟩ x4).setCell ⟨g, o + 5, none⟩ x5).setCell ⟨g, o + 6, none⟩ x6).setCell ⟨g, o + 7, none⟩ x7).setCell ⟨g, o + 8, none⟩ x8
theorem set9_other (w : World) (g o : Nat) (x0 x1 x2 x3 x4 x5 x6 x7 x8 : Value) (k : Nat) (hk : k ≠ g) : (set9 w g o x0 x1 x2 x3 x4 x5 x6 x7 x8).heap[k]? = w.heap[k]? :=
  (Below.heap_setCell _ _ _ _ hk).trans ((Below.heap_setCell _ _ _ _ hk).trans ((Below.heap_setCell _ _ _ _ hk).trans ((Below.heap_setCell _ _ _ _ hk).trans ((Below.heap_setCell _ _ _ _ hk).trans ((Below.heap_setCell _ _ _ _ hk).trans ((Below.heap_setCell _ _ _ _ hk).trans ((Below.heap_setCell _ _ _ _ hk).trans (Below.heap_setCell _ _ _ _ hk))))))))
theorem set9_size (w : World) (g o : Nat) (x0 x1 x2 x3 x4 x5 x6 x7 x8 : Value) : (set9 w g o x0 x1 x2 x3 x4 x5 x6 x7 x8).heap.size = w.heap.size := by simp [set9, World.setCell]
def arr9 (cur : Array Value) (o : Nat) (x0 x1 x2 x3 x4 x5 x6 x7 x8 : Value) : Array Value :=
  ((((((((cur.setIfInBounds o x0).setIfInBounds (o + 1) x1).setIfInBounds (o + 2) x2).setIfInBounds (o + 3) x3).setIfInBounds (o + 4) x4).setIfInBounds (o + 5) x5).setIfInBounds (o + 6) x6).setIfInBounds (o + 7) x7).setIfInBounds (o + 8) x8
theorem set9_at {w : World} {g : Nat} {cur : Array Value} {T : TypeId} (h : w.heap[g]? = some (.cells cur T)) (o : Nat) (x0 x1 x2 x3 x4 x5 x6 x7 x8 : Value) : (set9 w g o x0 x1 x2 x3 x4 x5 x6 x7 x8).heap[g]? = some (.cells (arr9 cur o x0 x1 x2 x3 x4 x5 x6 x7 x8) T) :=
  bset (bset (bset (bset (bset (bset (bset (bset (bset h _ _) _ _) _ _) _ _) _ _) _ _) _ _) _ _) _ _
theorem arr9_other (cur : Array Value) (o : Nat) (x0 x1 x2 x3 x4 x5 x6 x7 x8 : Value) (k : Nat) (h : k < o ∨ o + 9 ≤ k) : (arr9 cur o x0 x1 x2 x3 x4 x5 x6 x7 x8)[k]? = cur[k]? := by
  unfold arr9
  rw [Array.getElem?_setIfInBounds_ne (by omega), Array.getElem?_setIfInBounds_ne (by omega), Array.getElem?_setIfInBounds_ne (by omega), Array.getElem?_setIfInBounds_ne (by omega), Array.getElem?_setIfInBounds_ne (by omega), Array.getElem?_setIfInBounds_ne (by omega), Array.getElem?_setIfInBounds_ne (by omega), Array.getElem?_setIfInBounds_ne (by omega), Array.getElem?_setIfInBounds_ne (by omega)]
theorem arr9_at (cur : Array Value) (o : Nat) (x0 x1 x2 x3 x4 x5 x6 x7 x8 : Value) (ho : o + 9 ≤ cur.size) : ∀ t, t < 9 → (arr9 cur o x0 x1 x2 x3 x4 x5 x6 x7 x8)[o + t]? = [x0, x1, x2, x3, x4, x5, x6, x7, x8][t]? := by
  intro t ht
  unfold arr9
  match t, ht with
  | 0, _ => simp [Array.getElem?_setIfInBounds]; omega
  | 1, _ => simp [Array.getElem?_setIfInBounds]; omega
  | 2, _ => simp [Array.getElem?_setIfInBounds]; omega
  | 3, _ => simp [Array.getElem?_setIfInBounds]; omega
  | 4, _ => simp [Array.getElem?_setIfInBounds]; omega
  | 5, _ => simp [Array.getElem?_setIfInBounds]; omega
  | 6, _ => simp [Array.getElem?_setIfInBounds]; omega
  | 7, _ => simp [Array.getElem?_setIfInBounds]; omega
  | 8, _ => simp [Array.getElem?_setIfInBounds]; omega
theorem arr9_size (cur : Array Value) (o : Nat) (x0 x1 x2 x3 x4 x5 x6 x7 x8 : Value) : (arr9 cur o x0 x1 x2 x3 x4 x5 x6 x7 x8).size = cur.size := by simp [arr9]

/-- An entry stored. -/
theorem GIn.set {w : World} {S : Nat → Prop} {B : Nat} {T : TypeId} {f : Nat → Value} {g n cap : Nat} {L : List (El × Nat)} (h : GIn w S B T f (.slice (some ⟨g, 0, none⟩) n cap) L) (hS : ∀ k, S k → k ≠ g) {i : Nat} (hi : i < L.length) {p : El × Nat} {c0 c1 c2 c3 : Value}
    (he : EIn w S #[c0, c1, c2, c3, .int .i64 p.1.start, .int .i64 p.1.fin, .bool p.1.pend, .int .u64 p.1.hv] p.1) :
    GIn (set9 w g (i * 9) c0 c1 c2 c3 (.int .i64 p.1.start) (.int .i64 p.1.fin) (.bool p.1.pend) (.int .u64 p.1.hv) (f p.2)) S B T f (.slice (some ⟨g, 0, none⟩) n cap) (L.set i p) := by
  rcases h with ⟨h, _⟩ | ⟨g', cap', cur, hv, h1, h2, h3, h4, h5, h6⟩
  · simp at h
  · simp only [Value.slice.injEq, Option.some.injEq, Addr.mk.injEq, and_true] at hv
    obtain ⟨rfl, rfl, rfl⟩ := hv
    have hb : (i + 1) * 9 ≤ cap * 9 := Nat.mul_le_mul_right _ (by omega)
    have hfr : ∀ k, S k → (set9 w g (i * 9) c0 c1 c2 c3 (.int .i64 p.1.start) (.int .i64 p.1.fin) (.bool p.1.pend) (.int .u64 p.1.hv) (f p.2)).heap[k]? = w.heap[k]? := fun k hk => set9_other _ _ _ _ _ _ _ _ _ _ _ _ k (hS k hk)
    refine .inr ⟨g, cap, _, by simp, h1, set9_at h2 _ _ _ _ _ _ _ _ _ _, by simpa using h3, h4, by rw [arr9_size]; exact h5, fun j q hj => ?_⟩
    rw [List.getElem?_set] at hj
    by_cases hij : i = j
    · subst hij
      rw [if_pos rfl, if_pos hi] at hj
      cases hj
      have ha := arr9_at cur (i * 9) c0 c1 c2 c3 (.int .i64 p.1.start) (.int .i64 p.1.fin) (.bool p.1.pend) (.int .u64 p.1.hv) (f p.2) (by omega)
      exact ⟨c0, c1, c2, c3, ha 0 (by omega), ha 1 (by omega), ha 2 (by omega), ha 3 (by omega), ha 4 (by omega), ha 5 (by omega), ha 6 (by omega), ha 7 (by omega), ha 8 (by omega), he.frame hfr (fun _ h => h)⟩
    · rw [if_neg hij] at hj
      refine ((h6 j q hj).at (fun t ht => ?_)).frame hfr (fun _ h => h)
      exact arr9_other _ _ _ _ _ _ _ _ _ _ _ _ (by omega)
/-- A count raised. -/
theorem GIn.count {w : World} {S : Nat → Prop} {B : Nat} {T : TypeId} {f : Nat → Value} {g n cap : Nat} {L : List (El × Nat)} (h : GIn w S B T f (.slice (some ⟨g, 0, none⟩) n cap) L) (hS : ∀ k, S k → k ≠ g) {i : Nat} {p : El × Nat} (hi : L[i]? = some p) (c : Nat) :
    GIn (w.setCell ⟨g, i * 9 + 8, none⟩ (f c)) S B T f (.slice (some ⟨g, 0, none⟩) n cap) (L.set i (p.1, c)) := by
  rcases h with ⟨h, _⟩ | ⟨g', cap', cur, hv, h1, h2, h3, h4, h5, h6⟩
  · simp at h
  · simp only [Value.slice.injEq, Option.some.injEq, Addr.mk.injEq, and_true] at hv
    obtain ⟨rfl, rfl, rfl⟩ := hv
    have hil := (List.getElem?_eq_some_iff.1 hi).1
    have hb : (i + 1) * 9 ≤ cap * 9 := Nat.mul_le_mul_right _ (by omega)
    have hfr : ∀ k, S k → (w.setCell ⟨g, i * 9 + 8, none⟩ (f c)).heap[k]? = w.heap[k]? := fun k hk => Below.heap_setCell _ _ _ _ (hS k hk)
    refine .inr ⟨g, cap, _, by simp, h1, bset h2 _ _, by simpa using h3, h4, by simpa using h5, fun j q hj => ?_⟩
    rw [List.getElem?_set] at hj
    by_cases hij : i = j
    · subst hij
      rw [if_pos rfl, if_pos hil] at hj
      cases hj
      obtain ⟨c0, c1, c2, c3, a0, a1, a2, a3, a4, a5, a6, a7, a8, he⟩ := h6 i p hi
      have hne : ∀ t, t < 8 → (cur.setIfInBounds (i * 9 + 8) (f c))[i * 9 + t]? = cur[i * 9 + t]? := fun t ht => Array.getElem?_setIfInBounds_ne (by omega)
      exact ⟨c0, c1, c2, c3, (hne 0 (by omega)).trans a0, (hne 1 (by omega)).trans a1, (hne 2 (by omega)).trans a2, (hne 3 (by omega)).trans a3, (hne 4 (by omega)).trans a4, (hne 5 (by omega)).trans a5, (hne 6 (by omega)).trans a6, (hne 7 (by omega)).trans a7, by simp [Array.getElem?_setIfInBounds]; omega, he.frame hfr (fun _ h => h)⟩
    · rw [if_neg hij] at hj
      refine ((h6 j q hj).at (fun t ht => ?_)).frame hfr (fun _ h => h)
      exact Array.getElem?_setIfInBounds_ne (by omega)

/-! ### the insertion, plain -/
theorem take_drop_of {M : List (El × Nat)} {j : Nat} {p : El × Nat} (h : M[j]? = some p) : M = M.take j ++ p :: M.drop (j + 1) := by
  obtain ⟨hl, e⟩ := List.getElem?_eq_some_iff.1 h
  conv => lhs; rw [← List.take_append_drop j M, List.drop_eq_getElem_cons hl, e]
theorem insL_found {M : List (El × Nat)} (hs : Srt M) {e : El} {j : Nat} {p : El × Nat} (h : M[j]? = some p) (hz : cmpK e p.1 = 0) : insL e M = M.set j (p.1, p.2 + 1) := by
  have hl := (List.getElem?_eq_some_iff.1 h).1
  have hm := take_drop_of h
  have hs' := hs
  rw [hm] at hs'
  obtain ⟨s1, s2, s3, s4⟩ := srt_parts hs'
  have e1 : insL e (M.take j ++ p :: M.drop (j + 1)) = M.take j ++ (p.1, p.2 + 1) :: M.drop (j + 1) := by
    rw [insL_app_gt (fun x hx => by have := s3 x hx; rw [cmpK_key ((cmpK_zero _ _).1 hz), cmpK_neg]; omega), insL, if_neg (by omega), if_pos hz]
  rw [← hm] at e1
  rw [e1, List.set_eq_take_append_cons_drop, if_pos hl]
theorem insL_pos {M : List (El × Nat)} {e : El} {k : Nat} (h1 : ∀ j x, j < k → M[j]? = some x → 0 < cmpK e x.1) (h2 : ∀ j x, k ≤ j → M[j]? = some x → cmpK e x.1 < 0) : insL e M = M.take k ++ (e, 1) :: M.drop k := by
  conv => lhs; rw [← List.take_append_drop k M]
  rw [insL_app_gt (fun x hx => ?_), insL_lt (fun x hx => ?_)]
  · obtain ⟨j, hj, e1⟩ := List.mem_iff_getElem.1 hx
    rw [List.length_drop] at hj
    exact h2 (k + j) x (by omega) (by rw [← e1, List.getElem_drop, List.getElem?_eq_getElem])
  · obtain ⟨j, hj, e1⟩ := List.mem_iff_getElem.1 hx
    rw [List.length_take] at hj
    exact h1 j x (by omega) (by rw [← e1, List.getElem_take, List.getElem?_eq_getElem])
theorem srt_lt {M : List (El × Nat)} (hs : Srt M) {i j : Nat} {x y : El × Nat} (hij : i < j) (hx : M[i]? = some x) (hy : M[j]? = some y) : cmpK x.1 y.1 < 0 := by
  obtain ⟨h1, e1⟩ := List.getElem?_eq_some_iff.1 hx
  obtain ⟨h2, e2⟩ := List.getElem?_eq_some_iff.1 hy
  have := List.pairwise_iff_getElem.1 hs i j h1 h2 hij
  rw [e1, e2] at this
  exact this
theorem allL_srt : ∀ (es : List El) (L : List (El × Nat)), Srt L → Srt (allL L es)
  | [], _, h => h
  | _ :: es, _, h => allL_srt es _ (insL_srt h)
theorem allL_step {es : List El} {i : Nat} {e : El} (h : es[i]? = some e) : allL [] (es.take (i + 1)) = insL e (allL [] (es.take i)) := by
  unfold allL; rw [List.take_add_one, h]; simp
theorem allL_szL : ∀ (es : List El) (L : List (El × Nat)), szL (allL L es) = szL L + es.length
  | [], _ => by simp [allL]
  | e :: es, L => by
    have := allL_szL es (insL e L)
    rw [insL_sz] at this
    show szL (allL (insL e L) es) = _
    rw [this, List.length_cons]; omega
theorem szL_nonneg : ∀ L : List (El × Nat), 0 ≤ szL L
  | [] => Int.le_refl _
  | x :: L => by have := szL_nonneg L; simp only [szL, List.map_cons, List.sum_cons] at this ⊢; omega
theorem szL_mem : ∀ {L : List (El × Nat)} {x : El × Nat}, x ∈ L → (x.2 : Int) ≤ szL L
  | y :: L, x, h => by
    have hn := szL_nonneg L
    simp only [szL, List.map_cons, List.sum_cons] at hn ⊢
    rcases List.mem_cons.1 h with rfl | h
    · omega
    · have := szL_mem h; simp only [szL] at this; omega
theorem insL_len : ∀ (e : El) (L : List (El × Nat)), (insL e L).length ≤ L.length + 1
  | _, [] => Nat.le_refl _
  | e, p :: L => by
    have := insL_len e L
    unfold insL
    split
    · simp
    · split
      · simp
      · simp; omega
theorem allL_len : ∀ (es : List El) (L : List (El × Nat)), (allL L es).length ≤ L.length + es.length
  | [], _ => by simp [allL]
  | e :: es, L => by
    have h1 := allL_len es (insL e L)
    have h2 := insL_len e L
    show (allL (insL e L) es).length ≤ _
    simp only [List.length_cons]; omega
end Go.Proofs.Qxb6613283a
