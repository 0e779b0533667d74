/-
  SLICES OF COUNTED ELEMENTS, of the call's own: what they hold, an append, a store.
-/
import Derived.Test.Qxb6613283aWalkU
import Derived.OwnWalk
import Derived.ArgAppend
namespace Go.Proofs.Qxb6613283a
open Go.RowKit

/-- All blocks but the slice's own. -/
def Sof (w : World) (v : Value) (k : Nat) : Prop := k < w.heap.size ∧ v.ownBlock ≠ some k
/-- The i-th entry of a row of entries of nine cells. -/
def Row9 (w : World) (S : Nat → Prop) (cur : Array Value) (i : Nat) (f : Nat → Value) (p : El × Nat) : Prop :=
  ∃ c0 c1 c2 c3, cur[i * 9]? = some c0 ∧ cur[i * 9 + 1]? = some c1 ∧ cur[i * 9 + 2]? = some c2 ∧ cur[i * 9 + 3]? = some c3 ∧ cur[i * 9 + 4]? = some (.int .i64 p.1.start) ∧ cur[i * 9 + 5]? = some (.int .i64 p.1.fin) ∧ cur[i * 9 + 6]? = some (.bool p.1.pend) ∧ cur[i * 9 + 7]? = some (.int .u64 p.1.hv) ∧ cur[i * 9 + 8]? = some (f p.2) ∧
    EIn w S #[c0, c1, c2, c3, .int .i64 p.1.start, .int .i64 p.1.fin, .bool p.1.pend, .int .u64 p.1.hv] p.1
/-- The slice v holds the list L. -/
def GIn (w : World) (S : Nat → Prop) (B : Nat) (T : TypeId) (f : Nat → Value) (v : Value) (L : List (El × Nat)) : Prop :=
  (v = .slice none 0 0 ∧ L = []) ∨ ∃ g cap cur, v = .slice (some ⟨g, 0, none⟩) L.length cap ∧ B ≤ g ∧ w.heap[g]? = some (.cells cur T (0, 0)) ∧ L.length ≤ cap ∧ cap ≤ maxLen ∧ cur.size = cap * 9 ∧ ∀ i p, L[i]? = some p → Row9 w S cur i f p

theorem Row9.frame {w w' : World} {S S' : Nat → Prop} {cur : Array Value} {i : Nat} {f : Nat → Value} {p : El × Nat} (hb : ∀ k, S k → w'.heap[k]? = w.heap[k]?) (hS : ∀ k, S k → S' k) (h : Row9 w S cur i f p) : Row9 w' S' cur i f p := by
  obtain ⟨c0, c1, c2, c3, a0, a1, a2, a3, a4, a5, a6, a7, a8, he⟩ := h
  exact ⟨c0, c1, c2, c3, a0, a1, a2, a3, a4, a5, a6, a7, a8, he.frame hb hS⟩
/-- The same entry, in a row that agrees at its nine cells. -/
theorem Row9.at {w : World} {S : Nat → Prop} {cur cur' : Array Value} {i j : Nat} {f : Nat → Value} {p : El × Nat} (h : Row9 w S cur i f p) (he : ∀ t, t < 9 → cur'[j * 9 + t]? = cur[i * 9 + t]?) : Row9 w S cur' j f p := by
  obtain ⟨c0, c1, c2, c3, a0, a1, a2, a3, a4, a5, a6, a7, a8, hE⟩ := h
  exact ⟨c0, c1, c2, c3, (he 0 (by omega)).trans a0, (he 1 (by omega)).trans a1, (he 2 (by omega)).trans a2, (he 3 (by omega)).trans a3, (he 4 (by omega)).trans a4, (he 5 (by omega)).trans a5, (he 6 (by omega)).trans a6, (he 7 (by omega)).trans a7, (he 8 (by omega)).trans a8, hE⟩

theorem GIn.shape {w : World} {S : Nat → Prop} {B : Nat} {T : TypeId} {f : Nat → Value} {v : Value} {L : List (El × Nat)} (h : GIn w S B T f v L) : ∃ A cap, v = .slice A L.length cap := by
  rcases h with ⟨rfl, rfl⟩ | ⟨g, cap, cur, rfl, _⟩
  · exact ⟨none, 0, rfl⟩
  · exact ⟨_, _, rfl⟩
theorem GIn.frame {w w' : World} {S S' : Nat → Prop} {B : Nat} {T : TypeId} {f : Nat → Value} {v : Value} {L : List (El × Nat)} (hb : ∀ k, S k → w'.heap[k]? = w.heap[k]?) (ho : ∀ k, v.ownBlock = some k → w'.heap[k]? = w.heap[k]?) (hS : ∀ k, S k → S' k) (h : GIn w S B T f v L) : GIn w' S' B T f v L := by
  rcases h with h | ⟨g, cap, cur, rfl, h1, h2, h3, h4, h5, h6⟩
  · exact .inl h
  · exact .inr ⟨g, cap, cur, rfl, h1, (ho g rfl).trans h2, h3, h4, h5, fun i p hp => (h6 i p hp).frame hb hS⟩
theorem GIn.lt {w : World} {S : Nat → Prop} {B : Nat} {T : TypeId} {f : Nat → Value} {v : Value} {L : List (El × Nat)} (h : GIn w S B T f v L) : ∀ k, v.ownBlock = some k → B ≤ k ∧ k < w.heap.size := fun k hk => by
  rcases h with ⟨rfl, _⟩ | ⟨g, cap, cur, rfl, h1, h2, _⟩
  · simp [Value.ownBlock] at hk
  · simp [Value.ownBlock] at hk
    subst hk
    exact ⟨h1, blt h2⟩
/-- The cells of the i-th entry. -/
theorem GIn.read {w : World} {S : Nat → Prop} {B : Nat} {T : TypeId} {f : Nat → Value} {v : Value} {L : List (El × Nat)} (h : GIn w S B T f v L) {i : Nat} {p : El × Nat} (hp : L[i]? = some p) :
    ∃ g cap c0 c1 c2 c3, v = .slice (some ⟨g, 0, none⟩) L.length cap ∧ g < w.heap.size ∧ B ≤ g ∧ w.cell? ⟨g, i * 9, none⟩ = some c0 ∧ w.cell? ⟨g, i * 9 + 1, none⟩ = some c1 ∧ w.cell? ⟨g, i * 9 + 2, none⟩ = some c2 ∧ w.cell? ⟨g, i * 9 + 3, none⟩ = some c3 ∧
      w.cell? ⟨g, i * 9 + 4, none⟩ = some (.int .i64 p.1.start) ∧ w.cell? ⟨g, i * 9 + 5, none⟩ = some (.int .i64 p.1.fin) ∧ w.cell? ⟨g, i * 9 + 6, none⟩ = some (.bool p.1.pend) ∧ w.cell? ⟨g, i * 9 + 7, none⟩ = some (.int .u64 p.1.hv) ∧ w.cell? ⟨g, i * 9 + 8, none⟩ = some (f p.2) ∧
      EIn w S #[c0, c1, c2, c3, .int .i64 p.1.start, .int .i64 p.1.fin, .bool p.1.pend, .int .u64 p.1.hv] p.1 := by
  rcases h with ⟨rfl, rfl⟩ | ⟨g, cap, cur, rfl, h1, h2, h3, h4, h5, h6⟩
  · simp at hp
  · obtain ⟨c0, c1, c2, c3, a0, a1, a2, a3, a4, a5, a6, a7, a8, he⟩ := h6 i p hp
    have hc : ∀ o, w.cell? ⟨g, o, none⟩ = cur[o]? := fun o => bcell h2 o
    exact ⟨g, cap, c0, c1, c2, c3, rfl, blt h2, h1, (hc _).trans a0, (hc _).trans a1, (hc _).trans a2, (hc _).trans a3, (hc _).trans a4, (hc _).trans a5, (hc _).trans a6, (hc _).trans a7, (hc _).trans a8, he⟩

theorem GIn.own {w : World} {S : Nat → Prop} {B : Nat} {T : TypeId} {f : Nat → Value} {v : Value} {L : List (El × Nat)} (h : GIn w S B T f v L) : ∃ xs, w.ownsRow B T 9 v L.length xs ∧ (∀ g cur, v.ownBlock = some g → w.heap[g]? = some (.cells cur T (0, 0)) → xs = cur.toList.take (L.length * 9)) := by
  rcases h with ⟨rfl, rfl⟩ | ⟨g, cap, cur, rfl, h1, h2, h3, h4, h5, h6⟩
  · exact ⟨[], World.ownsRow_nil _ _ _ _, fun g cur hg _ => by simp [Value.ownBlock] at hg⟩
  · refine ⟨cur.toList.take (L.length * 9), ⟨?_, .inr ⟨g, cap, cur, rfl, h1, h2, h3, h4, h5, rfl⟩⟩, fun g' cur' hg hc => ?_⟩
    · have hz : cur.toList.length = cap * 9 := by rw [← h5]; exact Array.length_toList
      rw [List.length_take, hz]
      exact Nat.min_eq_left (Nat.mul_le_mul_right _ h3)
    · simp [Value.ownBlock] at hg
      subst hg
      rw [h2] at hc
      simp at hc
      rw [hc]

theorem add_plain9 (b o i : Nat) : (⟨b, o, none⟩ : Addr).add i = ⟨b, o + i, none⟩ := by
  unfold Addr.add
  split
  · rename_i h; subst h; rfl
  · rfl

/-- Behind an append of one entry. -/
theorem GIn.push {w w' : World} {S : Nat → Prop} {B : Nat} {T : TypeId} {f : Nat → Value} {v v' : Value} {L : List (El × Nat)} {xs : List Value} {e : El} {n : Nat} {c0 c1 c2 c3 : Value} {b : Nat} (h : GIn w S B T f v L) (hS : ∀ k, S k → Sof w v k) (hB : B ≤ b)
    (hx : ∀ g cur, v.ownBlock = some g → w.heap[g]? = some (.cells cur T (0, 0)) → xs = cur.toList.take (L.length * 9)) (hlen : xs.length = L.length * 9)
    (hown : w'.ownsRow b T 9 v' (L.length + 1) (xs ++ [c0, c1, c2, c3, .int .i64 e.start, .int .i64 e.fin, .bool e.pend, .int .u64 e.hv, f n])) (hg : w.grownBy w' v.ownBlock)
    (he : EIn w S #[c0, c1, c2, c3, .int .i64 e.start, .int .i64 e.fin, .bool e.pend, .int .u64 e.hv] e) : GIn w' S B T f v' (L ++ [(e, n)]) := by
  rcases hown.2 with ⟨rfl, h0⟩ | ⟨g', cap', cur', rfl, k1, k2, k3, k4, k5, k6⟩
  · omega
  · have hfr : ∀ k, S k → w'.heap[k]? = w.heap[k]? := fun k hk => hg.block k (hS k hk).1 (fun h => (hS k hk).2 h.symm)
    have hsub : ∀ k, S k → S k := fun _ h => h
    have hget : ∀ o, o < (L.length + 1) * 9 → cur'[o]? = (xs ++ [c0, c1, c2, c3, .int .i64 e.start, .int .i64 e.fin, .bool e.pend, .int .u64 e.hv, f n])[o]? := fun o ho => by
      rw [← k6, List.getElem?_take, if_pos ho, Array.getElem?_toList]
    refine .inr ⟨g', cap', cur', by simp, Nat.le_trans hB k1, k2, by simpa using k3, k4, k5, fun i p hp => ?_⟩
    have hil := (List.getElem?_eq_some_iff.1 hp).1
    simp only [List.length_append, List.length_cons, List.length_nil] at hil
    have e1 : (L ++ [(e, n)]).length = L.length + 1 := by simp
    by_cases hi : i < L.length
    · rw [List.getElem?_append_left hi] at hp
      rcases h with ⟨_, rfl⟩ | ⟨g, cap, cur, rfl, h1, h2, h3, h4, h5, h6⟩
      · simp at hi
      · have hxs := hx g cur rfl h2
        refine ((h6 i p hp).at (cur' := cur') (j := i) (fun t ht => ?_)).frame hfr hsub
        rw [hget _ (by omega), List.getElem?_append_left (by omega), hxs, List.getElem?_take, if_pos (by omega), Array.getElem?_toList]
    · obtain rfl : i = L.length := by omega
      rw [List.getElem?_append_right (Nat.le_refl _)] at hp
      simp at hp
      subst hp
      have hq : ∀ t, t < 9 → cur'[L.length * 9 + t]? = [c0, c1, c2, c3, .int .i64 e.start, .int .i64 e.fin, .bool e.pend, .int .u64 e.hv, f n][t]? := fun t ht => by
        rw [hget _ (by omega), List.getElem?_append_right (by omega), hlen, Nat.add_sub_cancel_left]
      exact ⟨c0, c1, c2, c3, hq 0 (by omega), hq 1 (by omega), hq 2 (by omega), hq 3 (by omega), hq 4 (by omega), hq 5 (by omega), hq 6 (by omega), hq 7 (by omega), hq 8 (by omega), he.frame hfr hsub⟩
/-- append of one entry: room, or a new array; one way on. -/
theorem append_G {P : Program} (w : World) {ops : Array Oper} {rest : List Oper} {o : Oper} {a : Act} {Q : Exit → Act → World → Prop}
    (hg : o.guard = none) (s x : Operand) (t : TypeId) (hop : o.op = Op.call { callee := Callee.builtin Builtin.append, args := #[s, x], argTypes := #[t, t] })
    (T : TypeId) (i : TypeInfo) (z : Value) (h1 : P.underlying t = some (.slice T)) (h2 : P.info? T = some i) (h3 : i.zero = some z) (h4 : i.size = 9) (h5 : i.bytes = 96) (h6 : z.cells.size = 9)
    (S : Nat → Prop) (B : Nat) (f : Nat → Value) (v : Value) (L : List (El × Nat)) (hs : a.eval s = v) (hG : GIn w S B T f v L) (hS : ∀ k, S k → Sof w v k) (ad : Nat) (hx : a.eval x = .slice (some ⟨ad, 0, none⟩) 1 1)
    (c0 c1 c2 c3 : Value) (e : El) (n : Nat) (hc : w.heap[ad]? = some (.cells #[c0, c1, c2, c3, .int .i64 e.start, .int .i64 e.fin, .bool e.pend, .int .u64 e.hv, f n] T (0, 0)))
    (he : EIn w S #[c0, c1, c2, c3, .int .i64 e.start, .int .i64 e.fin, .bool e.pend, .int .u64 e.hv] e) (hf : (f n).oneCell' = true) (hlen : L.length + 1 ≤ 8192) (hB : B ≤ w.heap.size)
    (hK : ∀ v' w', GIn w' S B T f v' (L ++ [(e, n)]) → w.grownBy w' v.ownBlock → (v'.ownBlock = v.ownBlock ∨ ∃ g, v'.ownBlock = some g ∧ w.heap.size ≤ g) → wpList P ops Q rest (a.put o.dst v') w') :
    wpList P ops Q (o :: rest) a w := by
  obtain ⟨xs, hown, hxs⟩ := hG.own
  obtain ⟨news, hnews⟩ : ∃ news : List Value, news = [c0, c1, c2, c3, .int .i64 e.start, .int .i64 e.fin, .bool e.pend, .int .u64 e.hv, f n] := ⟨_, rfl⟩
  have hcells : ∀ j u, news[j]? = some u → w.cell? ((⟨ad, 0, none⟩ : Addr).add j) = some u := fun j u hj => by
    rw [add_plain9, Nat.zero_add, bcell hc, ← hj, hnews]
    simp
  have hone : ∀ u ∈ news, u.oneCell' = true := fun u hu => by
    obtain ⟨n', k', i', s', A', len', cap', e1, _⟩ := he
    simp only [Array.mk.injEq, List.cons.injEq, and_true] at e1
    obtain ⟨rfl, rfl, rfl, rfl, _⟩ := e1
    rw [hnews] at hu
    simp only [List.mem_cons, List.not_mem_nil, or_false] at hu
    rcases hu with rfl | rfl | rfl | rfl | rfl | rfl | rfl | rfl | rfl <;> first | rfl | exact hf
  have hnl : news.length = 1 * 9 := by rw [hnews]; rfl
  have hm : L.length + 1 ≤ maxLen := by unfold maxLen; omega
  have hlx := hown.1
  rcases id hG with ⟨rfl, rfl⟩ | ⟨g, cap, cur, rfl, k1, k2, k3, k4, k5, k6⟩
  · refine wpList_append_grows w hg s x t hop T i z 9 96 h1 h2 h3 h4 h5 h6 (by omega) none 0 0 xs hs (fun _ => ⟨rfl, rfl⟩) (by simpa using hlx) (fun b hb => by cases hb) ⟨ad, 0, none⟩ 1 1 news hx hnl hcells hone (by omega) (by unfold maxLen; omega) (by omega) ?_
    intro v' w' ho hgr
    have hv' : ∃ g, v'.ownBlock = some g ∧ w.heap.size ≤ g := by
      rcases ho.2 with ⟨_, h0⟩ | ⟨g', cap', cur', rfl, q1, _⟩
      · omega
      · exact ⟨g', rfl, q1⟩
    rw [hnews] at ho
    refine hK v' w' (hG.push hS hB hxs hlx (by simpa using ho) (by exact hgr) he) hgr (.inr hv')
  · by_cases hroom : L.length + 1 ≤ cap
    · refine wpList_append_fits w hg s x t hop B T i 9 h1 h2 h4 g L.length cap xs hs hown ⟨ad, 0, none⟩ 1 1 news hx hnl hcells hone hroom ?_
      intro w' ho hgr
      rw [hnews] at ho
      exact hK _ w' (hG.push hS (Nat.le_refl _) hxs hlx ho hgr he) hgr (.inl rfl)
    · refine wpList_append_grows w hg s x t hop T i z 9 96 h1 h2 h3 h4 h5 h6 (by omega) (some ⟨g, 0, none⟩) L.length cap xs hs (fun h => by cases h) hlx (fun b hb => by cases hb; exact hown.cells rfl) ⟨ad, 0, none⟩ 1 1 news hx hnl hcells hone (by omega) hm (by omega) ?_
      intro v' w' ho hgr
      have hv' : ∃ g, v'.ownBlock = some g ∧ w.heap.size ≤ g := by
        rcases ho.2 with ⟨_, h0⟩ | ⟨g', cap', cur', rfl, q1, _⟩
        · omega
        · exact ⟨g', rfl, q1⟩
      rw [hnews] at ho
      have hgr' : w.grownBy w' (Value.ownBlock (.slice (some ⟨g, 0, none⟩) L.length cap)) := ⟨hgr.os, hgr.tape, hgr.output, hgr.size, fun k hk _ => hgr.block k hk (by simp)⟩
      exact hK v' w' (hG.push hS hB hxs hlx ho hgr' he) hgr' (.inr hv')
end Go.Proofs.Qxb6613283a
