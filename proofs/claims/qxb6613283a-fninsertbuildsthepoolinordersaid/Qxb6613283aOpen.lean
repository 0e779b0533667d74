/-
  THE INPUT OPENED: a slice of elements, as it reads, in memory.
-/
import Derived.Test.Qxb6613283aWalkE
import Derived.Test.Qxb6613283aTreeA
import Derived.ProofKit
namespace Go.Proofs.Qxb6613283a
open Go.RowKit
open Go.ChangeShapes Go.WideShapes

theorem wf_i64 {n : Int} (h : (Lit.int .i64 n).wf = true) : -9223372036854775808 ≤ n ∧ n ≤ 9223372036854775807 := by
  have h' : (decide (IntKind.i64.min ≤ n) && decide (n ≤ IntKind.i64.max)) = true := h
  rw [show IntKind.i64.min = -9223372036854775808 from rfl, show IntKind.i64.max = 9223372036854775807 from rfl] at h'
  simpa using h'
theorem wf_u64 {n : Int} (h : (Lit.int .u64 n).wf = true) : 0 ≤ n ∧ n ≤ 18446744073709551615 := by
  have h' : (decide (IntKind.u64.min ≤ n) && decide (n ≤ IntKind.u64.max)) = true := h
  rw [show IntKind.u64.min = 0 from rfl, show IntKind.u64.max = 18446744073709551615 from rfl] at h'
  simpa using h'

theorem cells29 : Try.prog.cellsOf 29 = 4 := by kernel_rfl
theorem cells32 : Try.prog.cellsOf 32 = 8 := by kernel_rfl
theorem cells27 : Try.prog.cellsOf 27 = 1 := by kernel_rfl
theorem cells5 : Try.prog.cellsOf 5 = 1 := by kernel_rfl
theorem cells2 : Try.prog.cellsOf 2 = 1 := by kernel_rfl
theorem cells9 : Try.prog.cellsOf 9 = 1 := by kernel_rfl
theorem cells3 : Try.prog.cellsOf 3 = 1 := by kernel_rfl
theorem cells4 : Try.prog.cellsOf 4 = 1 := by kernel_rfl
theorem cells30 : Try.prog.cellsOf 30 = 1 := by kernel_rfl

/-- One depth for all. -/
theorem max_all {P : Nat → Nat → Prop} (hm : ∀ n n' i, n ≤ n' → P n i → P n' i) : ∀ len, (∀ i, i < len → ∃ n, P n i) → ∃ n, ∀ i, i < len → P n i
  | 0, _ => ⟨0, fun _ h => by omega⟩
  | len + 1, h => by
    obtain ⟨n, hn⟩ := max_all hm len (fun i hi => h i (by omega))
    obtain ⟨n', hn'⟩ := h len (by omega)
    refine ⟨max n n', fun i hi => ?_⟩
    by_cases hi' : i < len
    · exact hm n _ i (Nat.le_max_left _ _) (hn i hi')
    · obtain rfl : i = len := by omega
      exact hm n' _ i (Nat.le_max_right _ _) hn'
/-- A list of choices. -/
theorem choose_list {α : Type} {P : Nat → α → Prop} : ∀ len, (∀ i, i < len → ∃ x, P i x) → ∃ xs : List α, xs.length = len ∧ ∀ i x, xs[i]? = some x → P i x
  | 0, _ => ⟨[], rfl, fun i x h => by simp at h⟩
  | len + 1, h => by
    obtain ⟨xs, hl, hx⟩ := choose_list len (fun i hi => h i (by omega))
    obtain ⟨y, hy⟩ := h len (by omega)
    refine ⟨xs ++ [y], by simp [hl], fun i x hi => ?_⟩
    by_cases hi' : i < len
    · rw [List.getElem?_append_left (by omega)] at hi
      exact hx i x hi
    · rw [List.getElem?_append_right (by omega)] at hi
      have : i - xs.length = 0 := by
        have := (List.getElem?_eq_some_iff.1 hi).1
        simp at this; omega
      rw [this] at hi
      simp at hi
      obtain rfl : i = len := by omega
      rw [← hi]; exact hy

theorem addr_add (b o i : Nat) : (⟨b, o, none⟩ : Addr).add i = ⟨b, o + i, none⟩ := by
  unfold Addr.add
  split
  · rename_i h; subst h; rfl
  · rfl
theorem spot_of {w : World} {base n : Nat} {a : Addr} {cs : List Value} (h : w.cells? base (a.add (0 * n)) n = some cs) (hn : 0 < n) : a.spot = none := by
  obtain ⟨_, hl, hc⟩ := World.cells?_some h
  have d0 := hc 0 hn
  rw [List.getElem?_eq_getElem (by omega)] at d0
  simpa [Addr.add] using World.cell?_spot d0

section
variable {H : Type} {enc : TypeId × Value → H} {w : World} {base : Nat} {sp : Nat → Bool} {hd : Bool}

theorem open_val : ∀ (fuel : Nat) (cs : List Value) (x : DataW H × List MemPlace), DataW.trod enc Try.prog w base sp hd fuel 29 cs = some x →
    ∃ n K F, VIn w (fun k => k < w.heap.size) anyLen n cs.toArray K F := by
  intro fuel
  induction fuel using Nat.strongRecOn with
  | _ fuel ih =>
    intro cs x h
    obtain ⟨xs, n, hn, rfl, hl, hlen, hf⟩ := DataW.trod_struct Try.underlying29 h
    rw [cells29] at hl
    match xs, hlen, cs, hl with
    | [y0, y1, y2, y3], _, [v0, v1, v2, v3], _ =>
      have g0 := hf 0 _ rfl
      have g1 := hf 1 _ rfl
      have g2 := hf 2 _ rfl
      have g3 := hf 3 _ rfl
      simp [cells5, cells2, cells9, cells27] at g0 g1 g2 g3
      obtain ⟨k, e0, _, _⟩ := DataW.trod_int Try.underlying5 g0
      obtain ⟨i, e1, _, _⟩ := DataW.trod_int Try.underlying2 g1
      obtain ⟨s, e2, _, _⟩ := DataW.trod_string Try.underlying9 g2
      simp at e0 e1 e2
      subst e0 e1 e2
      rcases DataW.trod_slice Try.underlying27 g3 with ⟨e3, _⟩ | ⟨a, len, cap, elems, rest, m, hm, e3, _, _, _, _, hel, hit, _, _⟩
      · simp at e3
        subst e3
        exact ⟨1, keyOf k i s.toList [], fullOf k i s.toList true [], k, i, s, none, 0, 0, [], [], rfl, rfl, rfl, rfl, rfl, trivial, trivial, fun j hj => by omega⟩
      · simp at e3
        subst e3
        have hspot : 0 < len → a.spot = none := fun h0 => by
          have h1 := hit 0 h0
          rw [cells29, List.getElem?_eq_getElem (by omega)] at h1
          obtain ⟨cs', h2, h3⟩ := Option.bind_eq_some_iff.1 h1
          exact spot_of h2 (by omega)
        have hone : ∀ j, j < len → ∃ n, ∃ c0 c1 c2 c3 K F D off, a = ⟨D, off, none⟩ ∧ D < w.heap.size ∧ w.cell? ⟨D, off + j * 4, none⟩ = some c0 ∧ w.cell? ⟨D, off + j * 4 + 1, none⟩ = some c1 ∧ w.cell? ⟨D, off + j * 4 + 2, none⟩ = some c2 ∧ w.cell? ⟨D, off + j * 4 + 3, none⟩ = some c3 ∧ VIn w (fun k => k < w.heap.size) anyLen n #[c0, c1, c2, c3] K F := fun j hj => by
          have h1 := hit j hj
          rw [cells29, List.getElem?_eq_getElem (by omega)] at h1
          obtain ⟨cs', h2, h3⟩ := Option.bind_eq_some_iff.1 h1
          obtain ⟨n', K, F, hv⟩ := ih m (by omega) cs' _ h3
          obtain ⟨_, hl', hc⟩ := World.cells?_some h2
          match cs', hl', hc, hv with
          | [c0, c1, c2, c3], _, hc, hv =>
            obtain ⟨D, off, spot⟩ := a
            have hsp : spot = none := hspot (by omega)
            subst hsp
            have d0 := hc 0 (by omega)
            have d1 := hc 1 (by omega)
            have d2 := hc 2 (by omega)
            have d3 := hc 3 (by omega)
            rw [addr_add, addr_add] at d0 d1 d2 d3
            exact ⟨n', c0, c1, c2, c3, K, F, D, off, rfl, World.block_lt_of_cell? _ _ d0, d0, d1, d2, d3, hv⟩
        obtain ⟨N, hN⟩ := max_all (fun n n' j hnn ⟨c0, c1, c2, c3, K, F, D, off, q1, q2, q3, q4, q5, q6, q7⟩ => ⟨c0, c1, c2, c3, K, F, D, off, q1, q2, q3, q4, q5, q6, VIn.le hnn q7⟩) len hone
        obtain ⟨kfs, hkl, hk⟩ := choose_list (α := List Int × List Int) (P := fun j kf => ∃ c0 c1 c2 c3 D off, a = ⟨D, off, none⟩ ∧ D < w.heap.size ∧ w.cell? ⟨D, off + j * 4, none⟩ = some c0 ∧ w.cell? ⟨D, off + j * 4 + 1, none⟩ = some c1 ∧ w.cell? ⟨D, off + j * 4 + 2, none⟩ = some c2 ∧ w.cell? ⟨D, off + j * 4 + 3, none⟩ = some c3 ∧ VIn w (fun k => k < w.heap.size) anyLen N #[c0, c1, c2, c3] kf.1 kf.2) len (fun j hj => by
          obtain ⟨c0, c1, c2, c3, K, F, D, off, q⟩ := hN j hj
          exact ⟨(K, F), c0, c1, c2, c3, D, off, q⟩)
        refine ⟨N + 1, keyOf k i s.toList (kfs.map (·.1)), fullOf k i s.toList false (kfs.map (·.2)), k, i, s, some a, len, cap, kfs.map (·.1), kfs.map (·.2), rfl, rfl, rfl, by simp [hkl], by simp [hkl], trivial, trivial, fun j hj => ?_⟩
        have hkj : kfs[j]? = some kfs[j] := List.getElem?_eq_getElem (by omega)
        obtain ⟨c0, c1, c2, c3, D, off, q1, q2, q3, q4, q5, q6, q7⟩ := hk j _ hkj
        exact ⟨D, off, c0, c1, c2, c3, _, _, by rw [q1], q2, q3, q4, q5, q6, by rw [List.getElem?_map, hkj]; rfl, by rw [List.getElem?_map, hkj]; rfl, q7⟩

theorem open_elem {fuel : Nat} {cs : List Value} {x : DataW H × List MemPlace} (h : DataW.trod enc Try.prog w base sp hd fuel 32 cs = some x) :
    ∃ e : El, EInQ anyLen w (fun k => k < w.heap.size) cs.toArray e ∧ 0 ≤ e.hv ∧ e.fin ≤ 9223372036854775807 ∧ cs.length = 8 := by
  obtain ⟨xs, n, hn, rfl, hl, hlen, hf⟩ := DataW.trod_struct Try.underlying32 h
  rw [cells32] at hl
  match xs, hlen, cs, hl with
  | [y0, y1, y2, y3, y4], _, [v0, v1, v2, v3, v4, v5, v6, v7], _ =>
    have g0 := hf 0 _ rfl
    have g1 := hf 1 _ rfl
    have g2 := hf 2 _ rfl
    have g3 := hf 3 _ rfl
    have g4 := hf 4 _ rfl
    simp [cells29, cells3, cells4, cells30] at g0 g1 g2 g3 g4
    obtain ⟨m, K, F, hv⟩ := open_val _ _ _ g0
    obtain ⟨a, e1, _, _⟩ := DataW.trod_int Try.underlying3 g1
    obtain ⟨b, e2, _, hb⟩ := DataW.trod_int Try.underlying3 g2
    obtain ⟨c, e3, _⟩ := DataW.trod_bool Try.underlying4 g3
    obtain ⟨d, e4, _, hd⟩ := DataW.trod_int Try.underlying30 g4
    simp at e1 e2 e3 e4
    subst e1 e2 e3 e4
    obtain ⟨k, i, s, A, len, cap, he⟩ := hv.shape
    simp at he
    obtain ⟨rfl, rfl, rfl, rfl⟩ := he
    exact ⟨⟨a, b, c, d, K, F⟩, ⟨m, k, i, s, A, len, cap, rfl, hv⟩, (wf_u64 hd).1, (wf_i64 hb).2, rfl⟩

theorem open_elems {A : Option Addr} {len cap : Nat} {d : DataW H} {ps : List MemPlace} (h : DataW.Trod enc Try.prog w base sp hd 22 (.slice A len cap) d ps) :
    ∃ es : List El, es.length = len ∧ len ≤ cap ∧ cap ≤ maxLen ∧ SIn anyLen w (fun k => k < w.heap.size) A es ∧ (∀ e, e ∈ es → 0 ≤ e.hv ∧ e.fin ≤ 9223372036854775807) := by
  obtain ⟨fuel, hf⟩ := h
  rcases DataW.trod_slice Try.underlying22 hf with ⟨e3, _⟩ | ⟨a, len', cap', elems, rest, m, hm, e3, _, _, hlc, hcm, hel, hit, _, _⟩
  · simp [Value.cells] at e3
    obtain ⟨rfl, rfl, rfl⟩ := e3
    exact ⟨[], rfl, Nat.le_refl _, by unfold maxLen; omega, fun i e h => by simp at h, fun e h => by simp at h⟩
  · simp [Value.cells] at e3
    obtain ⟨rfl, rfl, rfl⟩ := e3
    have hspot : 0 < len → a.spot = none := fun h0 => by
      have h1 := hit 0 h0
      rw [cells32, List.getElem?_eq_getElem (by omega)] at h1
      obtain ⟨cs', h2, h3⟩ := Option.bind_eq_some_iff.1 h1
      exact spot_of h2 (by omega)
    obtain ⟨es, hl, hk⟩ := choose_list (P := fun j e => EItem anyLen w (fun k => k < w.heap.size) (some a) j e ∧ 0 ≤ e.hv ∧ e.fin ≤ 9223372036854775807) len (fun j hj => by
      have h1 := hit j hj
      rw [cells32, List.getElem?_eq_getElem (by omega)] at h1
      obtain ⟨cs', h2, h3⟩ := Option.bind_eq_some_iff.1 h1
      obtain ⟨e, he, h4, h5, h6⟩ := open_elem h3
      obtain ⟨_, hl', hc⟩ := World.cells?_some h2
      match cs', hl', hc, he with
      | [c0, c1, c2, c3, c4, c5, c6, c7], _, hc, he =>
        obtain ⟨D, off, spot⟩ := a
        have hsp : spot = none := hspot (by omega)
        subst hsp
        have d0 := hc 0 (by omega)
        have d1 := hc 1 (by omega)
        have d2 := hc 2 (by omega)
        have d3 := hc 3 (by omega)
        have d4 := hc 4 (by omega)
        have d5 := hc 5 (by omega)
        have d6 := hc 6 (by omega)
        have d7 := hc 7 (by omega)
        rw [addr_add, addr_add] at d0 d1 d2 d3 d4 d5 d6 d7
        exact ⟨e, ⟨D, off, c0, c1, c2, c3, c4, c5, c6, c7, rfl, World.block_lt_of_cell? _ _ d0, d0, d1, d2, d3, d4, d5, d6, d7, he⟩, h4, h5⟩)
    refine ⟨es, hl, hlc, hcm, fun i e h => (hk i e h).1, fun e h => ?_⟩
    obtain ⟨i, hi, he⟩ := List.mem_iff_getElem.1 h
    exact (hk i e (by rw [List.getElem?_eq_getElem hi, he])).2
end
end Go.Proofs.Qxb6613283a
