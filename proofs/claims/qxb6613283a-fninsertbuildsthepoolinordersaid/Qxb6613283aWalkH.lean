/-
  THE WALK of hvFit.
-/
import Derived.Test.Qxb6613283aWalkE
import Derived.BigQuiet
namespace Go.Proofs.Qxb6613283a
open Go.RowKit

/-- A region that only reads, whose callees may make memory: in a class of worlds, given as the values of a function. -/
theorem wp_region_quiet_in {P : Program} {id : Nat} {Q : Exit → Act → World → Prop} {a : Act} {w : World} {l : List Oper} {G : Type} (wf : G → World) (hm : P.follows .mixedOrders = true) (hB : Region.lexB .any l.toArray = true) (g0 : G) (h0 : { w with drawn := w.drawn + 1 } = wf g0)
    (h : wpQuiet P l.toArray (fun w' => ∃ g, w' = wf g) (fun a' => ∀ w', (∃ g, w' = wf g) → Q .normal a' w') l a) : (Code.region id l.toArray true).wp P Q a w :=
  wp_region_quiet (C := fun w' => ∃ g, w' = wf g) hm hB ⟨g0, h0⟩ (by simpa using h)
/-- The worlds in which nothing below B has turned. -/
theorem grown_class (B : Nat) (w : World) : ∃ (G : Type) (wf : G → World), (∀ g, Below B w (wf g)) ∧ ∀ W, Below B w W → ∃ g, W = wf g :=
  ⟨{ x : World // Below B w x }, fun x => x.1, fun g => g.2, fun W h => ⟨⟨W, h⟩, rfl⟩⟩

theorem EItem.ein {w : World} {S : Nat → Prop} {A : Option Addr} {i : Nat} {e : El} (h : EItem lim w S A i e) : ∃ (D off : Nat) (c0 c1 c2 c3 : Value), A = some ⟨D, off, none⟩ ∧ S D ∧
    w.cell? ⟨D, off + i * 8, none⟩ = some c0 ∧ w.cell? ⟨D, off + i * 8 + 1, none⟩ = some c1 ∧ w.cell? ⟨D, off + i * 8 + 2, none⟩ = some c2 ∧ w.cell? ⟨D, off + i * 8 + 3, none⟩ = some c3 ∧
    w.cell? ⟨D, off + i * 8 + 4, none⟩ = some (.int .i64 e.start) ∧ w.cell? ⟨D, off + i * 8 + 5, none⟩ = some (.int .i64 e.fin) ∧ w.cell? ⟨D, off + i * 8 + 6, none⟩ = some (.bool e.pend) ∧ w.cell? ⟨D, off + i * 8 + 7, none⟩ = some (.int .u64 e.hv) ∧
    EIn w S #[c0, c1, c2, c3, .int .i64 e.start, .int .i64 e.fin, .bool e.pend, .int .u64 e.hv] e := by
  obtain ⟨D, off, n, k, v, s, B, len, cap, eA, hD, d0, d1, d2, d3, d4, d5, d6, d7, hv⟩ := h.at
  exact ⟨D, off, _, _, _, _, eA, hD, d0, d1, d2, d3, d4, d5, d6, d7, n, k, v, s, B, len, cap, rfl, hv⟩

/-- What hvFit has seen of the first i elements. -/
def FitTo (es : List El) (i : Nat) : Prop := (∀ a x, a < i → es[a]? = some x → x.hv < MP) ∧ ∀ a b x y, a < i → b < a → es[a]? = some x → es[b]? = some y → x.key = y.key → x.hv = y.hv

theorem FitTo.all {es : List El} (h : FitTo es es.length) : FitE es ∧ ∀ e, e ∈ es → e.hv < MP := by
  refine ⟨fun x hx y hy hk => ?_, fun x hx => ?_⟩
  · obtain ⟨a, ha, ex⟩ := List.mem_iff_getElem.1 hx
    obtain ⟨b, hb, ey⟩ := List.mem_iff_getElem.1 hy
    have ex' : es[a]? = some x := by rw [List.getElem?_eq_getElem ha, ex]
    have ey' : es[b]? = some y := by rw [List.getElem?_eq_getElem hb, ey]
    rcases Nat.lt_trichotomy a b with h1 | h1 | h1
    · exact (h.2 b a y x hb h1 ey' ex' hk.symm).symm
    · subst h1; rw [ex'] at ey'; cases ey'; rfl
    · exact h.2 a b x y ha h1 ex' ey' hk
  · obtain ⟨a, ha, ex⟩ := List.mem_iff_getElem.1 hx
    exact h.1 a x ha (by rw [List.getElem?_eq_getElem ha, ex])

set_option maxHeartbeats 2000000 in
set_option maxRecDepth 100000 in
theorem hvFit_6 (w : World) (S : Nat → Prop) (A : Option Addr) (len cap : Nat) (es : List El) (hes : SIn lim w S A es) (hl : es.length = len) (hll : len ≤ 4096) (hS : ∀ k, S k → k < w.heap.size) :
    Calls Try.prog 6 #[.slice A len cap] w fun r w' => (∃ x : Bool, r = .returned (.bool x) ∧ (x = true → FitE es ∧ ∀ e, e ∈ es → e.hv < MP)) ∧ Below w.heap.size w w' := by
  have HE : Hid (SIn lim w S A es ∧ es.length = len) := ⟨hes, hl⟩
  clear hes hl
  have HS : Hid (∀ k, S k → k < w.heap.size) := hS
  clear hS
  go_enter Try.func6, Try.ntmps6
  go_wp2_with fail
  go_loopg [7] len (fun gf iv wr => ∃ (i : Nat), i + gf = len ∧ iv = .int .i64 i ∧ FitTo es i ∧ Below w.heap.size w wr)
  case atStart => exact ⟨0, by omega, rfl, ⟨fun _ _ h => by omega, fun _ _ _ _ h => by omega⟩, Below.refl _ _⟩
  case round =>
    obtain ⟨i, hj0, rfl, hft, hbel⟩ := hrel
    obtain ⟨gq, hgq⟩ : ∃ gq, gq = gk := ⟨_, rfl⟩
    have HGQ : Hid (gq = gk) := hgq
    have HJ : Hid (i + gq = len) := by rw [hgq]; exact hj0
    clear hgq
    have HI : Hid (FitTo es i ∧ Below w.heap.size w wr) := ⟨hft, hbel⟩
    have hil : i ≤ len := by omega
    clear hj0 hft hbel
    by_cases hlt : i < len
    · obtain ⟨e, he⟩ : ∃ e, es[i]? = some e := ⟨_, List.getElem?_eq_getElem (by rw [HE.out.2]; exact hlt)⟩
      have HX : Hid (EItem lim w S A i e ∧ es[i]? = some e) := ⟨HE.out.1 i e he, he⟩
      clear he
      obtain ⟨D, off, c0, c1, c2, c3, rfl, hD, d0, d1, d2, d3, d4, d5, d6, d7, hein⟩ := HX.out.1.ein
      have g7 : wr.cell? ⟨D, off + i * 8 + 7, none⟩ = some (.int .u64 e.hv) := (World.cell?_of_block (HI.out.2.block D (HS.out D hD))).trans d7
      have HY : Hid (S D ∧ w.cell? ⟨D, off + i * 8, none⟩ = some c0 ∧ w.cell? ⟨D, off + i * 8 + 1, none⟩ = some c1 ∧ w.cell? ⟨D, off + i * 8 + 2, none⟩ = some c2 ∧ w.cell? ⟨D, off + i * 8 + 3, none⟩ = some c3 ∧ w.cell? ⟨D, off + i * 8 + 4, none⟩ = some (.int .i64 e.start) ∧ w.cell? ⟨D, off + i * 8 + 5, none⟩ = some (.int .i64 e.fin) ∧ w.cell? ⟨D, off + i * 8 + 6, none⟩ = some (.bool e.pend) ∧ w.cell? ⟨D, off + i * 8 + 7, none⟩ = some (.int .u64 e.hv) ∧ EIn w S #[c0, c1, c2, c3, .int .i64 e.start, .int .i64 e.fin, .bool e.pend, .int .u64 e.hv] e) := ⟨hD, d0, d1, d2, d3, d4, d5, d6, d7, hein⟩
      clear d0 d1 d2 d3 d4 d5 d6 d7 hein hD
      by_cases hbig : (2305843009213693951 : Int) ≤ e.hv
      · have hbig' : decide ((2305843009213693951 : Int) ≤ e.hv) = true := by simpa using hbig
        go_wp2_with fail
        go_ret
        exact ⟨⟨false, rfl, fun h => by cases h⟩, HI.out.2⟩
      · have hbig' : decide ((2305843009213693951 : Int) ≤ e.hv) = false := by simpa using hbig
        go_wp2_with fail
        clear g7
        go_loopg [4] i (fun gf jv wq => ∃ (j : Nat), j + gf = i ∧ jv = .int .i64 j ∧ (∀ b y, b < j → es[b]? = some y → e.key = y.key → e.hv = y.hv) ∧ Below w.heap.size w wq)
        case atStart => exact ⟨0, by omega, rfl, fun _ _ h => by omega, HI.out.2⟩
        case round =>
          obtain ⟨j, hj1, rfl, hfj, hbq⟩ := hrel
          have HG : Hid (j + gk = i) := hj1
          have HQ : Hid ((∀ b y, b < j → es[b]? = some y → e.key = y.key → e.hv = y.hv) ∧ Below w.heap.size w wr) := ⟨hfj, hbq⟩
          have hjl : j ≤ i := by omega
          clear hj1 hfj hbq
          by_cases hji : j < i
          · obtain ⟨y, hy⟩ : ∃ y, es[j]? = some y := ⟨_, List.getElem?_eq_getElem (by rw [HE.out.2]; omega)⟩
            have HZ : Hid (EItem lim w S (some ⟨D, off, none⟩) j y ∧ es[j]? = some y) := ⟨HE.out.1 j y hy, hy⟩
            clear hy
            obtain ⟨D', off', b0, b1, b2, b3, eA, hD', d0, d1, d2, d3, d4, d5, d6, d7, hein⟩ := HZ.out.1.ein
            simp only [Option.some.injEq, Addr.mk.injEq, and_true] at eA
            obtain ⟨rfl, rfl⟩ := eA
            obtain ⟨G, wf, hG1, hG2⟩ := grown_class w.heap.size w
            have p0 : ∀ g, (wf g).cell? ⟨D, off + i * 8, none⟩ = some (c0) := fun g => (World.cell?_of_block ((hG1 g).block D (HS.out D HY.out.1))).trans HY.out.2.1
            have p1 : ∀ g, (wf g).cell? ⟨D, off + i * 8 + 1, none⟩ = some (c1) := fun g => (World.cell?_of_block ((hG1 g).block D (HS.out D HY.out.1))).trans HY.out.2.2.1
            have p2 : ∀ g, (wf g).cell? ⟨D, off + i * 8 + 2, none⟩ = some (c2) := fun g => (World.cell?_of_block ((hG1 g).block D (HS.out D HY.out.1))).trans HY.out.2.2.2.1
            have p3 : ∀ g, (wf g).cell? ⟨D, off + i * 8 + 3, none⟩ = some (c3) := fun g => (World.cell?_of_block ((hG1 g).block D (HS.out D HY.out.1))).trans HY.out.2.2.2.2.1
            have p4 : ∀ g, (wf g).cell? ⟨D, off + i * 8 + 4, none⟩ = some (.int .i64 e.start) := fun g => (World.cell?_of_block ((hG1 g).block D (HS.out D HY.out.1))).trans HY.out.2.2.2.2.2.1
            have p5 : ∀ g, (wf g).cell? ⟨D, off + i * 8 + 5, none⟩ = some (.int .i64 e.fin) := fun g => (World.cell?_of_block ((hG1 g).block D (HS.out D HY.out.1))).trans HY.out.2.2.2.2.2.2.1
            have p6 : ∀ g, (wf g).cell? ⟨D, off + i * 8 + 6, none⟩ = some (.bool e.pend) := fun g => (World.cell?_of_block ((hG1 g).block D (HS.out D HY.out.1))).trans HY.out.2.2.2.2.2.2.2.1
            have p7 : ∀ g, (wf g).cell? ⟨D, off + i * 8 + 7, none⟩ = some (.int .u64 e.hv) := fun g => (World.cell?_of_block ((hG1 g).block D (HS.out D HY.out.1))).trans HY.out.2.2.2.2.2.2.2.2.1
            have q0 : ∀ g, (wf g).cell? ⟨D, off + j * 8, none⟩ = some (b0) := fun g => (World.cell?_of_block ((hG1 g).block D (HS.out D hD'))).trans d0
            have q1 : ∀ g, (wf g).cell? ⟨D, off + j * 8 + 1, none⟩ = some (b1) := fun g => (World.cell?_of_block ((hG1 g).block D (HS.out D hD'))).trans d1
            have q2 : ∀ g, (wf g).cell? ⟨D, off + j * 8 + 2, none⟩ = some (b2) := fun g => (World.cell?_of_block ((hG1 g).block D (HS.out D hD'))).trans d2
            have q3 : ∀ g, (wf g).cell? ⟨D, off + j * 8 + 3, none⟩ = some (b3) := fun g => (World.cell?_of_block ((hG1 g).block D (HS.out D hD'))).trans d3
            have q4 : ∀ g, (wf g).cell? ⟨D, off + j * 8 + 4, none⟩ = some (.int .i64 y.start) := fun g => (World.cell?_of_block ((hG1 g).block D (HS.out D hD'))).trans d4
            have q5 : ∀ g, (wf g).cell? ⟨D, off + j * 8 + 5, none⟩ = some (.int .i64 y.fin) := fun g => (World.cell?_of_block ((hG1 g).block D (HS.out D hD'))).trans d5
            have q6 : ∀ g, (wf g).cell? ⟨D, off + j * 8 + 6, none⟩ = some (.bool y.pend) := fun g => (World.cell?_of_block ((hG1 g).block D (HS.out D hD'))).trans d6
            have q7 : ∀ g, (wf g).cell? ⟨D, off + j * 8 + 7, none⟩ = some (.int .u64 y.hv) := fun g => (World.cell?_of_block ((hG1 g).block D (HS.out D hD'))).trans d7
            have hE1 := HY.out.2.2.2.2.2.2.2.2.2
            have hke : cmpE e y = 0 ↔ e.key = y.key := by rw [cmpE_eq e y (hE1.pf hein)]; exact lexS_zero _ _
            have hcall : ∀ g, Calls Try.prog 16 #[.agg #[c0, c1, c2, c3, .int .i64 e.start, .int .i64 e.fin, .bool e.pend, .int .u64 e.hv], .agg #[b0, b1, b2, b3, .int .i64 y.start, .int .i64 y.fin, .bool y.pend, .int .u64 y.hv]] (wf g) fun r w'' => r = .returned (.int .i64 (cmpE e y)) ∧ ∃ g', w'' = wf g' := fun g =>
              (cmpElem_16 (wf g) S _ _ e y (hE1.frame (fun k hk => (hG1 g).block k (HS.out k hk)) (fun _ h => h)) (hein.frame (fun k hk => (hG1 g).block k (HS.out k hk)) (fun _ h => h)) (fun k hk => Nat.lt_of_lt_of_le (HS.out k hk) (hG1 g).size)).mono fun r w'' ⟨h1, h2⟩ => ⟨h1, hG2 w'' ((hG1 g).trans (h2.mono (hG1 g).size))⟩
            obtain ⟨g0, hg0⟩ := hG2 { wr with drawn := wr.drawn + 1 } ⟨HQ.out.2.os, HQ.out.2.tape, HQ.out.2.output, HQ.out.2.size, HQ.out.2.block⟩
            haveI : Nonempty G := ⟨g0⟩
            have HG0 : Hid ({ wr with drawn := wr.drawn + 1 } = wf g0) := hg0
            have HGG : Hid (∀ g, Below w.heap.size w (wf g)) := hG1
            have HKE : Hid (cmpE e y = 0 ↔ e.key = y.key) := hke
            clear hE1 hke hg0 hG1 hG2 d0 d1 d2 d3 d4 d5 d6 d7 hein hD'
            obtain ⟨cc, hcc⟩ : ∃ cc, cc = cmpE e y := ⟨_, rfl⟩
            rw [← hcc] at hcall
            have HCC : Hid (cc = cmpE e y) := hcc
            clear hcc
            by_cases hz : cc = 0
            · subst hz
              by_cases hv : e.hv = y.hv
              · have hv' : (e.hv != y.hv) = false := by simpa using hv
                have HVV : Hid (e.hv = y.hv) := hv
                clear hv
                go_wp2_with fail
                refine wp_region_quiet_in wf mixed (by kernel_rfl) g0 HG0.out ?_
                repeat (go_big_quiet_step ((exact hcall _)))
                refine wpQuiet_nil ?_
                rintro _ ⟨g, rfl⟩
                clear p0 p1 p2 p3 p4 p5 p6 p7 q0 q1 q2 q3 q4 q5 q6 q7 hcall
                go_wp2_with fail
                go_roundg (gk - 1)
                case rel =>
                  refine ⟨j + 1, by have := HG.out; omega, by go_num, fun b z hb hz hk => ?_, HGG.out g⟩
                  by_cases hbj : b < j
                  · exact HQ.out.1 b z hbj hz hk
                  · obtain rfl : b = j := by omega
                    rw [HZ.out.2] at hz
                    cases hz
                    exact HVV.out
                case measure => have := HG.out; omega
              · have hv' : (e.hv != y.hv) = true := by simpa using hv
                go_wp2_with fail
                refine wp_region_quiet_in wf mixed (by kernel_rfl) g0 HG0.out ?_
                repeat (go_big_quiet_step ((exact hcall _)))
                refine wpQuiet_nil ?_
                rintro _ ⟨g, rfl⟩
                clear p0 p1 p2 p3 p4 p5 p6 p7 q0 q1 q2 q3 q4 q5 q6 q7 hcall
                go_wp2_with fail
                go_ret
                exact ⟨⟨false, rfl, fun h => by cases h⟩, HGG.out g⟩
            · have hz' : (cc == 0) = false := by simpa using hz
              have HZN : Hid (¬ cc = 0) := hz
              clear hz
              go_wp2_with fail
              refine wp_region_quiet_in wf mixed (by kernel_rfl) g0 HG0.out ?_
              repeat (go_big_quiet_step ((exact hcall _)))
              refine wpQuiet_nil ?_
              rintro _ ⟨g, rfl⟩
              clear p0 p1 p2 p3 p4 p5 p6 p7 q0 q1 q2 q3 q4 q5 q6 q7 hcall
              go_wp2_with fail
              go_roundg (gk - 1)
              case rel =>
                refine ⟨j + 1, by have := HG.out; omega, by go_num, fun b z hb hz hk => ?_, HGG.out g⟩
                by_cases hbj : b < j
                · exact HQ.out.1 b z hbj hz hk
                · obtain rfl : b = j := by omega
                  rw [HZ.out.2] at hz
                  cases hz
                  exact (HZN.out (HCC.out.trans (HKE.out.2 hk))).elim
              case measure => have := HG.out; omega
          · obtain rfl : j = i := by omega
            go_wp2_with fail
            go_roundg (gq - 1)
            case rel =>
              refine ⟨j + 1, by have := HJ.out; omega, by go_num, ?_, HQ.out.2⟩
              obtain ⟨f1, f2⟩ := HI.out.1
              refine ⟨fun a x ha hx => ?_, fun a b x y ha hb hx hy hk => ?_⟩
              · by_cases haj : a < j
                · exact f1 a x haj hx
                · obtain rfl : a = j := by omega
                  rw [HX.out.2] at hx
                  cases hx
                  unfold MP; omega
              · by_cases haj : a < j
                · exact f2 a b x y haj hb hx hy hk
                · obtain rfl : a = j := by omega
                  rw [HX.out.2] at hx
                  cases hx
                  exact HQ.out.1 b y hb hy hk
            case measure => have := HGQ.out; have := HJ.out; omega
    · obtain rfl : i = len := by omega
      go_wp2_with fail
      go_ret
      refine ⟨⟨true, rfl, fun _ => ?_⟩, HI.out.2⟩
      have h := HI.out.1
      rw [← HE.out.2] at h
      exact h.all
end Go.Proofs.Qxb6613283a
