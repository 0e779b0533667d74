/-
  THE WALK of reads.
-/
import Derived.Test.Qxb6613283aWalkX
import Derived.Test.Qxb6613283aWalkW
namespace Go.Proofs.Qxb6613283a
open Go.RowKit
open Go.Deep (BT)

set_option maxHeartbeats 4000000 in
set_option maxRecDepth 100000 in
theorem reads_11 (w : World) (S T : Nat → Prop) (A : Option Addr) (len cap : Nat) (es : List El) (v : Option Addr) (hes : SIn lim w S A es) (hl : es.length = len) (hll : len ≤ 4096) (hS : ∀ k, S k → k < w.heap.size) (hT : ∀ k, T k → k < w.heap.size) (hoe : ∀ e, e ∈ es → OkE e) (hfit : FitE es) (ht : TIn w T (allT .nil es) v) :
    Calls Try.prog 11 #[.pointer v, .slice A len cap] w fun r w' => r = .returned (.bool true) ∧ Below w.heap.size w w' := by
  obtain ⟨q1, q2, q3⟩ := allT_ok es hfit es .nil (fun _ h => h) (fun _ h => by simp [toL] at h) List.Pairwise.nil trivial
  have q4 : toL (allT .nil es) = allL [] es := q1
  have hlen : (allL [] es).length ≤ len := by have h := allL_len es []; simp at h; omega
  have hsz : szT (allT .nil es) = len := by rw [allT_sz, hl]; simp [szT]
  have hct := allT_ct es .nil trivial
  have hdp := dpT_le (allT .nil es) hct
  have h18 := walk_18 (allT .nil es) w T (fun _ => False) v (len + 1) w.heap.size none 0 [] len ht (fun k hk => ⟨hT k hk, by simp [Value.ownBlock]⟩) (fun k hk => hk.elim) q2 hct (allT_okT es .nil hoe trivial) (by omega) (.inl ⟨rfl, rfl⟩) (Nat.le_refl _) (by omega) (by omega) (by rw [q4]; simpa using hlen) hll
  rw [show ((len + 1 : Nat) : Int) = (len : Int) + 1 by omega, q4] at h18
  obtain ⟨N, hN⟩ : ∃ N, N = w.heap.size := ⟨_, rfl⟩
  have HN : Hid (N = w.heap.size) := hN
  have HE : Hid (SIn lim w S A es ∧ es.length = len ∧ (∀ k, S k → k < N) ∧ szL (allL [] es) = len) := ⟨hes, hl, by rw [hN]; exact hS, by rw [allL_szL, hl]; simp [szL]⟩
  obtain ⟨R, hR⟩ : ∃ R, R = allL [] es := ⟨_, rfl⟩
  have HR : Hid (R = allL [] es) := hR
  rw [← hR] at h18 hlen
  rw [← hN] at h18 ⊢
  simp only [List.length_nil, List.nil_append] at h18
  clear hes hl hS hT hoe hfit ht q1 q2 q3 q4 hsz hct hdp hN hR
  go_enter Try.func11, Try.ntmps11
  go_wp2_with fail
  refine h18.mono ?_
  clear h18
  rintro r w1 ⟨A1, cap1, n1, hn1, rfl, hg1, hgr1⟩
  have HW1 : Hid (GIn w1 (fun k => False ∨ (N ≤ k ∧ Sof w1 (.slice A1 n1 cap1) k)) N 61 f32 (.slice A1 n1 cap1) R ∧ Below N w w1 ∧ N ≤ w1.heap.size ∧ n1 = R.length) := by
    have hs := hgr1.1.size
    rw [← HN.out] at hs
    exact ⟨hg1, ⟨hgr1.1.os, hgr1.1.tape, hgr1.1.output, hgr1.1.size, fun k hk => hgr1.1.block k (by rw [← HN.out]; exact hk) (by simp [Value.ownBlock])⟩, hs, hn1⟩
  clear hg1 hgr1 hn1
  go_upto_region 4 with fail
  generalize hw2 : w1.alloc _ = w2
  have HW2 : Hid (Below w1.heap.size w1 w2 ∧ Below N w w2 ∧ N ≤ w2.heap.size) := by
    have b1 : Below w1.heap.size w1 w2 := by rw [← hw2]; exact alloc_below _ _
    exact ⟨b1, HW1.out.2.1.trans (b1.mono HW1.out.2.2.1), Nat.le_trans HW1.out.2.2.1 b1.size⟩
  clear hw2
  have h19 := model_19 w2 S A len cap es (HE.out.1.frame (fun k hk => HW2.out.2.1.block k (HE.out.2.2.1 k hk)) (fun _ h => h)) HE.out.2.1 hll (fun k hk => Nat.lt_of_lt_of_le (HE.out.2.2.1 k hk) HW2.out.2.2)
  rw [← HR.out] at h19
  go_wp2_with fail
  refine h19.mono ?_
  clear h19
  rintro r w3 ⟨A2, cap2, n2, hn2, rfl, hg2, hb3⟩
  have hnn : n2 = n1 := by rw [hn2, HW1.out.2.2.2]
  subst hnn
  have HW3 : Hid (GIn w3 (fun k => False ∨ (N ≤ k ∧ Sof w1 (.slice A1 n2 cap1) k)) N 61 f32 (.slice A1 n2 cap1) R ∧ GIn w3 S w2.heap.size 63 f64 (.slice A2 n2 cap2) R ∧ Below N w w3 ∧ N ≤ w3.heap.size ∧ n2 = R.length ∧ w1.heap.size ≤ w3.heap.size) := by
    have b13 : Below w1.heap.size w1 w3 := HW2.out.1.trans (hb3.mono HW2.out.1.size)
    exact ⟨HW1.out.1.frame (fun k hk => by rcases hk with h | h; exact h.elim; exact b13.block k h.2.1) (fun k hk => b13.block k (HW1.out.1.lt k hk).2) (fun _ h => h), hg2, HW1.out.2.1.trans (b13.mono HW1.out.2.2.1), Nat.le_trans HW1.out.2.2.1 b13.size, hn2, b13.size⟩
  clear hn2 hg2 hb3 HW1 HW2
  go_wp2_with fail
  go_loopg [32] n2 (fun gf iv wq => ∃ (j : Nat), j + gf = n2 ∧ iv = .int .i64 j ∧ Below w3.heap.size w3 wq)
  case atStart => exact ⟨0, by omega, rfl, Below.refl _ _⟩
  case round =>
    obtain ⟨j, hj1, rfl, hbq⟩ := hrel
    have HI : Hid (j + gk = n2) := hj1
    have HQ : Hid (Below w3.heap.size w3 wr) := hbq
    have hjl : j ≤ n2 := by omega
    have hn4 : n2 ≤ 4096 := by have := HW3.out.2.2.2.2.1; omega
    clear hj1 hbq
    by_cases hjn : j < n2
    · obtain ⟨y, hy⟩ : ∃ y, R[j]? = some y := ⟨_, List.getElem?_eq_getElem (by rw [← HW3.out.2.2.2.2.1]; omega)⟩
      have hyc : (y.2 : Int) ≤ 4096 := by have h := szL_mem (List.mem_of_getElem? hy); rw [HR.out, HE.out.2.2.2] at h; omega
      obtain ⟨g, capa, a0, a1, a2, a3, hv, hgl, _, r0, r1, r2, r3, r4, r5, r6, r7, r8, hey⟩ := HW3.out.1.read hy
      simp only [Value.slice.injEq] at hv
      obtain ⟨rfl, hq8, rfl⟩ := hv
      obtain ⟨g', capb, b0, b1, b2, b3, hv, hgl', _, u0, u1, u2, u3, u4, u5, u6, u7, u8, hey'⟩ := HW3.out.2.1.read hy
      simp only [Value.slice.injEq] at hv
      obtain ⟨rfl, hq9, rfl⟩ := hv
      clear hq8 hq9
      obtain ⟨G, wf, hG1, hG2⟩ := grown_class w3.heap.size w3
      have p0 : ∀ x, (wf x).cell? ⟨g, j * 9, none⟩ = some (a0) := fun x => (World.cell?_of_block ((hG1 x).block g hgl)).trans r0
      have q0 : ∀ x, (wf x).cell? ⟨g', j * 9, none⟩ = some (b0) := fun x => (World.cell?_of_block ((hG1 x).block g' hgl')).trans u0
      have p1 : ∀ x, (wf x).cell? ⟨g, j * 9 + 1, none⟩ = some (a1) := fun x => (World.cell?_of_block ((hG1 x).block g hgl)).trans r1
      have q1 : ∀ x, (wf x).cell? ⟨g', j * 9 + 1, none⟩ = some (b1) := fun x => (World.cell?_of_block ((hG1 x).block g' hgl')).trans u1
      have p2 : ∀ x, (wf x).cell? ⟨g, j * 9 + 2, none⟩ = some (a2) := fun x => (World.cell?_of_block ((hG1 x).block g hgl)).trans r2
      have q2 : ∀ x, (wf x).cell? ⟨g', j * 9 + 2, none⟩ = some (b2) := fun x => (World.cell?_of_block ((hG1 x).block g' hgl')).trans u2
      have p3 : ∀ x, (wf x).cell? ⟨g, j * 9 + 3, none⟩ = some (a3) := fun x => (World.cell?_of_block ((hG1 x).block g hgl)).trans r3
      have q3 : ∀ x, (wf x).cell? ⟨g', j * 9 + 3, none⟩ = some (b3) := fun x => (World.cell?_of_block ((hG1 x).block g' hgl')).trans u3
      have p4 : ∀ x, (wf x).cell? ⟨g, j * 9 + 4, none⟩ = some (.int .i64 y.1.start) := fun x => (World.cell?_of_block ((hG1 x).block g hgl)).trans r4
      have q4 : ∀ x, (wf x).cell? ⟨g', j * 9 + 4, none⟩ = some (.int .i64 y.1.start) := fun x => (World.cell?_of_block ((hG1 x).block g' hgl')).trans u4
      have p5 : ∀ x, (wf x).cell? ⟨g, j * 9 + 5, none⟩ = some (.int .i64 y.1.fin) := fun x => (World.cell?_of_block ((hG1 x).block g hgl)).trans r5
      have q5 : ∀ x, (wf x).cell? ⟨g', j * 9 + 5, none⟩ = some (.int .i64 y.1.fin) := fun x => (World.cell?_of_block ((hG1 x).block g' hgl')).trans u5
      have p6 : ∀ x, (wf x).cell? ⟨g, j * 9 + 6, none⟩ = some (.bool y.1.pend) := fun x => (World.cell?_of_block ((hG1 x).block g hgl)).trans r6
      have q6 : ∀ x, (wf x).cell? ⟨g', j * 9 + 6, none⟩ = some (.bool y.1.pend) := fun x => (World.cell?_of_block ((hG1 x).block g' hgl')).trans u6
      have p7 : ∀ x, (wf x).cell? ⟨g, j * 9 + 7, none⟩ = some (.int .u64 y.1.hv) := fun x => (World.cell?_of_block ((hG1 x).block g hgl)).trans r7
      have q7 : ∀ x, (wf x).cell? ⟨g', j * 9 + 7, none⟩ = some (.int .u64 y.1.hv) := fun x => (World.cell?_of_block ((hG1 x).block g' hgl')).trans u7
      have p8 : ∀ x, (wf x).cell? ⟨g, j * 9 + 8, none⟩ = some (.int .i32 (y.2 : Int)) := fun x => (World.cell?_of_block ((hG1 x).block g hgl)).trans r8
      have q8 : ∀ x, (wf x).cell? ⟨g', j * 9 + 8, none⟩ = some (.int .i64 (y.2 : Int)) := fun x => (World.cell?_of_block ((hG1 x).block g' hgl')).trans u8
      have hcall : ∀ x, Calls Try.prog 20 #[.agg #[a0, a1, a2, a3, .int .i64 y.1.start, .int .i64 y.1.fin, .bool y.1.pend, .int .u64 y.1.hv], .agg #[b0, b1, b2, b3, .int .i64 y.1.start, .int .i64 y.1.fin, .bool y.1.pend, .int .u64 y.1.hv]] (wf x) fun r w'' => r = .returned (.bool true) ∧ ∃ x', w'' = wf x' := fun x =>
        (sameElem_20 (wf x) (fun k => k < w3.heap.size) _ _ y.1 y.1 (hey.frame (fun k hk => by rcases hk with h | h; exact h.elim; exact (hG1 x).block k (Nat.lt_of_lt_of_le h.2.1 HW3.out.2.2.2.2.2)) (fun k hk => by rcases hk with h | h; exact h.elim; exact Nat.lt_of_lt_of_le h.2.1 HW3.out.2.2.2.2.2)) (hey'.frame (fun k hk => (hG1 x).block k (Nat.lt_of_lt_of_le (HE.out.2.2.1 k hk) HW3.out.2.2.2.1)) (fun k hk => Nat.lt_of_lt_of_le (HE.out.2.2.1 k hk) HW3.out.2.2.2.1)) (fun k hk => Nat.lt_of_lt_of_le hk (hG1 x).size) ⟨rfl, rfl, rfl, rfl, rfl⟩).mono fun r w'' ⟨h1, h2⟩ => ⟨h1, hG2 w'' ((hG1 x).trans (h2.mono (hG1 x).size))⟩
      obtain ⟨x0, hx0⟩ := hG2 { wr with drawn := wr.drawn + 1 } ⟨HQ.out.os, HQ.out.tape, HQ.out.output, HQ.out.size, HQ.out.block⟩
      haveI : Nonempty G := ⟨x0⟩
      have HG0 : Hid ({ wr with drawn := wr.drawn + 1 } = wf x0) := hx0
      have HGG : Hid (∀ x, Below w3.heap.size w3 (wf x)) := hG1
      have hwc : IntKind.i64.wrap (y.2 : Int) = y.2 := by rw [IntKind.wrap_i64]; omega
      clear hx0 hG1 hG2 r0 r1 r2 r3 r4 r5 r6 r7 r8 u0 u1 u2 u3 u4 u5 u6 u7 u8 hey hey' hgl hgl' hy
      go_wp2_with fail
      refine wp_region_quiet_in wf mixed (by kernel_rfl) x0 HG0.out ?_
      repeat (go_big_quiet_step ((exact hcall _)))
      refine wpQuiet_nil ?_
      rintro _ ⟨x, rfl⟩
      clear p0 p1 p2 p3 p4 p5 p6 p7 p8 q0 q1 q2 q3 q4 q5 q6 q7 q8 hcall
      go_wp2_with fail
      go_roundg (gk - 1)
      case rel => exact ⟨j + 1, by have := HI.out; omega, by go_num, HGG.out x⟩
      case measure => have := HI.out; omega
    · obtain rfl : j = n2 := by omega
      go_wp2_with fail
      go_ret
      exact ⟨rfl, HW3.out.2.2.1.trans (HQ.out.mono HW3.out.2.2.2.1)⟩
end Go.Proofs.Qxb6613283a
