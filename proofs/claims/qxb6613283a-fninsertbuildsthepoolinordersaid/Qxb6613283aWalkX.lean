/-
  THE WALK of model.
-/
import Derived.Test.Qxb6613283aGins
import Derived.Test.Qxb6613283aWalkWh
namespace Go.Proofs.Qxb6613283a
open Go.RowKit

theorem GIn.some {w : World} {S : Nat → Prop} {B : Nat} {T : TypeId} {f : Nat → Value} {v : Value} {L : List (El × Nat)} (h : GIn w S B T f v L) (hL : L ≠ []) : ∃ g cap cur, v = .slice (.some ⟨g, 0, none⟩) L.length cap ∧ B ≤ g ∧ w.heap[g]? = .some (.cells cur T) := by
  rcases h with ⟨_, h⟩ | ⟨g, cap, cur, h1, h2, h3, _⟩
  · exact absurd h hL
  · exact ⟨g, cap, cur, h1, h2, h3⟩

theorem Grew.alloc' {w w' : World} {v v' : Value} {o : Obj} (h : (w.alloc o).grownBy w' v.ownBlock) (h' : v'.ownBlock = v.ownBlock ∨ ∃ g, v'.ownBlock = some g ∧ w.heap.size + 1 ≤ g) : Grew w w' v v' :=
  (Grew.below (alloc_below w o)).trans ⟨h, h'.elim .inl (fun ⟨g, h1, h2⟩ => .inr ⟨g, h1, by simpa using h2⟩)⟩

theorem set_pos {M C : List (El × Nat)} {p : El × Nat} {k n : Nat} (hn : M.length = n) (hC : C.length = n + 1) (hk : k ≤ n) (h1 : ∀ j, j < k → C[j]? = M[j]?) (h2 : ∀ j, k ≤ j → j < n → C[j + 1]? = M[j]?) : C.set k p = M.take k ++ p :: M.drop k := by
  refine List.ext_getElem? fun j => ?_
  have hl : (M.take k).length = k := by rw [List.length_take]; omega
  rw [List.getElem?_set]
  by_cases hj : j < k
  · rw [if_neg (by omega), h1 j hj, List.getElem?_append_left (by omega), List.getElem?_take, if_pos hj]
  · by_cases hj' : j = k
    · subst hj'
      rw [if_pos rfl, if_pos (by omega), List.getElem?_append_right (by omega), hl, Nat.sub_self]
      rfl
    · rw [if_neg (by omega), List.getElem?_append_right (by omega), hl]
      obtain ⟨d, rfl⟩ : ∃ d, j = k + 1 + d := ⟨j - (k + 1), by omega⟩
      rw [show k + 1 + d - k = d + 1 by omega, List.getElem?_cons_succ, List.getElem?_drop]
      by_cases hd : k + d < n
      · rw [show k + 1 + d = (k + d) + 1 by omega, h2 (k + d) (by omega) hd]
      · rw [List.getElem?_eq_none (by omega), List.getElem?_eq_none (by omega)]

set_option maxHeartbeats 4000000 in
set_option maxRecDepth 100000 in
theorem model_19 (w : World) (S : Nat → Prop) (A : Option Addr) (len cap : Nat) (es : List El) (hes : SIn lim w S A es) (hl : es.length = len) (hll : len ≤ 4096) (hS : ∀ k, S k → k < w.heap.size) :
    Calls Try.prog 19 #[.slice A len cap] w fun r w' => ∃ A' cap' n, n = (allL [] es).length ∧ r = .returned (.slice A' n cap') ∧ GIn w' S w.heap.size 63 f64 (.slice A' n cap') (allL [] es) ∧ Below w.heap.size w w' := by
  have HE : Hid (SIn lim w S A es ∧ es.length = len) := ⟨hes, hl⟩
  obtain ⟨N, hN⟩ : ∃ N, N = w.heap.size := ⟨_, rfl⟩
  have HN : Hid (N = w.heap.size) := hN
  have HS : Hid (∀ k, S k → k < N) := by rw [hN]; exact hS
  rw [← hN]
  clear hes hl hS hN
  go_enter Try.func19, Try.ntmps19
  go_wp2_with fail
  go_loopg [3, 11] len (fun gf gv iv wr => ∃ (i : Nat) (A1 : Option Addr) (cap1 n : Nat), i + gf = len ∧ gv = .slice A1 n cap1 ∧ iv = .int .i64 i ∧ n = (allL [] (es.take i)).length ∧ GIn wr S N 63 f64 (.slice A1 n cap1) (allL [] (es.take i)) ∧ Below N w wr)
  case atStart => exact ⟨0, none, 0, 0, by omega, rfl, rfl, rfl, .inl ⟨rfl, rfl⟩, Below.refl _ _⟩
  case round =>
    obtain ⟨i, A1, cap1, n, hj0, rfl, rfl, hn, hG, hbel⟩ := hrel
    obtain ⟨gq, hgq⟩ : ∃ gq, gq = gk := ⟨_, rfl⟩
    have HGQ : Hid (gq = gk) := hgq
    have HJ : Hid (i + gq = len) := by rw [hgq]; exact hj0
    have hil : i ≤ len := by omega
    obtain ⟨M, hM⟩ : ∃ M, M = allL [] (es.take i) := ⟨_, rfl⟩
    have HM : Hid (M = allL [] (es.take i) ∧ Srt M) := ⟨hM, by rw [hM]; exact allL_srt _ _ List.Pairwise.nil⟩
    rw [← hM] at hn hG
    have hsM : szL M = i := by rw [hM, allL_szL, List.length_take, HE.out.2]; simp [szL]; omega
    have hlM : M.length ≤ i := by have h := allL_len (es.take i) []; rw [← hM, List.length_take] at h; simp at h; omega
    obtain ⟨wo, hwo⟩ : ∃ wo, wo = wr := ⟨_, rfl⟩
    rw [← hwo] at hG hbel ⊢
    have HG : Hid (GIn wo S N 63 f64 (.slice A1 n cap1) M ∧ Below N w wo ∧ n = M.length ∧ szL M = i) := ⟨hG, hbel, hn, hsM⟩
    have hnl : n ≤ 4096 := by omega
    have hNs : N ≤ wo.heap.size := by rw [HN.out]; exact hbel.size
    clear hj0 hgq hM hG hbel hwo hsM hlM hn
    by_cases hlt : i < len
    · obtain ⟨e, he⟩ : ∃ e, es[i]? = some e := ⟨_, List.getElem?_eq_getElem (by rw [HE.out.2]; exact hlt)⟩
      have HX : Hid (EItem lim w S A i e ∧ es[i]? = some e) := ⟨HE.out.1 i e he, he⟩
      clear he
      obtain ⟨D, off, nn, kk, vv, ss, Bb, bl, bc, rfl, hD, d0, d1, d2, d3, d4, d5, d6, d7, hvv⟩ := HX.out.1.at
      have hein : EIn w S #[.int .u8 kk, .int .i64 vv, .string ss, .slice Bb bl bc, .int .i64 e.start, .int .i64 e.fin, .bool e.pend, .int .u64 e.hv] e := ⟨nn, kk, vv, ss, Bb, bl, bc, rfl, hvv⟩
      have HY : Hid (S D ∧ w.cell? ⟨D, off + i * 8, none⟩ = some (.int .u8 kk) ∧ w.cell? ⟨D, off + i * 8 + 1, none⟩ = some (.int .i64 vv) ∧ w.cell? ⟨D, off + i * 8 + 2, none⟩ = some (.string ss) ∧ w.cell? ⟨D, off + i * 8 + 3, none⟩ = some (.slice Bb bl bc) ∧ w.cell? ⟨D, off + i * 8 + 4, none⟩ = some (.int .i64 e.start) ∧ w.cell? ⟨D, off + i * 8 + 5, none⟩ = some (.int .i64 e.fin) ∧ w.cell? ⟨D, off + i * 8 + 6, none⟩ = some (.bool e.pend) ∧ w.cell? ⟨D, off + i * 8 + 7, none⟩ = some (.int .u64 e.hv) ∧ EIn w S #[.int .u8 kk, .int .i64 vv, .string ss, .slice Bb bl bc, .int .i64 e.start, .int .i64 e.fin, .bool e.pend, .int .u64 e.hv] e) := ⟨hD, d0, d1, d2, d3, d4, d5, d6, d7, hein⟩
      clear d0 d1 d2 d3 d4 d5 d6 d7 hein hD hvv
      by_cases hfd : ∃ (j : Nat) (y : El × Nat), M[j]? = some y ∧ cmpK y.1 e = 0
      · obtain ⟨j0, y0, hy0, hz0⟩ := hfd
        have HF : Hid (M[j0]? = some y0 ∧ cmpK y0.1 e = 0) := ⟨hy0, hz0⟩
        have hj0n : j0 < n := by rw [HG.out.2.2.1]; exact (List.getElem?_eq_some_iff.1 hy0).1
        clear hy0 hz0
        go_wp2_with fail
        go_loopg [5, 16] n (fun gf fv jv wq => ∃ (j : Nat), j + gf = n ∧ fv = .bool false ∧ jv = .int .i64 j ∧ j ≤ j0 ∧ Below wo.heap.size wo wq)
        case atStart => exact ⟨0, by omega, rfl, rfl, by omega, Below.refl _ _⟩
        case round =>
          obtain ⟨j, hj1, rfl, rfl, hjj, hbq⟩ := hrel
          have HI : Hid (j + gk = n) := hj1
          have HQ : Hid (True ∧ Below wo.heap.size wo wr) := ⟨trivial, hbq⟩
          have hjn : j < n := by omega
          clear hj1 hbq
          obtain ⟨y, hy⟩ : ∃ y, M[j]? = some y := ⟨_, List.getElem?_eq_getElem (by rw [← HG.out.2.2.1]; omega)⟩
          have HZ : Hid (M[j]? = some y) := hy
          obtain ⟨g, cap2, b0, b1, b2, b3, hv, hgl, hgB, r0, r1, r2, r3, r4, r5, r6, r7, r8, hey⟩ := HG.out.1.read hy
          simp only [Value.slice.injEq] at hv
          obtain ⟨rfl, _, rfl⟩ := hv
          obtain ⟨G, wf, hG1, hG2⟩ := grown_class wo.heap.size wo
          have hG3 : ∀ x, Below N w (wf x) := fun x => HG.out.2.1.trans ((hG1 x).mono hNs)
          have p0 : ∀ x, (wf x).cell? ⟨D, off + i * 8, none⟩ = some (.int .u8 kk) := fun x => (World.cell?_of_block ((hG3 x).block D (HS.out D HY.out.1))).trans HY.out.2.1
          have p1 : ∀ x, (wf x).cell? ⟨D, off + i * 8 + 1, none⟩ = some (.int .i64 vv) := fun x => (World.cell?_of_block ((hG3 x).block D (HS.out D HY.out.1))).trans HY.out.2.2.1
          have p2 : ∀ x, (wf x).cell? ⟨D, off + i * 8 + 2, none⟩ = some (.string ss) := fun x => (World.cell?_of_block ((hG3 x).block D (HS.out D HY.out.1))).trans HY.out.2.2.2.1
          have p3 : ∀ x, (wf x).cell? ⟨D, off + i * 8 + 3, none⟩ = some (.slice Bb bl bc) := fun x => (World.cell?_of_block ((hG3 x).block D (HS.out D HY.out.1))).trans HY.out.2.2.2.2.1
          have p4 : ∀ x, (wf x).cell? ⟨D, off + i * 8 + 4, none⟩ = some (.int .i64 e.start) := fun x => (World.cell?_of_block ((hG3 x).block D (HS.out D HY.out.1))).trans HY.out.2.2.2.2.2.1
          have p5 : ∀ x, (wf x).cell? ⟨D, off + i * 8 + 5, none⟩ = some (.int .i64 e.fin) := fun x => (World.cell?_of_block ((hG3 x).block D (HS.out D HY.out.1))).trans HY.out.2.2.2.2.2.2.1
          have p6 : ∀ x, (wf x).cell? ⟨D, off + i * 8 + 6, none⟩ = some (.bool e.pend) := fun x => (World.cell?_of_block ((hG3 x).block D (HS.out D HY.out.1))).trans HY.out.2.2.2.2.2.2.2.1
          have p7 : ∀ x, (wf x).cell? ⟨D, off + i * 8 + 7, none⟩ = some (.int .u64 e.hv) := fun x => (World.cell?_of_block ((hG3 x).block D (HS.out D HY.out.1))).trans HY.out.2.2.2.2.2.2.2.2.1
          have q0 : ∀ x, (wf x).cell? ⟨g, j * 9, none⟩ = some (b0) := fun x => (World.cell?_of_block ((hG1 x).block g hgl)).trans r0
          have q1 : ∀ x, (wf x).cell? ⟨g, j * 9 + 1, none⟩ = some (b1) := fun x => (World.cell?_of_block ((hG1 x).block g hgl)).trans r1
          have q2 : ∀ x, (wf x).cell? ⟨g, j * 9 + 2, none⟩ = some (b2) := fun x => (World.cell?_of_block ((hG1 x).block g hgl)).trans r2
          have q3 : ∀ x, (wf x).cell? ⟨g, j * 9 + 3, none⟩ = some (b3) := fun x => (World.cell?_of_block ((hG1 x).block g hgl)).trans r3
          have q4 : ∀ x, (wf x).cell? ⟨g, j * 9 + 4, none⟩ = some (.int .i64 y.1.start) := fun x => (World.cell?_of_block ((hG1 x).block g hgl)).trans r4
          have q5 : ∀ x, (wf x).cell? ⟨g, j * 9 + 5, none⟩ = some (.int .i64 y.1.fin) := fun x => (World.cell?_of_block ((hG1 x).block g hgl)).trans r5
          have q6 : ∀ x, (wf x).cell? ⟨g, j * 9 + 6, none⟩ = some (.bool y.1.pend) := fun x => (World.cell?_of_block ((hG1 x).block g hgl)).trans r6
          have q7 : ∀ x, (wf x).cell? ⟨g, j * 9 + 7, none⟩ = some (.int .u64 y.1.hv) := fun x => (World.cell?_of_block ((hG1 x).block g hgl)).trans r7
          have hE1 := HY.out.2.2.2.2.2.2.2.2.2
          have hcall : ∀ x, Calls Try.prog 16 #[.agg #[b0, b1, b2, b3, .int .i64 y.1.start, .int .i64 y.1.fin, .bool y.1.pend, .int .u64 y.1.hv], .agg #[.int .u8 kk, .int .i64 vv, .string ss, .slice Bb bl bc, .int .i64 e.start, .int .i64 e.fin, .bool e.pend, .int .u64 e.hv]] (wf x) fun r w'' => r = .returned (.int .i64 (cmpK y.1 e)) ∧ ∃ x', w'' = wf x' := fun x =>
            (cmpElem_16 (wf x) S _ _ y.1 e (hey.frame (fun k hk => (hG1 x).block k (Nat.lt_of_lt_of_le (HS.out k hk) hNs)) (fun _ h => h)) (hE1.frame (fun k hk => (hG3 x).block k (HS.out k hk)) (fun _ h => h)) (fun k hk => Nat.lt_of_lt_of_le (HS.out k hk) (Nat.le_trans hNs (hG1 x).size))).mono fun r w'' ⟨h1, h2⟩ => ⟨by rw [h1, cmpE_eq _ _ (hey.pf hE1)]; rfl, hG2 w'' ((hG1 x).trans (h2.mono (hG1 x).size))⟩
          obtain ⟨x0, hx0⟩ := hG2 { wr with drawn := wr.drawn + 1 } ⟨HQ.out.2.os, HQ.out.2.tape, HQ.out.2.output, HQ.out.2.size, HQ.out.2.block⟩
          haveI : Nonempty G := ⟨x0⟩
          have HG0 : Hid ({ wr with drawn := wr.drawn + 1 } = wf x0) := hx0
          have HGG : Hid (∀ x, Below wo.heap.size wo (wf x)) := hG1
          have HR : Hid (g < wo.heap.size ∧ N ≤ g ∧ wo.cell? ⟨g, j * 9 + 8, none⟩ = some (f64 y.2)) := ⟨hgl, hgB, r8⟩
          clear hE1 hx0 hG1 hG2 hG3 r0 r1 r2 r3 r4 r5 r6 r7 r8 hey hgl hgB hy
          obtain ⟨cc, hcc⟩ : ∃ cc, cc = cmpK y.1 e := ⟨_, rfl⟩
          rw [← hcc] at hcall
          have HCC : Hid (cc = cmpK y.1 e) := hcc
          clear hcc
          by_cases hj0 : j = j0
          · subst hj0
            have ey : y = y0 := by have h := HZ.out; rw [HF.out.1] at h; cases h; rfl
            subst ey
            have hz : (cc == 0) = true := by have h := HCC.out; rw [HF.out.2] at h; simp [h]
            have hcn : (y.2 : Int) ≤ 4096 := by have h := szL_mem (List.mem_of_getElem? HF.out.1); rw [HG.out.2.2.2] at h; omega
            have hwr : IntKind.i64.wrap ((y.2 : Int) + 1) = (y.2 : Int) + 1 := by rw [IntKind.wrap_i64]; omega
            go_wp2_with fail
            refine wp_region_quiet_in wf mixed (by kernel_rfl) x0 HG0.out ?_
            repeat (go_big_quiet_step ((exact hcall _)))
            refine wpQuiet_nil ?_
            rintro _ ⟨x, rfl⟩
            clear p0 p1 p2 p3 p4 p5 p6 p7 q0 q1 q2 q3 q4 q5 q6 q7 hcall
            have s8 : (wf x).cell? ⟨g, j * 9 + 8, none⟩ = some (.int .i64 (y.2 : Int)) := (World.cell?_of_block ((HGG.out x).block g HR.out.1)).trans HR.out.2.2
            have hgx : GIn (wf x) S N 63 f64 (.slice (some ⟨g, 0, none⟩) n cap1) M := HG.out.1.frame (fun k hk => (HGG.out x).block k (Nat.lt_of_lt_of_le (HS.out k hk) hNs)) (fun k hk => (HGG.out x).block k (HG.out.1.lt k hk).2) (fun _ h => h)
            have sf : (wf x).frozen? ⟨g, j * 9 + 8, none⟩ = false := by
              obtain ⟨g', cap', cur, e1, _, e3⟩ := hgx.some (by intro h; rw [h] at HZ; have := HZ.out; simp at this)
              simp only [Value.slice.injEq, Option.some.injEq, Addr.mk.injEq, and_true] at e1
              rw [e1.1]
              exact bfz e3 _
            have HGX : Hid (GIn (wf x) S N 63 f64 (.slice (some ⟨g, 0, none⟩) n cap1) M) := hgx
            clear hgx
            go_wp2_with fail
            go_roundg (gq - 1)
            case rel =>
              have hup := HGX.out.count (i := j) (p := y) (fun k hk e => by have := HS.out k hk; have := HR.out.2.1; omega) HZ.out (y.2 + 1)
              have hzz : cmpK e y.1 = 0 := by have := HF.out.2; rw [cmpK_neg]; omega
              rw [← insL_found HM.out.2 HZ.out hzz, HM.out.1, ← allL_step HX.out.2] at hup
              have hlen : n = (allL [] (es.take (i + 1))).length := by rw [allL_step HX.out.2, ← HM.out.1, insL_found HM.out.2 HZ.out hzz, List.length_set, HG.out.2.2.1]
              refine ⟨i + 1, some ⟨g, 0, none⟩, cap1, n, by have := HJ.out; omega, rfl, by go_num, hlen, ?_, ?_⟩
              · exact hup
              · exact (HG.out.2.1.trans ((HGG.out x).mono hNs)).setCell HR.out.2.1 _
            case measure => have := HGQ.out; have := HJ.out; omega
          · have hjlt : j < j0 := by omega
            have hz' : cc ≠ 0 := by
              intro h0
              have h := srt_lt HM.out.2 hjlt HZ.out HF.out.1
              have h1 := HCC.out
              have h2 := HF.out.2
              have k1 := (cmpK_zero _ _).1 (h1.symm.trans h0)
              have k2 := (cmpK_zero _ _).1 h2
              rw [(cmpK_zero _ _).2 (k1.trans k2.symm)] at h
              omega
            have hz : (cc == 0) = false := by simpa using hz'
            clear hz'
            go_wp2_with fail
            refine wp_region_quiet_in wf mixed (by kernel_rfl) x0 HG0.out ?_
            repeat (go_big_quiet_step ((exact hcall _)))
            refine wpQuiet_nil ?_
            rintro _ ⟨x, rfl⟩
            clear p0 p1 p2 p3 p4 p5 p6 p7 q0 q1 q2 q3 q4 q5 q6 q7 hcall
            go_wp2_with fail
            go_roundg (gk - 1)
            case rel => exact ⟨j + 1, by have := HI.out; omega, rfl, by go_num, by omega, HGG.out x⟩
            case measure => have := HI.out; omega
      · have HNF : Hid (∀ (b : Nat) (y : El × Nat), M[b]? = some y → cmpK y.1 e ≠ 0) := fun b y hb hz => hfd ⟨b, y, hb, hz⟩
        clear hfd
        go_wp2_with fail
        go_loopg [5, 16] n (fun gf fv jv wq => ∃ (j : Nat), j + gf = n ∧ fv = .bool false ∧ jv = .int .i64 j ∧ Below wo.heap.size wo wq)
        case atStart => exact ⟨0, by omega, rfl, rfl, Below.refl _ _⟩
        case round =>
          obtain ⟨j, hj1, rfl, rfl, hbq⟩ := hrel
          have HI : Hid (j + gk = n) := hj1
          have HQ : Hid (True ∧ Below wo.heap.size wo wr) := ⟨trivial, hbq⟩
          have hjl : j ≤ n := by omega
          clear hj1 hbq
          by_cases hjn : j < n
          · obtain ⟨y, hy⟩ : ∃ y, M[j]? = some y := ⟨_, List.getElem?_eq_getElem (by rw [← HG.out.2.2.1]; omega)⟩
            have HZ : Hid (M[j]? = some y) := hy
            obtain ⟨g, cap2, b0, b1, b2, b3, hv, hgl, hgB, r0, r1, r2, r3, r4, r5, r6, r7, r8, hey⟩ := HG.out.1.read hy
            simp only [Value.slice.injEq] at hv
            obtain ⟨rfl, _, rfl⟩ := hv
            obtain ⟨G, wf, hG1, hG2⟩ := grown_class wo.heap.size wo
            have hG3 : ∀ x, Below N w (wf x) := fun x => HG.out.2.1.trans ((hG1 x).mono hNs)
            have p0 : ∀ x, (wf x).cell? ⟨D, off + i * 8, none⟩ = some (.int .u8 kk) := fun x => (World.cell?_of_block ((hG3 x).block D (HS.out D HY.out.1))).trans HY.out.2.1
            have p1 : ∀ x, (wf x).cell? ⟨D, off + i * 8 + 1, none⟩ = some (.int .i64 vv) := fun x => (World.cell?_of_block ((hG3 x).block D (HS.out D HY.out.1))).trans HY.out.2.2.1
            have p2 : ∀ x, (wf x).cell? ⟨D, off + i * 8 + 2, none⟩ = some (.string ss) := fun x => (World.cell?_of_block ((hG3 x).block D (HS.out D HY.out.1))).trans HY.out.2.2.2.1
            have p3 : ∀ x, (wf x).cell? ⟨D, off + i * 8 + 3, none⟩ = some (.slice Bb bl bc) := fun x => (World.cell?_of_block ((hG3 x).block D (HS.out D HY.out.1))).trans HY.out.2.2.2.2.1
            have p4 : ∀ x, (wf x).cell? ⟨D, off + i * 8 + 4, none⟩ = some (.int .i64 e.start) := fun x => (World.cell?_of_block ((hG3 x).block D (HS.out D HY.out.1))).trans HY.out.2.2.2.2.2.1
            have p5 : ∀ x, (wf x).cell? ⟨D, off + i * 8 + 5, none⟩ = some (.int .i64 e.fin) := fun x => (World.cell?_of_block ((hG3 x).block D (HS.out D HY.out.1))).trans HY.out.2.2.2.2.2.2.1
            have p6 : ∀ x, (wf x).cell? ⟨D, off + i * 8 + 6, none⟩ = some (.bool e.pend) := fun x => (World.cell?_of_block ((hG3 x).block D (HS.out D HY.out.1))).trans HY.out.2.2.2.2.2.2.2.1
            have p7 : ∀ x, (wf x).cell? ⟨D, off + i * 8 + 7, none⟩ = some (.int .u64 e.hv) := fun x => (World.cell?_of_block ((hG3 x).block D (HS.out D HY.out.1))).trans HY.out.2.2.2.2.2.2.2.2.1
            have q0 : ∀ x, (wf x).cell? ⟨g, j * 9, none⟩ = some (b0) := fun x => (World.cell?_of_block ((hG1 x).block g hgl)).trans r0
            have q1 : ∀ x, (wf x).cell? ⟨g, j * 9 + 1, none⟩ = some (b1) := fun x => (World.cell?_of_block ((hG1 x).block g hgl)).trans r1
            have q2 : ∀ x, (wf x).cell? ⟨g, j * 9 + 2, none⟩ = some (b2) := fun x => (World.cell?_of_block ((hG1 x).block g hgl)).trans r2
            have q3 : ∀ x, (wf x).cell? ⟨g, j * 9 + 3, none⟩ = some (b3) := fun x => (World.cell?_of_block ((hG1 x).block g hgl)).trans r3
            have q4 : ∀ x, (wf x).cell? ⟨g, j * 9 + 4, none⟩ = some (.int .i64 y.1.start) := fun x => (World.cell?_of_block ((hG1 x).block g hgl)).trans r4
            have q5 : ∀ x, (wf x).cell? ⟨g, j * 9 + 5, none⟩ = some (.int .i64 y.1.fin) := fun x => (World.cell?_of_block ((hG1 x).block g hgl)).trans r5
            have q6 : ∀ x, (wf x).cell? ⟨g, j * 9 + 6, none⟩ = some (.bool y.1.pend) := fun x => (World.cell?_of_block ((hG1 x).block g hgl)).trans r6
            have q7 : ∀ x, (wf x).cell? ⟨g, j * 9 + 7, none⟩ = some (.int .u64 y.1.hv) := fun x => (World.cell?_of_block ((hG1 x).block g hgl)).trans r7
            have hE1 := HY.out.2.2.2.2.2.2.2.2.2
            have hcall : ∀ x, Calls Try.prog 16 #[.agg #[b0, b1, b2, b3, .int .i64 y.1.start, .int .i64 y.1.fin, .bool y.1.pend, .int .u64 y.1.hv], .agg #[.int .u8 kk, .int .i64 vv, .string ss, .slice Bb bl bc, .int .i64 e.start, .int .i64 e.fin, .bool e.pend, .int .u64 e.hv]] (wf x) fun r w'' => r = .returned (.int .i64 (cmpK y.1 e)) ∧ ∃ x', w'' = wf x' := fun x =>
              (cmpElem_16 (wf x) S _ _ y.1 e (hey.frame (fun k hk => (hG1 x).block k (Nat.lt_of_lt_of_le (HS.out k hk) hNs)) (fun _ h => h)) (hE1.frame (fun k hk => (hG3 x).block k (HS.out k hk)) (fun _ h => h)) (fun k hk => Nat.lt_of_lt_of_le (HS.out k hk) (Nat.le_trans hNs (hG1 x).size))).mono fun r w'' ⟨h1, h2⟩ => ⟨by rw [h1, cmpE_eq _ _ (hey.pf hE1)]; rfl, hG2 w'' ((hG1 x).trans (h2.mono (hG1 x).size))⟩
            obtain ⟨x0, hx0⟩ := hG2 { wr with drawn := wr.drawn + 1 } ⟨HQ.out.2.os, HQ.out.2.tape, HQ.out.2.output, HQ.out.2.size, HQ.out.2.block⟩
            haveI : Nonempty G := ⟨x0⟩
            have HG0 : Hid ({ wr with drawn := wr.drawn + 1 } = wf x0) := hx0
            have HGG : Hid (∀ x, Below wo.heap.size wo (wf x)) := hG1
            have HR : Hid (g < wo.heap.size ∧ N ≤ g ∧ wo.cell? ⟨g, j * 9 + 8, none⟩ = some (f64 y.2)) := ⟨hgl, hgB, r8⟩
            clear hE1 hx0 hG1 hG2 hG3 r0 r1 r2 r3 r4 r5 r6 r7 r8 hey hgl hgB hy
            obtain ⟨cc, hcc⟩ : ∃ cc, cc = cmpK y.1 e := ⟨_, rfl⟩
            rw [← hcc] at hcall
            have HCC : Hid (cc = cmpK y.1 e) := hcc
            clear hcc
            have hz' : cc ≠ 0 := by rw [HCC.out]; exact HNF.out j y HZ.out
            have hz : (cc == 0) = false := by simpa using hz'
            clear hz'
            go_wp2_with fail
            refine wp_region_quiet_in wf mixed (by kernel_rfl) x0 HG0.out ?_
            repeat (go_big_quiet_step ((exact hcall _)))
            refine wpQuiet_nil ?_
            rintro _ ⟨x, rfl⟩
            clear p0 p1 p2 p3 p4 p5 p6 p7 q0 q1 q2 q3 q4 q5 q6 q7 hcall
            go_wp2_with fail
            go_roundg (gk - 1)
            case rel => exact ⟨j + 1, by have := HI.out; omega, rfl, by go_num, HGG.out x⟩
            case measure => have := HI.out; omega
          · obtain rfl : j = n := by omega
            have HBN : Hid (Below N w wr) := HG.out.2.1.trans (HQ.out.2.mono hNs)
            have d0' : wr.cell? ⟨D, off + i * 8, none⟩ = some (.int .u8 kk) := (World.cell?_of_block (HBN.out.block D (HS.out D HY.out.1))).trans HY.out.2.1
            have d1' : wr.cell? ⟨D, off + i * 8 + 1, none⟩ = some (.int .i64 vv) := (World.cell?_of_block (HBN.out.block D (HS.out D HY.out.1))).trans HY.out.2.2.1
            have d2' : wr.cell? ⟨D, off + i * 8 + 2, none⟩ = some (.string ss) := (World.cell?_of_block (HBN.out.block D (HS.out D HY.out.1))).trans HY.out.2.2.2.1
            have d3' : wr.cell? ⟨D, off + i * 8 + 3, none⟩ = some (.slice Bb bl bc) := (World.cell?_of_block (HBN.out.block D (HS.out D HY.out.1))).trans HY.out.2.2.2.2.1
            have d4' : wr.cell? ⟨D, off + i * 8 + 4, none⟩ = some (.int .i64 e.start) := (World.cell?_of_block (HBN.out.block D (HS.out D HY.out.1))).trans HY.out.2.2.2.2.2.1
            have d5' : wr.cell? ⟨D, off + i * 8 + 5, none⟩ = some (.int .i64 e.fin) := (World.cell?_of_block (HBN.out.block D (HS.out D HY.out.1))).trans HY.out.2.2.2.2.2.2.1
            have d6' : wr.cell? ⟨D, off + i * 8 + 6, none⟩ = some (.bool e.pend) := (World.cell?_of_block (HBN.out.block D (HS.out D HY.out.1))).trans HY.out.2.2.2.2.2.2.2.1
            have d7' : wr.cell? ⟨D, off + i * 8 + 7, none⟩ = some (.int .u64 e.hv) := (World.cell?_of_block (HBN.out.block D (HS.out D HY.out.1))).trans HY.out.2.2.2.2.2.2.2.2.1
            go_upto_region 15 with fail
            clear d0' d1' d2' d3' d4' d5' d6' d7'
            generalize hw2 : wr.alloc _ = w2
            generalize hX7 : wr.heap.size = X
            have HEE : Hid (EIn w S #[.int .u8 kk, .int .i64 vv, .string ss, .slice Bb bl bc, .int .i64 e.start, .int .i64 e.fin, .bool e.pend, .int .u64 e.hv] e) := HY.out.2.2.2.2.2.2.2.2.2
            have HW2 : Hid (w2.heap[X]? = some (.cells #[.int .u8 kk, .int .i64 vv, .string ss, .slice Bb bl bc, .int .i64 e.start, .int .i64 e.fin, .bool e.pend, .int .u64 e.hv, .int .i64 1] 63) ∧ Below N w w2 ∧ N ≤ w2.heap.size ∧ GIn w2 S N 63 f64 (.slice A1 j cap1) M ∧ (∀ k, S k → Sof w2 (.slice A1 j cap1) k) ∧ Sof w2 (.slice A1 j cap1) X ∧ N ≤ X) := by
              have b1 : Below X wr w2 := by rw [← hw2, ← hX7]; exact alloc_below _ _
              have hXs : N ≤ X := by rw [← hX7]; exact Nat.le_trans hNs HQ.out.2.size
              have b2 : Below wo.heap.size wo w2 := HQ.out.2.trans (b1.mono (by rw [← hX7]; exact HQ.out.2.size))
              have hx : w2.heap[X]? = some (.cells #[.int .u8 kk, .int .i64 vv, .string ss, .slice Bb bl bc, .int .i64 e.start, .int .i64 e.fin, .bool e.pend, .int .u64 e.hv, .int .i64 1] 63) := by rw [← hw2, ← hX7]; exact alloc_at _ _
              refine ⟨hx, HBN.out.trans (b1.mono hXs), Nat.le_trans hNs b2.size, HG.out.1.frame (fun k hk => b2.block k (Nat.lt_of_lt_of_le (HS.out k hk) hNs)) (fun k hk => b2.block k (HG.out.1.lt k hk).2) (fun _ h => h), fun k hk => ⟨Nat.lt_of_lt_of_le (HS.out k hk) (Nat.le_trans hNs b2.size), fun h => by have := (HG.out.1.lt k h).1; have := HS.out k hk; omega⟩, ⟨blt hx, fun h => by have := (HG.out.1.lt X h).2; have := HQ.out.2.size; omega⟩, hXs⟩
            clear hw2 hX7 HBN
            have x0 : w2.cell? ⟨X, 0, none⟩ = some (.int .u8 kk) := by rw [bcell HW2.out.1]; rfl
            have x1 : w2.cell? ⟨X, 1, none⟩ = some (.int .i64 vv) := by rw [bcell HW2.out.1]; rfl
            have x2 : w2.cell? ⟨X, 2, none⟩ = some (.string ss) := by rw [bcell HW2.out.1]; rfl
            have x3 : w2.cell? ⟨X, 3, none⟩ = some (.slice Bb bl bc) := by rw [bcell HW2.out.1]; rfl
            have x4 : w2.cell? ⟨X, 4, none⟩ = some (.int .i64 e.start) := by rw [bcell HW2.out.1]; rfl
            have x5 : w2.cell? ⟨X, 5, none⟩ = some (.int .i64 e.fin) := by rw [bcell HW2.out.1]; rfl
            have x6 : w2.cell? ⟨X, 6, none⟩ = some (.bool e.pend) := by rw [bcell HW2.out.1]; rfl
            have x7 : w2.cell? ⟨X, 7, none⟩ = some (.int .u64 e.hv) := by rw [bcell HW2.out.1]; rfl
            have x8 : w2.cell? ⟨X, 8, none⟩ = some (.int .i64 1) := by rw [bcell HW2.out.1]; rfl
            obtain ⟨i0, hi, hz0, hz1, hz2⟩ := info_parts info63
            have HA8 : Hid (∀ o, GIn (w2.alloc o) S N 63 f64 (.slice A1 j cap1) M ∧ (∀ k, S k → Sof (w2.alloc o) (.slice A1 j cap1) k) ∧ EIn (w2.alloc o) S #[.int .u8 kk, .int .i64 vv, .string ss, .slice Bb bl bc, .int .i64 e.start, .int .i64 e.fin, .bool e.pend, .int .u64 e.hv] e) := fun o => by
              have hb := alloc_below w2 o
              exact ⟨HW2.out.2.2.2.1.frame (fun k hk => hb.block k (HW2.out.2.2.2.2.1 k hk).1) (fun k hk => hb.block k (HW2.out.2.2.2.1.lt k hk).2) (fun _ h => h), fun k hk => ⟨Nat.lt_of_lt_of_le (HW2.out.2.2.2.2.1 k hk).1 hb.size, (HW2.out.2.2.2.2.1 k hk).2⟩, HEE.out.frame (fun k hk => (hb.block k (HW2.out.2.2.2.2.1 k hk).1).trans (HW2.out.2.1.block k (HS.out k hk))) (fun _ h => h)⟩
            have HLN : Hid (M.length + 1 ≤ 8192 ∧ N ≤ w2.heap.size) := ⟨by rw [← HG.out.2.2.1]; omega, HW2.out.2.2.1⟩
            go_wp2_with (at_builtin; refine append_G _ rfl (.tmp 46) (.tmp 48) 57 rfl 63 i0 _ Try.underlying57 hi hz0 hz1 hz2 rfl S N f64 (.slice A1 j cap1) M rfl (HA8.out _).1 (HA8.out _).2.1 w2.heap.size rfl _ _ _ _ e 1 (alloc_at _ _) (HA8.out _).2.2 rfl HLN.out.1 (Nat.le_trans HLN.out.2 (by simp)) ?_)
            intro v2 w3 hg3 hgr3 hv3
            obtain ⟨C0, hC0⟩ : ∃ C0, C0 = M ++ [(e, 1)] := ⟨_, rfl⟩
            rw [← hC0] at hg3
            have hCl : C0.length = j + 1 := by rw [hC0, List.length_append, ← HG.out.2.2.1]; rfl
            obtain ⟨g2, cap2, cur2, hv2, hgN, hcur⟩ := hg3.some (by intro h; rw [h] at hCl; simp at hCl)
            rw [hCl] at hv2
            rw [hv2] at hg3 hv3 ⊢
            clear hv2
            have hgw : Grew w2 w3 (.slice A1 j cap1) (.slice (some ⟨g2, 0, none⟩) (j + 1) cap2) := Grew.alloc' hgr3 (by simpa using hv3)
            have hX3 : w3.heap[X]? = some (.cells #[.int .u8 kk, .int .i64 vv, .string ss, .slice Bb bl bc, .int .i64 e.start, .int .i64 e.fin, .bool e.pend, .int .u64 e.hv, .int .i64 1] 63) := (hgw.block X HW2.out.2.2.2.2.2.1).trans HW2.out.1
            have hXg : X ≠ g2 := by
              intro h
              rw [h] at hX3
              exact (hgw.sof X HW2.out.2.2.2.2.2.1).2 (by rw [h]; rfl)
            have hb3 : Below N w w3 := by
              have q := HW2.out.2.1
              refine ⟨hgw.1.os.trans q.os, hgw.1.tape.trans q.tape, hgw.1.output.trans q.output, by have := q.size; have := hgw.1.size; omega, fun k hk => (hgw.block k ⟨Nat.lt_of_lt_of_le hk HW2.out.2.2.1, fun h => by have := (HW2.out.2.2.2.1.lt k h).1; omega⟩).trans (q.block k hk)⟩
            have HK : Hid (N ≤ g2 ∧ X ≠ g2) := ⟨hgN, hXg⟩
            have HW3 : Hid (GIn w3 S N 63 f64 (.slice (some ⟨g2, 0, none⟩) (j + 1) cap2) C0 ∧ Below N w w3 ∧ w3.heap[X]? = some (.cells #[.int .u8 kk, .int .i64 vv, .string ss, .slice Bb bl bc, .int .i64 e.start, .int .i64 e.fin, .bool e.pend, .int .u64 e.hv, .int .i64 1] 63) ∧ N ≤ w3.heap.size ∧ C0 = M ++ [(e, 1)] ∧ C0.length = j + 1) := ⟨hg3, hb3, hX3, Nat.le_trans HW2.out.2.2.1 hgw.1.size, hC0, hCl⟩
            clear hg3 hgr3 hv3 hgw hX3 hXg hb3 hgN hcur hC0 hCl hi hz0 hz1 hz2 HA8 HLN x0 x1 x2 x3 x4 x5 x6 x7 x8 HW2 HQ
            go_wp2_with fail
            go_loopg [8] j (fun gf kv wq => kv = .int .i64 (gf : Int) ∧ gf ≤ j ∧ ∃ C : List (El × Nat), C.length = j + 1 ∧ (∀ a, a < gf → C[a]? = M[a]?) ∧ (∀ a, gf ≤ a → a < j → C[a + 1]? = M[a]?) ∧ (∀ a x, gf ≤ a → M[a]? = some x → 0 < cmpK x.1 e) ∧ GIn wq S N 63 f64 (.slice (some ⟨g2, 0, none⟩) (j + 1) cap2) C ∧ Below N w wq ∧ wq.heap[X]? = some (.cells #[.int .u8 kk, .int .i64 vv, .string ss, .slice Bb bl bc, .int .i64 e.start, .int .i64 e.fin, .bool e.pend, .int .u64 e.hv, .int .i64 1] 63) ∧ N ≤ wq.heap.size)
            case atStart =>
              obtain ⟨f1, f2, f3, f4, f5, f6⟩ := HW3.out
              have hMl := HG.out.2.2.1
              refine ⟨rfl, Nat.le_refl _, C0, f6, fun a ha => by rw [f5, List.getElem?_append_left (by omega)], fun a h1 h2 => by omega, fun a x ha hx => ?_, f1, f2, f3, f4⟩
              have := (List.getElem?_eq_some_iff.1 hx).1
              omega
            case round =>
              obtain ⟨rfl, hkj, C, hC1, hC2, hC3, hC4, hgC, hbC, hXC, hsC⟩ := hrel
              have HC : Hid (C.length = j + 1 ∧ (∀ a, a < gk → C[a]? = M[a]?) ∧ (∀ a, gk ≤ a → a < j → C[a + 1]? = M[a]?) ∧ (∀ a x, gk ≤ a → M[a]? = some x → 0 < cmpK x.1 e)) := ⟨hC1, hC2, hC3, hC4⟩
              have HL : Hid (GIn wr S N 63 f64 (.slice (some ⟨g2, 0, none⟩) (j + 1) cap2) C ∧ Below N w wr ∧ wr.heap[X]? = some (.cells #[.int .u8 kk, .int .i64 vv, .string ss, .slice Bb bl bc, .int .i64 e.start, .int .i64 e.fin, .bool e.pend, .int .u64 e.hv, .int .i64 1] 63) ∧ N ≤ wr.heap.size) := ⟨hgC, hbC, hXC, hsC⟩
              clear hC1 hC2 hC3 hC4 hgC hbC hXC hsC
              cases gk with
              | zero =>
                go_wp2_with fail
                go_quiet (fail)
                obtain ⟨W, hW⟩ : ∃ W, W = wr.drewN nq := ⟨_, rfl⟩
                have HLX : Hid (GIn W S N 63 f64 (.slice (some ⟨g2, 0, none⟩) (j + 1) cap2) C) := by rw [hW]; exact HL.out.1.frame (w := wr) (w' := wr.drewN nq) (fun _ _ => rfl) (fun _ _ => rfl) (fun _ h => h)
                have HXX : Hid (W.heap[X]? = some (.cells #[.int .u8 kk, .int .i64 vv, .string ss, .slice Bb bl bc, .int .i64 e.start, .int .i64 e.fin, .bool e.pend, .int .u64 e.hv, .int .i64 1] 63)) := by rw [hW]; exact HL.out.2.2.1
                have HBX : Hid (Below N w W) := by rw [hW]; exact ⟨HL.out.2.1.os, HL.out.2.1.tape, HL.out.2.1.output, HL.out.2.1.size, HL.out.2.1.block⟩
                rw [← hW]
                clear hW HL
                obtain ⟨z, hz⟩ : ∃ z, C[0]? = some z := ⟨_, List.getElem?_eq_getElem (by rw [HC.out.1]; omega)⟩
                obtain ⟨g'', cap3, a0, a1, a2, a3, hv, _, _, o0, o1, o2, o3, o4, o5, o6, o7, o8, _⟩ := HLX.out.read hz
                simp only [Value.slice.injEq, Option.some.injEq, Addr.mk.injEq, and_true] at hv
                obtain ⟨rfl, hq9, rfl⟩ := hv
                clear hq9
                have of : ∀ o, W.frozen? ⟨g2, o, none⟩ = false := fun o => by
                  obtain ⟨g3, cap3, cur, e1, _, e3⟩ := HLX.out.some (by intro h; have h1 := HC.out.1; rw [h] at h1; simp at h1)
                  simp only [Value.slice.injEq, Option.some.injEq, Addr.mk.injEq, and_true] at e1
                  rw [e1.1]
                  exact bfz e3 _
                simp only [Nat.zero_mul, Nat.zero_add] at o0 o1 o2 o3 o4 o5 o6 o7 o8
                clear hz
                have y0' : W.cell? ⟨X, 0, none⟩ = some (.int .u8 kk) := by rw [bcell HXX.out]; rfl
                have y1' : W.cell? ⟨X, 1, none⟩ = some (.int .i64 vv) := by rw [bcell HXX.out]; rfl
                have y2' : W.cell? ⟨X, 2, none⟩ = some (.string ss) := by rw [bcell HXX.out]; rfl
                have y3' : W.cell? ⟨X, 3, none⟩ = some (.slice Bb bl bc) := by rw [bcell HXX.out]; rfl
                have y4' : W.cell? ⟨X, 4, none⟩ = some (.int .i64 e.start) := by rw [bcell HXX.out]; rfl
                have y5' : W.cell? ⟨X, 5, none⟩ = some (.int .i64 e.fin) := by rw [bcell HXX.out]; rfl
                have y6' : W.cell? ⟨X, 6, none⟩ = some (.bool e.pend) := by rw [bcell HXX.out]; rfl
                have y7' : W.cell? ⟨X, 7, none⟩ = some (.int .u64 e.hv) := by rw [bcell HXX.out]; rfl
                have y8' : W.cell? ⟨X, 8, none⟩ = some (.int .i64 1) := by rw [bcell HXX.out]; rfl
                go_wp2_with fail
                go_roundg (gq - 1)
                case rel =>
                  have hup := HLX.out.set (i := 0) (p := (e, 1)) (fun k hk e' => by have := HS.out k hk; have := HK.out.1; omega) (by rw [HC.out.1]; omega) (HEE.out.frame (fun k hk => HBX.out.block k (HS.out k hk)) (fun _ h => h))
                  have hpos : ∀ a x, a < 0 → M[a]? = some x → 0 < cmpK e x.1 := fun a x ha => by omega
                  have hins : C.set (0) (e, 1) = allL [] (es.take (i + 1)) := by
                    rw [allL_step HX.out.2, ← HM.out.1, insL_pos hpos (fun a x hj hx => by have := HC.out.2.2.2 a x hj hx; rw [cmpK_neg]; omega)]
                    exact set_pos HG.out.2.2.1.symm HC.out.1 (by omega) HC.out.2.1 HC.out.2.2.1
                  rw [hins] at hup
                  refine ⟨i + 1, some ⟨g2, 0, none⟩, cap2, j + 1, by have := HJ.out; omega, rfl, by go_num, by rw [← hins, List.length_set, HC.out.1], ?_, ?_⟩
                  · exact hup
                  · exact (((((((((HBX.out.setCell HK.out.1 _).setCell HK.out.1 _).setCell HK.out.1 _).setCell HK.out.1 _).setCell HK.out.1 _).setCell HK.out.1 _).setCell HK.out.1 _).setCell HK.out.1 _).setCell HK.out.1 _)
                case measure => have := HGQ.out; have := HJ.out; omega
              | succ m =>
                obtain ⟨y, hyM⟩ : ∃ y, M[m]? = some y := ⟨_, List.getElem?_eq_getElem (by rw [← HG.out.2.2.1]; omega)⟩
                have hy : C[m]? = some y := (HC.out.2.1 m (by omega)).trans hyM
                have HZ : Hid (M[m]? = some y) := hyM
                clear hyM
                obtain ⟨g', cap2, b0, b1, b2, b3, hv, hgl, hgB, r0, r1, r2, r3, r4, r5, r6, r7, r8, hey⟩ := HL.out.1.read (i := m) (p := y) hy
                simp only [Value.slice.injEq, Option.some.injEq, Addr.mk.injEq, and_true] at hv
                obtain ⟨rfl, hq9, rfl⟩ := hv
                clear hq9
                obtain ⟨n5, k5, i5, s5, A5, l5, c5, e5, _⟩ := id hey
                simp only [Array.mk.injEq, List.cons.injEq, and_true] at e5
                obtain ⟨rfl, rfl, rfl, rfl⟩ := e5
                obtain ⟨G, wf, hG1, hG2⟩ := grown_class wr.heap.size wr
                have p0 : ∀ x, (wf x).cell? ⟨X, 0, none⟩ = some (.int .u8 kk) := fun x => (World.cell?_of_block ((hG1 x).block X (blt HL.out.2.2.1))).trans (by rw [bcell HL.out.2.2.1]; rfl)
                have p1 : ∀ x, (wf x).cell? ⟨X, 1, none⟩ = some (.int .i64 vv) := fun x => (World.cell?_of_block ((hG1 x).block X (blt HL.out.2.2.1))).trans (by rw [bcell HL.out.2.2.1]; rfl)
                have p2 : ∀ x, (wf x).cell? ⟨X, 2, none⟩ = some (.string ss) := fun x => (World.cell?_of_block ((hG1 x).block X (blt HL.out.2.2.1))).trans (by rw [bcell HL.out.2.2.1]; rfl)
                have p3 : ∀ x, (wf x).cell? ⟨X, 3, none⟩ = some (.slice Bb bl bc) := fun x => (World.cell?_of_block ((hG1 x).block X (blt HL.out.2.2.1))).trans (by rw [bcell HL.out.2.2.1]; rfl)
                have p4 : ∀ x, (wf x).cell? ⟨X, 4, none⟩ = some (.int .i64 e.start) := fun x => (World.cell?_of_block ((hG1 x).block X (blt HL.out.2.2.1))).trans (by rw [bcell HL.out.2.2.1]; rfl)
                have p5 : ∀ x, (wf x).cell? ⟨X, 5, none⟩ = some (.int .i64 e.fin) := fun x => (World.cell?_of_block ((hG1 x).block X (blt HL.out.2.2.1))).trans (by rw [bcell HL.out.2.2.1]; rfl)
                have p6 : ∀ x, (wf x).cell? ⟨X, 6, none⟩ = some (.bool e.pend) := fun x => (World.cell?_of_block ((hG1 x).block X (blt HL.out.2.2.1))).trans (by rw [bcell HL.out.2.2.1]; rfl)
                have p7 : ∀ x, (wf x).cell? ⟨X, 7, none⟩ = some (.int .u64 e.hv) := fun x => (World.cell?_of_block ((hG1 x).block X (blt HL.out.2.2.1))).trans (by rw [bcell HL.out.2.2.1]; rfl)
                have q0 : ∀ x, (wf x).cell? ⟨g2, m * 9, none⟩ = some (.int .u8 k5) := fun x => (World.cell?_of_block ((hG1 x).block g2 hgl)).trans r0
                have q1 : ∀ x, (wf x).cell? ⟨g2, m * 9 + 1, none⟩ = some (.int .i64 i5) := fun x => (World.cell?_of_block ((hG1 x).block g2 hgl)).trans r1
                have q2 : ∀ x, (wf x).cell? ⟨g2, m * 9 + 2, none⟩ = some (.string s5) := fun x => (World.cell?_of_block ((hG1 x).block g2 hgl)).trans r2
                have q3 : ∀ x, (wf x).cell? ⟨g2, m * 9 + 3, none⟩ = some (.slice A5 l5 c5) := fun x => (World.cell?_of_block ((hG1 x).block g2 hgl)).trans r3
                have q4 : ∀ x, (wf x).cell? ⟨g2, m * 9 + 4, none⟩ = some (.int .i64 y.1.start) := fun x => (World.cell?_of_block ((hG1 x).block g2 hgl)).trans r4
                have q5 : ∀ x, (wf x).cell? ⟨g2, m * 9 + 5, none⟩ = some (.int .i64 y.1.fin) := fun x => (World.cell?_of_block ((hG1 x).block g2 hgl)).trans r5
                have q6 : ∀ x, (wf x).cell? ⟨g2, m * 9 + 6, none⟩ = some (.bool y.1.pend) := fun x => (World.cell?_of_block ((hG1 x).block g2 hgl)).trans r6
                have q7 : ∀ x, (wf x).cell? ⟨g2, m * 9 + 7, none⟩ = some (.int .u64 y.1.hv) := fun x => (World.cell?_of_block ((hG1 x).block g2 hgl)).trans r7
                have hcall : ∀ x, Calls Try.prog 16 #[.agg #[.int .u8 k5, .int .i64 i5, .string s5, .slice A5 l5 c5, .int .i64 y.1.start, .int .i64 y.1.fin, .bool y.1.pend, .int .u64 y.1.hv], .agg #[.int .u8 kk, .int .i64 vv, .string ss, .slice Bb bl bc, .int .i64 e.start, .int .i64 e.fin, .bool e.pend, .int .u64 e.hv]] (wf x) fun r w'' => r = .returned (.int .i64 (cmpK y.1 e)) ∧ ∃ x', w'' = wf x' := fun x =>
                  (cmpElem_16 (wf x) S _ _ y.1 e (hey.frame (fun k hk => (hG1 x).block k (Nat.lt_of_lt_of_le (HS.out k hk) HL.out.2.2.2)) (fun _ h => h)) (HEE.out.frame (fun k hk => ((hG1 x).block k (Nat.lt_of_lt_of_le (HS.out k hk) HL.out.2.2.2)).trans (HL.out.2.1.block k (HS.out k hk))) (fun _ h => h)) (fun k hk => Nat.lt_of_lt_of_le (HS.out k hk) (Nat.le_trans HL.out.2.2.2 (hG1 x).size))).mono fun r w'' ⟨h1, h2⟩ => ⟨by rw [h1, cmpE_eq _ _ (hey.pf HEE.out)]; rfl, hG2 w'' ((hG1 x).trans (h2.mono (hG1 x).size))⟩
                obtain ⟨x0, hx0⟩ := hG2 { wr with drawn := wr.drawn + 1 } ⟨rfl, rfl, rfl, Nat.le_refl _, fun _ _ => rfl⟩
                haveI : Nonempty G := ⟨x0⟩
                have HG0 : Hid ({ wr with drawn := wr.drawn + 1 } = wf x0) := hx0
                have HGG : Hid (∀ x, Below wr.heap.size wr (wf x)) := hG1
                have HEY : Hid (EIn wr S #[.int .u8 k5, .int .i64 i5, .string s5, .slice A5 l5 c5, .int .i64 y.1.start, .int .i64 y.1.fin, .bool y.1.pend, .int .u64 y.1.hv] y.1) := hey
                have HR : Hid (g2 < wr.heap.size ∧ wr.cell? ⟨g2, m * 9, none⟩ = some (.int .u8 k5) ∧ wr.cell? ⟨g2, m * 9 + 1, none⟩ = some (.int .i64 i5) ∧ wr.cell? ⟨g2, m * 9 + 2, none⟩ = some (.string s5) ∧ wr.cell? ⟨g2, m * 9 + 3, none⟩ = some (.slice A5 l5 c5) ∧ wr.cell? ⟨g2, m * 9 + 4, none⟩ = some (.int .i64 y.1.start) ∧ wr.cell? ⟨g2, m * 9 + 5, none⟩ = some (.int .i64 y.1.fin) ∧ wr.cell? ⟨g2, m * 9 + 6, none⟩ = some (.bool y.1.pend) ∧ wr.cell? ⟨g2, m * 9 + 7, none⟩ = some (.int .u64 y.1.hv) ∧ wr.cell? ⟨g2, m * 9 + 8, none⟩ = some (.int .i64 (y.2 : Int))) := ⟨hgl, r0, r1, r2, r3, r4, r5, r6, r7, r8⟩
                clear hx0 hG1 hG2 r0 r1 r2 r3 r4 r5 r6 r7 r8 hey hgl hgB hy
                obtain ⟨cc, hcc⟩ : ∃ cc, cc = cmpK y.1 e := ⟨_, rfl⟩
                rw [← hcc] at hcall
                have HCC : Hid (cc = cmpK y.1 e) := hcc
                clear hcc
                by_cases hgt : 0 < cc
                · have hgt' : decide (0 < cc) = true := by simpa using hgt
                  have HGT : Hid (0 < cc) := hgt
                  go_wp2_with fail
                  refine wp_region_quiet_in wf mixed (by kernel_rfl) x0 HG0.out ?_
                  repeat (go_big_quiet_step ((exact hcall _)))
                  refine wpQuiet_nil ?_
                  rintro _ ⟨x, rfl⟩
                  clear p0 p1 p2 p3 p4 p5 p6 p7 q0 q1 q2 q3 q4 q5 q6 q7 hcall
                  have HLX : Hid (GIn (wf x) S N 63 f64 (.slice (some ⟨g2, 0, none⟩) (j + 1) cap2) C) := HL.out.1.frame (fun k hk => (HGG.out x).block k (Nat.lt_of_lt_of_le (HS.out k hk) HL.out.2.2.2)) (fun k hk => (HGG.out x).block k (HL.out.1.lt k hk).2) (fun _ h => h)
                  have HXX : Hid ((wf x).heap[X]? = some (.cells #[.int .u8 kk, .int .i64 vv, .string ss, .slice Bb bl bc, .int .i64 e.start, .int .i64 e.fin, .bool e.pend, .int .u64 e.hv, .int .i64 1] 63)) := ((HGG.out x).block X (blt HL.out.2.2.1)).trans HL.out.2.2.1
                  have HBX : Hid (Below N w (wf x) ∧ N ≤ (wf x).heap.size) := ⟨HL.out.2.1.trans ((HGG.out x).mono HL.out.2.2.2), Nat.le_trans HL.out.2.2.2 (HGG.out x).size⟩
                  obtain ⟨z, hz⟩ : ∃ z, C[m + 1]? = some z := ⟨_, List.getElem?_eq_getElem (by rw [HC.out.1]; omega)⟩
                  obtain ⟨g'', cap3, a0, a1, a2, a3, hv, _, _, o0, o1, o2, o3, o4, o5, o6, o7, o8, _⟩ := HLX.out.read hz
                  simp only [Value.slice.injEq, Option.some.injEq, Addr.mk.injEq, and_true] at hv
                  obtain ⟨rfl, hq9, rfl⟩ := hv
                  clear hq9
                  have of : ∀ o, (wf x).frozen? ⟨g2, o, none⟩ = false := fun o => by
                    obtain ⟨g3, cap3, cur, e1, _, e3⟩ := HLX.out.some (by intro h; have h1 := HC.out.1; rw [h] at h1; simp at h1)
                    simp only [Value.slice.injEq, Option.some.injEq, Addr.mk.injEq, and_true] at e1
                    rw [e1.1]
                    exact bfz e3 _
                  clear hz
                  have s0' : (wf x).cell? ⟨g2, m * 9, none⟩ = some (.int .u8 k5) := (World.cell?_of_block ((HGG.out x).block g2 HR.out.1)).trans HR.out.2.1
                  have s1' : (wf x).cell? ⟨g2, m * 9 + 1, none⟩ = some (.int .i64 i5) := (World.cell?_of_block ((HGG.out x).block g2 HR.out.1)).trans HR.out.2.2.1
                  have s2' : (wf x).cell? ⟨g2, m * 9 + 2, none⟩ = some (.string s5) := (World.cell?_of_block ((HGG.out x).block g2 HR.out.1)).trans HR.out.2.2.2.1
                  have s3' : (wf x).cell? ⟨g2, m * 9 + 3, none⟩ = some (.slice A5 l5 c5) := (World.cell?_of_block ((HGG.out x).block g2 HR.out.1)).trans HR.out.2.2.2.2.1
                  have s4' : (wf x).cell? ⟨g2, m * 9 + 4, none⟩ = some (.int .i64 y.1.start) := (World.cell?_of_block ((HGG.out x).block g2 HR.out.1)).trans HR.out.2.2.2.2.2.1
                  have s5' : (wf x).cell? ⟨g2, m * 9 + 5, none⟩ = some (.int .i64 y.1.fin) := (World.cell?_of_block ((HGG.out x).block g2 HR.out.1)).trans HR.out.2.2.2.2.2.2.1
                  have s6' : (wf x).cell? ⟨g2, m * 9 + 6, none⟩ = some (.bool y.1.pend) := (World.cell?_of_block ((HGG.out x).block g2 HR.out.1)).trans HR.out.2.2.2.2.2.2.2.1
                  have s7' : (wf x).cell? ⟨g2, m * 9 + 7, none⟩ = some (.int .u64 y.1.hv) := (World.cell?_of_block ((HGG.out x).block g2 HR.out.1)).trans HR.out.2.2.2.2.2.2.2.2.1
                  have s8' : (wf x).cell? ⟨g2, m * 9 + 8, none⟩ = some (.int .i64 (y.2 : Int)) := (World.cell?_of_block ((HGG.out x).block g2 HR.out.1)).trans HR.out.2.2.2.2.2.2.2.2.2
                  go_wp2_with fail
                  go_roundg m
                  case rel =>
                    have hup := HLX.out.set (i := m + 1) (p := y) (fun k hk e' => by have := HS.out k hk; have := HK.out.1; omega) (by rw [HC.out.1]; omega) (HEY.out.frame (fun k hk => (HGG.out x).block k (Nat.lt_of_lt_of_le (HS.out k hk) HL.out.2.2.2)) (fun _ h => h))
                    refine ⟨rfl, by omega, C.set (m + 1) y, by rw [List.length_set]; exact HC.out.1, fun a ha => ?_, fun a h1 h2 => ?_, fun a z ha hz => ?_, hup, ?_, ?_, ?_⟩
                    · rw [List.getElem?_set, if_neg (by omega)]; exact HC.out.2.1 a (by omega)
                    · rw [List.getElem?_set]
                      by_cases ham : a = m
                      · subst ham
                        rw [if_pos rfl, if_pos (by rw [HC.out.1]; omega)]; exact HZ.out.symm
                      · rw [if_neg (by omega)]; exact HC.out.2.2.1 a (by omega) h2
                    · by_cases ham : a = m
                      · subst ham
                        rw [HZ.out] at hz
                        cases hz
                        have h1 := HCC.out
                        have h2 := HGT.out
                        omega
                      · exact HC.out.2.2.2 a z (by omega) hz
                    · exact (((((((((HBX.out.1.setCell HK.out.1 _).setCell HK.out.1 _).setCell HK.out.1 _).setCell HK.out.1 _).setCell HK.out.1 _).setCell HK.out.1 _).setCell HK.out.1 _).setCell HK.out.1 _).setCell HK.out.1 _)
                    · exact (set9_other _ _ _ _ _ _ _ _ _ _ _ _ X HK.out.2).trans HXX.out
                    · have h := set9_size (wf x) g2 ((m + 1) * 9) (.int .u8 k5) (.int .i64 i5) (.string s5) (.slice A5 l5 c5) (.int .i64 y.1.start) (.int .i64 y.1.fin) (.bool y.1.pend) (.int .u64 y.1.hv) (f64 y.2)
                      exact Nat.le_trans HBX.out.2 (Nat.le_of_eq h.symm)
                  case measure => omega
                · have hgt' : decide (0 < cc) = false := by simpa using hgt
                  have HGT : Hid (¬ 0 < cc) := hgt
                  go_wp2_with fail
                  refine wp_region_quiet_in wf mixed (by kernel_rfl) x0 HG0.out ?_
                  repeat (go_big_quiet_step ((exact hcall _)))
                  refine wpQuiet_nil ?_
                  rintro _ ⟨x, rfl⟩
                  clear p0 p1 p2 p3 p4 p5 p6 p7 q0 q1 q2 q3 q4 q5 q6 q7 hcall
                  have HLX : Hid (GIn (wf x) S N 63 f64 (.slice (some ⟨g2, 0, none⟩) (j + 1) cap2) C) := HL.out.1.frame (fun k hk => (HGG.out x).block k (Nat.lt_of_lt_of_le (HS.out k hk) HL.out.2.2.2)) (fun k hk => (HGG.out x).block k (HL.out.1.lt k hk).2) (fun _ h => h)
                  have HXX : Hid ((wf x).heap[X]? = some (.cells #[.int .u8 kk, .int .i64 vv, .string ss, .slice Bb bl bc, .int .i64 e.start, .int .i64 e.fin, .bool e.pend, .int .u64 e.hv, .int .i64 1] 63)) := ((HGG.out x).block X (blt HL.out.2.2.1)).trans HL.out.2.2.1
                  have HBX : Hid (Below N w (wf x) ∧ N ≤ (wf x).heap.size) := ⟨HL.out.2.1.trans ((HGG.out x).mono HL.out.2.2.2), Nat.le_trans HL.out.2.2.2 (HGG.out x).size⟩
                  obtain ⟨z, hz⟩ : ∃ z, C[m + 1]? = some z := ⟨_, List.getElem?_eq_getElem (by rw [HC.out.1]; omega)⟩
                  obtain ⟨g'', cap3, a0, a1, a2, a3, hv, _, _, o0, o1, o2, o3, o4, o5, o6, o7, o8, _⟩ := HLX.out.read hz
                  simp only [Value.slice.injEq, Option.some.injEq, Addr.mk.injEq, and_true] at hv
                  obtain ⟨rfl, hq9, rfl⟩ := hv
                  clear hq9
                  have of : ∀ o, (wf x).frozen? ⟨g2, o, none⟩ = false := fun o => by
                    obtain ⟨g3, cap3, cur, e1, _, e3⟩ := HLX.out.some (by intro h; have h1 := HC.out.1; rw [h] at h1; simp at h1)
                    simp only [Value.slice.injEq, Option.some.injEq, Addr.mk.injEq, and_true] at e1
                    rw [e1.1]
                    exact bfz e3 _
                  clear hz
                  have y0' : (wf x).cell? ⟨X, 0, none⟩ = some (.int .u8 kk) := by rw [bcell HXX.out]; rfl
                  have y1' : (wf x).cell? ⟨X, 1, none⟩ = some (.int .i64 vv) := by rw [bcell HXX.out]; rfl
                  have y2' : (wf x).cell? ⟨X, 2, none⟩ = some (.string ss) := by rw [bcell HXX.out]; rfl
                  have y3' : (wf x).cell? ⟨X, 3, none⟩ = some (.slice Bb bl bc) := by rw [bcell HXX.out]; rfl
                  have y4' : (wf x).cell? ⟨X, 4, none⟩ = some (.int .i64 e.start) := by rw [bcell HXX.out]; rfl
                  have y5' : (wf x).cell? ⟨X, 5, none⟩ = some (.int .i64 e.fin) := by rw [bcell HXX.out]; rfl
                  have y6' : (wf x).cell? ⟨X, 6, none⟩ = some (.bool e.pend) := by rw [bcell HXX.out]; rfl
                  have y7' : (wf x).cell? ⟨X, 7, none⟩ = some (.int .u64 e.hv) := by rw [bcell HXX.out]; rfl
                  have y8' : (wf x).cell? ⟨X, 8, none⟩ = some (.int .i64 1) := by rw [bcell HXX.out]; rfl
                  go_wp2_with fail
                  go_roundg (gq - 1)
                  case rel =>
                    have hup := HLX.out.set (i := m + 1) (p := (e, 1)) (fun k hk e' => by have := HS.out k hk; have := HK.out.1; omega) (by rw [HC.out.1]; omega) (HEE.out.frame (fun k hk => HBX.out.1.block k (HS.out k hk)) (fun _ h => h))
                    have hym : cmpK y.1 e < 0 := by
                      have h1 := HCC.out
                      have h2 := HNF.out m y HZ.out
                      have h3 := HGT.out
                      omega
                    have hpos : ∀ a x, a < m + 1 → M[a]? = some x → 0 < cmpK e x.1 := fun a x ha hx => by
                      by_cases ham : a = m
                      · subst ham
                        rw [HZ.out] at hx
                        cases hx
                        rw [cmpK_neg]; omega
                      · have h4 := cmpK_trans (srt_lt HM.out.2 (show a < m by omega) hx HZ.out) hym
                        rw [cmpK_neg]; omega
                    have hins : C.set (m + 1) (e, 1) = allL [] (es.take (i + 1)) := by
                      rw [allL_step HX.out.2, ← HM.out.1, insL_pos hpos (fun a x hj hx => by have := HC.out.2.2.2 a x hj hx; rw [cmpK_neg]; omega)]
                      exact set_pos HG.out.2.2.1.symm HC.out.1 (by omega) HC.out.2.1 HC.out.2.2.1
                    rw [hins] at hup
                    refine ⟨i + 1, some ⟨g2, 0, none⟩, cap2, j + 1, by have := HJ.out; omega, rfl, by go_num, by rw [← hins, List.length_set, HC.out.1], ?_, ?_⟩
                    · exact hup
                    · exact (((((((((HBX.out.1.setCell HK.out.1 _).setCell HK.out.1 _).setCell HK.out.1 _).setCell HK.out.1 _).setCell HK.out.1 _).setCell HK.out.1 _).setCell HK.out.1 _).setCell HK.out.1 _).setCell HK.out.1 _)
                  case measure => have := HGQ.out; have := HJ.out; omega
    · obtain rfl : i = len := by omega
      go_wp2_with fail
      go_ret
      have h := HG.out.1
      have hM := HM.out.1
      rw [← HE.out.2, List.take_length] at hM
      rw [hM] at h
      refine ⟨A1, cap1, n, by rw [HG.out.2.2.1, hM], rfl, ?_, ?_⟩
      · exact h
      · exact HG.out.2.1
end Go.Proofs.Qxb6613283a
