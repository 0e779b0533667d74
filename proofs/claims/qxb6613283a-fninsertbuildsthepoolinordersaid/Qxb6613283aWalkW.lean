/-
  THE WALK of walk.
-/
import Derived.Test.Qxb6613283aWalkWh
import Derived.Test.Qxb6613283aWalkQ
import Derived.Deep.RegionHeld3
import Derived.Deep.DeepCutAuto
namespace Go.Proofs.Qxb6613283a
open Go.RowKit
open Go.Deep (BT)

/-- Where walk stands: its own blocks, what of the old memory is as it was, the slice that it appends to. -/
structure WSt (w W : World) (N X Y : Nat) (ov ov1 : Value) (E8 cY cZ : Array Value) (e : El) : Prop where
  os : W.os = w.os
  tape : W.tape = w.tape
  output : W.output = w.output
  size : Y + 2 ≤ W.heap.size
  old : ∀ k, k < N → ov.ownBlock ≠ some k → W.heap[k]? = w.heap[k]?
  hX : W.heap[X]? = some (.cells E8 32)
  hN : W.heap[N]? = some (.cells #[.int .i64 0, .int .i64 0, .int .i64 0, .int .u64 0] 54)
  hY : W.heap[Y]? = some (.cells cY 54)
  hZ : W.heap[Y + 1]? = some (.cells cZ 54)
  hE : EIn W (fun k => N + 2 ≤ k ∧ k < X) E8 e
  own : ov1.ownBlock = ov.ownBlock ∨ ∃ g, ov1.ownBlock = some g ∧ Y + 2 ≤ g
  ord : N + 2 ≤ X ∧ X < Y
theorem WSt.ne {w W : World} {N X Y : Nat} {ov ov1 : Value} {E8 cY cZ : Array Value} {e : El} (h : WSt w W N X Y ov ov1 E8 cY cZ e) (hov : ∀ k, ov.ownBlock = some k → k < N) (k : Nat) (h1 : N ≤ k) (h2 : k < Y + 2) : Sof W ov1 k := ⟨Nat.lt_of_lt_of_le h2 h.size, fun he => by
  rcases h.own with h3 | ⟨g, h3, h4⟩
  · have := hov k (h3.symm.trans he); omega
  · rw [h3] at he; simp at he; omega⟩
theorem WSt.grew {w W W' : World} {N X Y : Nat} {ov ov1 ov2 : Value} {E8 cY cZ : Array Value} {e : El} (h : WSt w W N X Y ov ov1 E8 cY cZ e) (hov : ∀ k, ov.ownBlock = some k → k < N) (hg : Grew W W' ov1 ov2) : WSt w W' N X Y ov ov2 E8 cY cZ e := by
  have ho := h.ord
  have hs := h.size
  have hb := fun k h1 h2 => hg.block k (h.ne hov k h1 h2)
  refine ⟨hg.1.os.trans h.os, hg.1.tape.trans h.tape, hg.1.output.trans h.output, Nat.le_trans h.size hg.1.size, fun k hk hko => ?_, (hb X (by omega) (by omega)).trans h.hX, (hb N (by omega) (by omega)).trans h.hN, (hb Y (by omega) (by omega)).trans h.hY, (hb (Y + 1) (by omega) (by omega)).trans h.hZ, h.hE.frame (fun k hk => hb k (by omega) (by omega)) (fun _ h => h), ?_, ho⟩
  · refine (hg.block k ⟨by omega, fun he => ?_⟩).trans (h.old k hk hko)
    rcases h.own with h3 | ⟨g, h3, h4⟩
    · exact hko (h3.symm.trans he)
    · rw [h3] at he; simp at he; omega
  · rcases hg.2 with h3 | ⟨g, h3, h4⟩
    · rw [h3]; exact h.own
    · exact .inr ⟨g, h3, by omega⟩
theorem WSt.setY {w W W' : World} {N X Y : Nat} {ov ov1 : Value} {E8 cY cZ cY' cZ' : Array Value} {e : El} (h : WSt w W N X Y ov ov1 E8 cY cZ e) (hb : ∀ k, k ≠ Y → k ≠ Y + 1 → W'.heap[k]? = W.heap[k]?) (hY : W'.heap[Y]? = some (.cells cY' 54)) (hZ : W'.heap[Y + 1]? = some (.cells cZ' 54)) (hs : W'.heap.size = W.heap.size) (h1 : W'.os = W.os) (h2 : W'.tape = W.tape) (h3 : W'.output = W.output) : WSt w W' N X Y ov ov1 E8 cY' cZ' e := by
  have ho := h.ord
  exact ⟨h1.trans h.os, h2.trans h.tape, h3.trans h.output, by rw [hs]; exact h.size, fun k hk hko => (hb k (by omega) (by omega)).trans (h.old k hk hko), (hb X (by omega) (by omega)).trans h.hX, (hb N (by omega) (by omega)).trans h.hN, hY, hZ, h.hE.frame (fun k hk => hb k (by omega) (by omega)) (fun _ h => h), h.own, ho⟩
/-- The four sums, stored over a block's cells. -/
theorem set54 {W : World} {b : Nat} {cs : Array Value} (h : W.heap[b]? = some (.cells cs 54)) (hs : cs.size = 4) (x0 x1 x2 x3 : Value) :
    ((((W.setCell ⟨b, 0, none⟩ x0).setCell ⟨b, 1, none⟩ x1).setCell ⟨b, 2, none⟩ x2).setCell ⟨b, 3, none⟩ x3).heap[b]? = some (.cells #[x0, x1, x2, x3] 54) := by
  have h4 := bset (bset (bset (bset h 0 x0) 1 x1) 2 x2) 3 x3
  rw [h4]
  obtain ⟨l⟩ := cs
  match l, hs with
  | [_, _, _, _], _ => rfl
theorem set54_other (W : World) (b : Nat) (x0 x1 x2 x3 : Value) (k : Nat) (hk : k ≠ b) :
    ((((W.setCell ⟨b, 0, none⟩ x0).setCell ⟨b, 1, none⟩ x1).setCell ⟨b, 2, none⟩ x2).setCell ⟨b, 3, none⟩ x3).heap[k]? = W.heap[k]? :=
  (Below.heap_setCell _ _ _ _ hk).trans ((Below.heap_setCell _ _ _ _ hk).trans ((Below.heap_setCell _ _ _ _ hk).trans (Below.heap_setCell _ _ _ _ hk)))
theorem alloc_at2' (w : World) (o o' : Obj) : ((w.alloc o).alloc o').heap[w.heap.size + 1]? = some o' := by have := alloc_at (w.alloc o) o'; simpa using this
theorem Grew.alloc {w w' : World} {v v' : Value} {o : Obj} (h : (w.alloc o).grownBy w' v.ownBlock) (h' : v'.ownBlock = v.ownBlock ∨ ∃ g, v'.ownBlock = some g ∧ w.heap.size + 1 ≤ g) : Grew w w' v v' :=
  (Grew.below (alloc_below w o)).trans ⟨h, h'.elim .inl (fun ⟨g, h1, h2⟩ => .inr ⟨g, h1, by simpa using h2⟩)⟩
theorem addM_swap (a b c : Int) : addM (addM a b) c = addM (addM b a) c := by unfold addM; rw [Int.add_comm a b]
/-- Another block, a store later. -/
theorem cell_set_ne {W : World} {b k o j : Nat} {v u : Value} (h : W.cell? ⟨k, o, none⟩ = some u) (hne : k ≠ b) : (W.setCell ⟨b, j, none⟩ v).cell? ⟨k, o, none⟩ = some u := (World.cell?_of_block (Below.heap_setCell _ _ _ _ hne)).trans h
theorem WSt.other {w W W' : World} {N X Y Z : Nat} {ov ov1 : Value} {E8 cY cZ : Array Value} {e : El} (h : WSt w W N X Y ov ov1 E8 cY cZ e) (hb : ∀ k, k ≠ Z → W'.heap[k]? = W.heap[k]?) (hZ : Y + 2 ≤ Z) (hs : W'.heap.size = W.heap.size) (h1 : W'.os = W.os) (h2 : W'.tape = W.tape) (h3 : W'.output = W.output) : WSt w W' N X Y ov ov1 E8 cY cZ e := by
  have ho := h.ord
  exact ⟨h1.trans h.os, h2.trans h.tape, h3.trans h.output, by rw [hs]; exact h.size, fun k hk hko => (hb k (by omega)).trans (h.old k hk hko), (hb X (by omega)).trans h.hX, (hb N (by omega)).trans h.hN, (hb Y (by omega)).trans h.hY, (hb (Y + 1) (by omega)).trans h.hZ, h.hE.frame (fun k hk => hb k (by omega)) (fun _ h => h), h.own, ho⟩
/-- What walk hands back. -/
theorem walk_end {w w11 w12 w15 w16 : World} {N X Y Z B m3 cap cap3 : Nat} {S0 SF : Nat → Prop} {A A3 : Option Addr} {ov ov3 : Value} {E8 cY cZ cs : Array Value} {e : El} {L L3 L' : List (El × Nat)} {r : Ending} (hN : N = w.heap.size) (hov : ov = .slice A L.length cap) (hov3 : ov3 = .slice A3 m3 cap3) (hm3 : m3 = L3.length) (hL : L3 = L ++ L')
    (h15 : WSt w w15 N X Y ov ov3 E8 cY cZ e) (h16 : w16.heap[N]? = some (.cells cs 54) ∧ (∀ k, k ≠ N → w16.heap[k]? = w15.heap[k]?) ∧ w16.heap.size = w15.heap.size ∧ w16.os = w15.os ∧ w16.tape = w15.tape ∧ w16.output = w15.output)
    (hG : GIn w11 SF B 61 f32 ov3 L3) (hS : ∀ k, SF k → k ≠ N ∧ Sof w11 ov3 k) (hS2 : ∀ k, SF k → S0 k ∨ N ≤ k) (h12 : Below Z w11 w12) (hZ : Z = w11.heap.size) (h14 : ∀ k, k ≠ Z → w15.heap[k]? = w12.heap[k]?) (h14s : w15.heap.size = w12.heap.size) (hovN : ∀ k, ov.ownBlock = some k → k < N) (_ : Y + 2 ≤ Z) :
    m3 = (L ++ L').length ∧ r = r ∧ GIn w16 (fun k => S0 k ∨ (w.heap.size ≤ k ∧ Sof w16 (.slice A3 m3 cap3) k)) B 61 f32 (.slice A3 m3 cap3) (L ++ L') ∧ Grew w w16 (.slice A L.length cap) (.slice A3 m3 cap3) := by
  have ho := h15.ord
  have hs := h12.size
  have hfr : ∀ k, k ≠ N → k < w11.heap.size → w16.heap[k]? = w11.heap[k]? := fun k h1 h2 => (h16.2.1 k h1).trans ((h14 k (by omega)).trans (h12.block k (by omega)))
  have hsz : w16.heap.size = w12.heap.size := h16.2.2.1.trans h14s
  rw [← hov3, ← hov, ← hL, ← hN]
  refine ⟨hm3, rfl, hG.frame (fun k hk => hfr k (hS k hk).1 (hS k hk).2.1) (fun k hk => hfr k (fun e => (h15.ne hovN N (Nat.le_refl _) (by omega)).2 (by rw [← e]; exact hk)) (hG.lt k hk).2) (fun k hk => ?_), ⟨h16.2.2.2.1.trans h15.os, h16.2.2.2.2.1.trans h15.tape, h16.2.2.2.2.2.trans h15.output, by have := h15.size; omega, fun k hk hne => ?_⟩, ?_⟩
  · rcases hS2 k hk with h | h
    · exact .inl h
    · exact .inr ⟨h, by rw [hsz]; have := (hS k hk).2.1; omega, (hS k hk).2.2⟩
  · exact (h16.2.1 k (by omega)).trans (h15.old k (by omega) (fun e => hne e.symm))
  · rcases h15.own with h | ⟨g, h, h2⟩
    · exact .inl h
    · exact .inr ⟨g, h, by omega⟩
theorem alloc_at2 (w : World) (o o' : Obj) : ((w.alloc o).alloc o').heap[w.heap.size + 1]? = some o' := by have := alloc_at (w.alloc o) o'; simpa using this
/-- The sums of nothing; the zero of them. -/
def Z54 : Array Value := #[.int .i64 0, .int .i64 0, .int .i64 0, .int .u64 0]
def M54 : Array Value := #[.int .i64 0, .int .i64 0, .int .i64 9223372036854775807, .int .u64 0]

/-- A child is asked for its element, and stands below. -/
theorem kid_below (w : World) (S S' : Nat → Prop) (X : Nat) (E : Array Value) (e q : El) (b ep : Nat) (hb : w.cell? ⟨b, 0, none⟩ = some (.pointer (some ⟨ep, 0, none⟩))) (he : EAt w S ep q) (hS : ∀ k, S k → k < w.heap.size) (hlb : b < w.heap.size)
    (hX : w.heap[X]? = some (.cells E 32)) (hE : EIn w S' E e) (hS' : ∀ k, S' k → k < w.heap.size) (ha : abvK e q = true) :
    Calls Try.prog 26 #[.pointer (some ⟨b, 0, none⟩)] w fun r w4 => ∃ cs, r = .returned (.agg cs) ∧ w4.heap[X]? = some (.cells E 32) ∧
      Calls Try.prog 37 #[.agg cs, .agg E] w4 fun r w5 => r = .returned (.bool true) ∧ w5.heap[X]? = some (.cells E 32) ∧ Below w.heap.size w w5 := by
  refine (nodeElem_26 w S b ep q hb he hS hlb).mono ?_
  rintro r w4 ⟨⟨cs, rfl, hcs⟩, hb4⟩
  have x4 := (hb4.block X (blt hX)).trans hX
  refine ⟨cs, rfl, x4, ?_⟩
  refine (below_37 w4 (fun k => k < w4.heap.size) cs E q e (hcs.frame (fun _ _ => rfl) (fun k hk => hk.2)) (hE.frame (fun k hk => hb4.block k (hS' k hk)) (fun k hk => Nat.lt_of_lt_of_le (hS' k hk) hb4.size)) (fun _ h => h) ha).mono ?_
  rintro r w5 ⟨rfl, hb5⟩
  exact ⟨rfl, (hb5.block X (blt x4)).trans x4, hb4.trans (hb5.mono hb4.size)⟩

theorem EB.of' {X : Nat} {k i : Int} {s : ByteArray} {B : Option Addr} {bl bc : Nat} {e : El} {W : World} (h : W.heap[X]? = some (.cells #[.int .u8 k, .int .i64 i, .string s, .slice B bl bc, .int .i64 e.start, .int .i64 e.fin, .bool e.pend, .int .u64 e.hv] 32)) :
    W.cell? ⟨X, 0, none⟩ = some (.int .u8 k) ∧ W.cell? ⟨X, 1, none⟩ = some (.int .i64 i) ∧ W.cell? ⟨X, 2, none⟩ = some (.string s) ∧ W.cell? ⟨X, 3, none⟩ = some (.slice B bl bc) ∧ W.cell? ⟨X, 4, none⟩ = some (.int .i64 e.start) ∧ W.cell? ⟨X, 5, none⟩ = some (.int .i64 e.fin) ∧ W.cell? ⟨X, 6, none⟩ = some (.bool e.pend) ∧ W.cell? ⟨X, 7, none⟩ = some (.int .u64 e.hv) :=
  ⟨by rw [bcell h]; rfl, by rw [bcell h]; rfl, by rw [bcell h]; rfl, by rw [bcell h]; rfl, by rw [bcell h]; rfl, by rw [bcell h]; rfl, by rw [bcell h]; rfl, by rw [bcell h]; rfl⟩

set_option maxHeartbeats 4000000 in
set_option maxRecDepth 100000 in
theorem walk_18 (t : BT (El × Nat)) : ∀ (w : World) (S S0 : Nat → Prop) (v : Option Addr) (fuel B : Nat) (A : Option Addr) (cap : Nat) (L : List (El × Nat)) (mx : Nat), TIn w S t v → (∀ k, S k → Sof w (.slice A L.length cap) k) → (∀ k, S0 k → Sof w (.slice A L.length cap) k) → hpT t → ctT t → OkT t → szT t ≤ 4096 →
    GIn w S0 B 61 f32 (.slice A L.length cap) L → B ≤ w.heap.size → dpT t < fuel → fuel ≤ 5000 → L.length + (toL t).length ≤ mx → mx ≤ 4096 →
    Calls Try.prog 18 #[.pointer v, .int .i64 fuel, .slice A L.length cap, .int .i64 mx] w fun r w' => ∃ A' cap' n', n' = (L ++ toL t).length ∧ r = .returned (.tuple #[.slice A' n' cap', .agg #[.int .i64 (szT t), .int .i64 (fmT t), .int .i64 (meT t), .int .u64 (smT t)], .bool true]) ∧
      GIn w' (fun k => S0 k ∨ (w.heap.size ≤ k ∧ Sof w' (.slice A' n' cap') k)) B 61 f32 (.slice A' n' cap') (L ++ toL t) ∧ Grew w w' (.slice A L.length cap) (.slice A' n' cap') := by
  induction t with
  | nil =>
    intro w S S0 v fuel B A cap L mx ht hS hS0 hh hct hok hsz hG hB hd hf hm hmx
    obtain rfl : v = none := ht
    have HG : Hid (GIn w S0 B 61 f32 (.slice A L.length cap) L ∧ (∀ k, S0 k → Sof w (.slice A L.length cap) k)) := ⟨hG, hS0⟩
    clear hS hG hS0
    go_enter Try.func18, Try.ntmps18
    go_wp2_with fail
    go_region
    go_wp2_with fail
    refine bodyPost_ret (v := .tuple #[.slice A L.length cap, .agg #[.int .i64 0, .int .i64 0, .int .i64 9223372036854775807, .int .u64 0], .bool true]) (by simp [results, Try.results18, go_sem]) rfl ⟨A, cap, L.length, by simp [toL], rfl, ?_⟩
    have hb : ∀ o o', Below w.heap.size w ((w.alloc o).alloc o').drew := fun o o' => ⟨rfl, rfl, rfl, by simp [World.drew]; omega, fun k hk => ((alloc_below w o).alloc (by simp) o').block k hk⟩
    refine ⟨?_, Grew.below (hb _ _)⟩
    simp only [toL, List.append_nil]
    exact HG.out.1.frame (fun k hk => (hb _ _).block k (HG.out.2 k hk).1) (fun k hk => (hb _ _).block k (HG.out.1.lt k hk).2) (fun k hk => .inl hk)
  | node d1 d2 p l r ihl ihr =>
    intro w S S0 v fuel B A cap L mx ht hS hS0 hh hct hok hsz hG hB hd hf hm hmx
    have HIH : Hid (_ ∧ _) := ⟨ihl, ihr⟩
    have HA : Hid (hpT (.node d1 d2 p l r) ∧ ctT (.node d1 d2 p l r) ∧ OkT (.node d1 d2 p l r)) := ⟨hh, hct, hok⟩
    obtain ⟨N, hN⟩ : ∃ N, N = w.heap.size := ⟨_, rfl⟩
    have HN : Hid (N = w.heap.size) := hN
    obtain ⟨b, ep, lo, ro, rfl, hb, he, hl, hr, a0, a1, a2, a3, a4, a5, a6, a7⟩ := ht.cells
    obtain ⟨ov, hov⟩ : ∃ ov, ov = Value.slice A L.length cap := ⟨_, rfl⟩
    have HOV : Hid (ov = Value.slice A L.length cap) := hov
    rw [← hov] at hS hS0 hG
    have HG : Hid (GIn w S0 B 61 f32 ov L ∧ (∀ k, S0 k → k < N ∧ ov.ownBlock ≠ some k) ∧ (∀ k, ov.ownBlock = some k → k < N) ∧ (∀ k, S k → k < N ∧ ov.ownBlock ≠ some k)) := ⟨hG, by rw [hN]; exact hS0, by rw [hN]; exact fun k hk => (hG.lt k hk).2, by rw [hN]; exact hS⟩
    have HC : Hid (w.cell? ⟨b, 0, none⟩ = some (.pointer (some ⟨ep, 0, none⟩)) ∧ w.cell? ⟨b, 1, none⟩ = some (.int .i32 p.2) ∧ w.cell? ⟨b, 2, none⟩ = some (.int .i32 (szT (.node d1 d2 p l r))) ∧ w.cell? ⟨b, 3, none⟩ = some (.int .i32 (fmT (.node d1 d2 p l r))) ∧ w.cell? ⟨b, 4, none⟩ = some (.pointer lo) ∧ w.cell? ⟨b, 5, none⟩ = some (.pointer ro) ∧ w.cell? ⟨b, 6, none⟩ = some (.int .i64 (meT (.node d1 d2 p l r))) ∧ w.cell? ⟨b, 7, none⟩ = some (.int .u64 (smT (.node d1 d2 p l r)))) := ⟨a0, a1, a2, a3, a4, a5, a6, a7⟩
    have HT : Hid (TIn w S l lo ∧ TIn w S r ro ∧ EAt w S ep p.1 ∧ S b) := ⟨hl, hr, he, hb⟩
    have hnz := szT_nonneg l
    have hnr := szT_nonneg r
    have hnd : szT (.node d1 d2 p l r) = p.2 + szT l + szT r := rfl
    have hp1 : 1 ≤ p.2 := hct.1
    have hp0 : p.2 ≠ 0 := by omega
    have hp2 : p.2 ≤ 4096 := by omega
    have hf0 : fuel ≠ 0 := by omega
    have hdl : (fuel : Int) - 1 = ((fuel - 1 : Nat) : Int) := by omega
    have hlen : (toL (.node d1 d2 p l r)).length = (toL l).length + 1 + (toL r).length := by simp [toL]; omega
    have HD : Hid (dpT l < fuel - 1 ∧ dpT r < fuel - 1 ∧ fuel - 1 ≤ 5000 ∧ L.length + (toL l).length + 1 + (toL r).length ≤ mx ∧ mx ≤ 4096 ∧ szT l ≤ 4096 ∧ szT r ≤ 4096 ∧ B ≤ N ∧ p.2 + szT l + szT r ≤ 4096) := by simp only [dpT] at hd; exact ⟨by omega, by omega, by omega, by omega, hmx, by omega, by omega, by omega, by omega⟩
    have hwf : IntKind.i64.wrap ((fuel : Int) - 1) = ((fuel - 1 : Nat) : Int) := by rw [IntKind.wrap_i64, hdl]; omega
    rw [← hov]
    clear hov hN hS hS0 hG hB hb he hl hr a0 a1 a2 a3 a4 a5 a6 a7 ht hh hct hok hsz hd hm hmx hnd hlen hdl ihl ihr
    have HCL : Hid (∀ {W : World}, Below N w W → ∀ {q o : Nat}, q < N → W.cell? ⟨q, o, none⟩ = w.cell? ⟨q, o, none⟩) := fun h _ _ hq => World.cell?_of_block (h.block _ hq)
    go_enter Try.func18, Try.ntmps18
    go_wp2_with fail
    generalize hw1 : (w.alloc _).alloc _ = w1
    have HW1 : Hid (w1.heap[N]? = some (.cells Z54 54) ∧ w1.heap[N + 1]? = some (.cells M54 54) ∧ Below N w w1 ∧ w1.heap.size = N + 2) := by
      rw [HN.out, ← hw1]
      exact ⟨(Below.heap_alloc _ _ _ (by simp)).trans (alloc_at w _), alloc_at2 _ _ _, (alloc_below w _).alloc (by simp) _, by simp⟩
    clear hw1
    have hn1 := nodeElem_26 w1 S b ep p.1 ((HCL.out HW1.out.2.2.1 (HG.out.2.2.2 b HT.out.2.2.2).1).trans HC.out.1) (HT.out.2.2.1.frame (fun k hk => HW1.out.2.2.1.block k (HG.out.2.2.2 k hk).1) (fun _ h => h)) (fun k hk => by have := HW1.out.2.2.2; have := (HG.out.2.2.2 k hk).1; omega) (by have := HW1.out.2.2.2; have := (HG.out.2.2.2 b HT.out.2.2.2).1; omega)
    rw [← HN.out]
    refine hn1.mono ?_
    clear hn1
    rintro e w2 ⟨⟨cs1, rfl, hE1⟩, hb2⟩
    obtain ⟨n1, k, i, s, Q, ql, qc, rfl, hv1⟩ := id hE1
    have HW2 : Hid (EIn w2 (fun k => N + 2 ≤ k ∧ k < w2.heap.size) #[.int .u8 k, .int .i64 i, .string s, .slice Q ql qc, .int .i64 p.1.start, .int .i64 p.1.fin, .bool p.1.pend, .int .u64 p.1.hv] p.1 ∧ Below (N + 2) w1 w2) := by
      have h9 := HW1.out.2.2.2
      rw [h9] at hE1 hb2
      exact ⟨hE1, hb2⟩
    clear hE1 hv1 hb2
    have g27 := fun W h => get_27 W b _ ((HCL.out (W := W) h (HG.out.2.2.2 b HT.out.2.2.2).1).trans HC.out.2.1)
    have g28 := fun W h => get_28 W b _ ((HCL.out (W := W) h (HG.out.2.2.2 b HT.out.2.2.2).1).trans HC.out.2.2.2.2.1)
    have g29 := fun W h => get_29 W b _ ((HCL.out (W := W) h (HG.out.2.2.2 b HT.out.2.2.2).1).trans HC.out.2.2.2.2.2.1)
    have H23 : Hid (∀ o, Below N w (w2.alloc o)) := fun o => HW1.out.2.2.1.trans (((HW2.out.2.mono (by omega)).alloc (by have := HW2.out.2.size; have := HW1.out.2.2.2; omega) o))
    go_wp2_with (first
      | (go_at_call 27; refine (g27 _ (H23.out _)).mono ?_; rintro e w' ⟨rfl, rfl⟩)
      | (go_at_call 28; refine (g28 _ (H23.out _)).mono ?_; rintro e w' ⟨rfl, rfl⟩)
      | (go_at_call 29; refine (g29 _ (H23.out _)).mono ?_; rintro e w' ⟨rfl, rfl⟩))
    generalize hw3 : w2.alloc _ = w3
    generalize hX : w2.heap.size = X
    have HW3 : Hid (w3.heap[X]? = some (.cells #[.int .u8 k, .int .i64 i, .string s, .slice Q ql qc, .int .i64 p.1.start, .int .i64 p.1.fin, .bool p.1.pend, .int .u64 p.1.hv] 32) ∧ Below N w w3 ∧ EIn w3 (fun k => N + 2 ≤ k ∧ k < X) #[.int .u8 k, .int .i64 i, .string s, .slice Q ql qc, .int .i64 p.1.start, .int .i64 p.1.fin, .bool p.1.pend, .int .u64 p.1.hv] p.1 ∧ (N + 2 ≤ X ∧ w3.heap.size = X + 1) ∧ w3.heap[N]? = some (.cells Z54 54)) := by
      have h1 := HW1.out.2.2.2
      have h2 := HW2.out.2.size
      have b1 : Below X w2 w3 := by rw [← hw3, ← hX]; exact alloc_below _ _
      refine ⟨by rw [← hw3, ← hX]; exact alloc_at _ _, by rw [← hw3]; exact H23.out _, HW2.out.1.frame (fun k hk => b1.block k (by omega)) (fun k hk => by omega), ⟨by omega, by rw [← hw3, ← hX]; exact Array.size_push _⟩, ?_⟩
      exact (b1.block N (by omega)).trans ((HW2.out.2.block N (by omega)).trans HW1.out.1)
    clear hw3 hX HW1 HW2 g27 g28 g29 H23
    go_cut [49] (fun c wx => c = .bool false ∧ Below w3.heap.size w3 wx)
    case first =>
      cases hkid : l with
      | nil =>
        obtain rfl : lo = none := by have := HT.out.1; rw [hkid] at this; exact this
        go_quiet (fail)
        go_wp2_with fail
        go_meet
        exact ⟨rfl, ⟨rfl, rfl, rfl, Nat.le_refl _, fun _ _ => rfl⟩⟩
      | node d3 d4 pk lk rk =>
        have htk := HT.out.1
        rw [hkid] at htk
        obtain ⟨bk, ek, lok, rok, hvk, hbk, hek, _, _, z0, _, _, _, _, _, _, _⟩ := htk.cells
        cases hvk
        have hab : abvK p.1 pk.1 = true := HA.out.1.1 pk (by rw [hkid]; simp [toL])
        have hq := kid_below w3.drew S (fun k => N + 2 ≤ k ∧ k < X) X #[.int .u8 k, .int .i64 i, .string s, .slice Q ql qc, .int .i64 p.1.start, .int .i64 p.1.fin, .bool p.1.pend, .int .u64 p.1.hv] p.1 pk.1 bk ek ((World.cell?_of_block (w := w) (w' := w3.drew) (HW3.out.2.1.block bk (HG.out.2.2.2 bk hbk).1)).trans z0) (hek.frame (w' := w3.drew) (fun k hk => HW3.out.2.1.block k (HG.out.2.2.2 k hk).1) (fun _ h => h)) (fun k hk => by have := HW3.out.2.2.2.1; have := (HG.out.2.2.2 k hk).1; show k < w3.heap.size; omega) (by have := HW3.out.2.2.2.1; have := (HG.out.2.2.2 bk hbk).1; show bk < w3.heap.size; omega) HW3.out.1 (HW3.out.2.2.1.frame (w := w3) (w' := w3.drew) (fun _ _ => rfl) (fun _ h => h)) (fun k hk => by have := HW3.out.2.2.2.1; show k < w3.heap.size; omega) hab
        have hs1 := EB.of' (W := w3.drew) (X := X) (e := p.1) HW3.out.1
        clear z0 hek hbk hab htk
        go_region_held3 (fun W => W.cell? ⟨X, 0, none⟩ = some (.int .u8 k) ∧ W.cell? ⟨X, 1, none⟩ = some (.int .i64 i) ∧ W.cell? ⟨X, 2, none⟩ = some (.string s) ∧ W.cell? ⟨X, 3, none⟩ = some (.slice Q ql qc) ∧ W.cell? ⟨X, 4, none⟩ = some (.int .i64 p.1.start) ∧ W.cell? ⟨X, 5, none⟩ = some (.int .i64 p.1.fin) ∧ W.cell? ⟨X, 6, none⟩ = some (.bool p.1.pend) ∧ W.cell? ⟨X, 7, none⟩ = some (.int .u64 p.1.hv)) (assumption)
          (first
            | (go_at_call 26; refine hq.mono ?_; rintro r w4 ⟨cs, rfl, hs2', hq2⟩; have hs2 := EB.of' hs2')
            | (go_at_call 37; refine hq2.mono ?_; rintro r w5 ⟨rfl, hs3', hfin⟩; have hs3 := EB.of' hs3'))
        have HF : Hid (Below w3.heap.size w3 w5) := ⟨hfin.os, hfin.tape, hfin.output, hfin.size, hfin.block⟩
        clear hs1 hs2 hs3 hs2' hs3' hq hq2 hfin
        go_wp2_with fail
        go_meet
        exact ⟨rfl, HF.out⟩
    case rest =>
      obtain ⟨rfl, hbc⟩ := hcut
      have HW4 : Hid (wc.heap[X]? = some (.cells #[.int .u8 k, .int .i64 i, .string s, .slice Q ql qc, .int .i64 p.1.start, .int .i64 p.1.fin, .bool p.1.pend, .int .u64 p.1.hv] 32) ∧ Below N w wc ∧ EIn wc (fun k => N + 2 ≤ k ∧ k < X) #[.int .u8 k, .int .i64 i, .string s, .slice Q ql qc, .int .i64 p.1.start, .int .i64 p.1.fin, .bool p.1.pend, .int .u64 p.1.hv] p.1 ∧ (N + 2 ≤ X ∧ X + 1 ≤ wc.heap.size) ∧ wc.heap[N]? = some (.cells Z54 54)) := by
        have h1 := HW3.out.2.2.2.1
        rw [h1.2] at hbc
        exact ⟨(hbc.block X (by omega)).trans HW3.out.1, HW3.out.2.1.trans (hbc.mono (by omega)), HW3.out.2.2.1.frame (fun k hk => hbc.block k (by omega)) (fun _ h => h), ⟨h1.1, by have := hbc.size; omega⟩, (hbc.block N (by omega)).trans HW3.out.2.2.2.2⟩
      obtain ⟨w4c, hw4c⟩ : ∃ w4c, w4c = wc := ⟨_, rfl⟩
      rw [← hw4c] at HW4 ⊢
      clear hw4c hbc HW3
      go_wp2_with fail
      go_cut [60] (fun c wx => c = .bool false ∧ Below w4c.heap.size w4c wx)
      case first =>
        cases hkid : r with
        | nil =>
          obtain rfl : ro = none := by have := HT.out.2.1; rw [hkid] at this; exact this
          go_quiet (fail)
          go_wp2_with fail
          go_meet
          exact ⟨rfl, ⟨rfl, rfl, rfl, Nat.le_refl _, fun _ _ => rfl⟩⟩
        | node d3 d4 pk lk rk =>
          have htk := HT.out.2.1
          rw [hkid] at htk
          obtain ⟨bk, ek, lok, rok, hvk, hbk, hek, _, _, z0, _, _, _, _, _, _, _⟩ := htk.cells
          cases hvk
          have hab : abvK p.1 pk.1 = true := HA.out.1.1 pk (by rw [hkid]; simp [toL])
          have hq := kid_below w4c.drew S (fun k => N + 2 ≤ k ∧ k < X) X #[.int .u8 k, .int .i64 i, .string s, .slice Q ql qc, .int .i64 p.1.start, .int .i64 p.1.fin, .bool p.1.pend, .int .u64 p.1.hv] p.1 pk.1 bk ek ((World.cell?_of_block (w := w) (w' := w4c.drew) (HW4.out.2.1.block bk (HG.out.2.2.2 bk hbk).1)).trans z0) (hek.frame (w' := w4c.drew) (fun k hk => HW4.out.2.1.block k (HG.out.2.2.2 k hk).1) (fun _ h => h)) (fun k hk => by have := HW4.out.2.2.2.1; have := (HG.out.2.2.2 k hk).1; show k < w4c.heap.size; omega) (by have := HW4.out.2.2.2.1; have := (HG.out.2.2.2 bk hbk).1; show bk < w4c.heap.size; omega) HW4.out.1 (HW4.out.2.2.1.frame (w := w4c) (w' := w4c.drew) (fun _ _ => rfl) (fun _ h => h)) (fun k hk => by have := HW4.out.2.2.2.1; show k < w4c.heap.size; omega) hab
          have hs1 := EB.of' (W := w4c.drew) (X := X) (e := p.1) HW4.out.1
          clear z0 hek hbk hab htk
          go_region_held3 (fun W => W.cell? ⟨X, 0, none⟩ = some (.int .u8 k) ∧ W.cell? ⟨X, 1, none⟩ = some (.int .i64 i) ∧ W.cell? ⟨X, 2, none⟩ = some (.string s) ∧ W.cell? ⟨X, 3, none⟩ = some (.slice Q ql qc) ∧ W.cell? ⟨X, 4, none⟩ = some (.int .i64 p.1.start) ∧ W.cell? ⟨X, 5, none⟩ = some (.int .i64 p.1.fin) ∧ W.cell? ⟨X, 6, none⟩ = some (.bool p.1.pend) ∧ W.cell? ⟨X, 7, none⟩ = some (.int .u64 p.1.hv)) (assumption)
            (first
              | (go_at_call 26; refine hq.mono ?_; rintro r w4 ⟨cs, rfl, hs2', hq2⟩; have hs2 := EB.of' hs2')
              | (go_at_call 37; refine hq2.mono ?_; rintro r w5 ⟨rfl, hs3', hfin⟩; have hs3 := EB.of' hs3'))
          have HF : Hid (Below w4c.heap.size w4c w5) := ⟨hfin.os, hfin.tape, hfin.output, hfin.size, hfin.block⟩
          clear hs1 hs2 hs3 hs2' hs3' hq hq2 hfin
          go_wp2_with fail
          go_meet
          exact ⟨rfl, HF.out⟩
      case rest =>
        obtain ⟨rfl, hbc⟩ := hcut
        have HW5 : Hid (wc.heap[X]? = some (.cells #[.int .u8 k, .int .i64 i, .string s, .slice Q ql qc, .int .i64 p.1.start, .int .i64 p.1.fin, .bool p.1.pend, .int .u64 p.1.hv] 32) ∧ Below N w wc ∧ EIn wc (fun k => N + 2 ≤ k ∧ k < X) #[.int .u8 k, .int .i64 i, .string s, .slice Q ql qc, .int .i64 p.1.start, .int .i64 p.1.fin, .bool p.1.pend, .int .u64 p.1.hv] p.1 ∧ (N + 2 ≤ X ∧ X + 1 ≤ wc.heap.size) ∧ wc.heap[N]? = some (.cells Z54 54)) := by
          have h1 := HW4.out.2.2.2.1
          exact ⟨(hbc.block X (by omega)).trans HW4.out.1, HW4.out.2.1.trans (hbc.mono (by omega)), HW4.out.2.2.1.frame (fun k hk => hbc.block k (by omega)) (fun _ h => h), ⟨h1.1, by have := hbc.size; omega⟩, (hbc.block N (by omega)).trans HW4.out.2.2.2.2⟩
        obtain ⟨w5c, hw5c⟩ : ∃ w5c, w5c = wc := ⟨_, rfl⟩
        rw [← hw5c] at HW5 ⊢
        clear hw5c hbc HW4
        go_wp2_with fail
        generalize hw6 : (w5c.alloc _).alloc _ = w6
        generalize hY : w5c.heap.size = Y
        have HW6 : Hid (WSt w w6 N X Y ov ov #[.int .u8 k, .int .i64 i, .string s, .slice Q ql qc, .int .i64 p.1.start, .int .i64 p.1.fin, .bool p.1.pend, .int .u64 p.1.hv] #[.int .i64 0, .int .i64 0, .int .i64 0, .int .u64 0] #[.int .i64 0, .int .i64 0, .int .i64 0, .int .u64 0] p.1 ∧ w6.heap.size = Y + 2 ∧ Below N w w6) := by
          have h1 := HW5.out.2.2.2.1
          have b1 : Below Y w5c w6 := by rw [← hw6, ← hY]; exact (alloc_below _ _).alloc (by simp) _
          have b2 : Below N w w6 := HW5.out.2.1.trans (b1.mono (by omega))
          refine ⟨⟨b2.os, b2.tape, b2.output, by rw [← hw6, ← hY]; simp, fun k hk _ => b2.block k hk, (b1.block X (by omega)).trans HW5.out.1, (b1.block N (by omega)).trans HW5.out.2.2.2.2, ?_, ?_, HW5.out.2.2.1.frame (fun k hk => b1.block k (by omega)) (fun _ h => h), .inl rfl, by omega⟩, by rw [← hw6, ← hY]; simp, b2⟩
          · rw [← hw6, ← hY]; exact (Below.heap_alloc _ _ _ (by simp)).trans (alloc_at _ _)
          · rw [← hw6, ← hY]; exact alloc_at2' _ _ _
        clear hw6 hY HW5
        have hih := HIH.out.1 w6 S S0 lo (fuel - 1) B A cap L mx (HT.out.1.frame (fun k hk => HW6.out.2.2.block k (HG.out.2.2.2 k hk).1) (fun _ h => h)) (fun k hk => by rw [← HOV.out]; exact ⟨by have := (HG.out.2.2.2 k hk).1; have := HW6.out.2.1; have := HW6.out.1.ord; omega, (HG.out.2.2.2 k hk).2⟩) (fun k hk => by rw [← HOV.out]; exact ⟨by have := (HG.out.2.1 k hk).1; have := HW6.out.2.1; have := HW6.out.1.ord; omega, (HG.out.2.1 k hk).2⟩) HA.out.1.2.1 HA.out.2.1.2.1 HA.out.2.2.2.1 HD.out.2.2.2.2.2.1 (by rw [← HOV.out]; exact HG.out.1.frame (fun k hk => HW6.out.2.2.block k (HG.out.2.1 k hk).1) (fun k hk => HW6.out.2.2.block k (HG.out.2.2.1 k hk)) (fun _ h => h)) (by have := HD.out.2.2.2.2.2.2.2.1; have := HW6.out.2.1; have := HW6.out.1.ord; omega) HD.out.1 HD.out.2.2.1 (by have := HD.out; omega) HD.out.2.2.2.2.1
        rw [← HOV.out] at hih
        refine hih.mono ?_
        clear hih
        rintro e w7 ⟨A1, cap1, m1, hm1, rfl, hg7, hgr7⟩
        obtain ⟨ov1, hov1⟩ : ∃ ov1, ov1 = Value.slice A1 m1 cap1 := ⟨_, rfl⟩
        rw [← hov1] at hg7 hgr7
        obtain ⟨L1, hL1⟩ : ∃ L1, L1 = L ++ toL l := ⟨_, rfl⟩
        rw [← hL1] at hg7 hm1
        have HL1 : Hid (L1 = L ++ toL l) := hL1
        clear hL1
        have HOV1 : Hid (ov1 = Value.slice A1 m1 cap1 ∧ m1 = L1.length) := ⟨hov1, hm1⟩
        have hm2 : m1 < mx := by have h1 := HL1.out; rw [hm1, h1, List.length_append]; have := HD.out; omega
        have hst7 := HW6.out.1.grew HG.out.2.2.1 hgr7
        have HW7 : Hid (WSt w w7 N X Y ov ov1 #[.int .u8 k, .int .i64 i, .string s, .slice Q ql qc, .int .i64 p.1.start, .int .i64 p.1.fin, .bool p.1.pend, .int .u64 p.1.hv] #[.int .i64 0, .int .i64 0, .int .i64 0, .int .u64 0] #[.int .i64 0, .int .i64 0, .int .i64 0, .int .u64 0] p.1 ∧ GIn w7 (fun k => S0 k ∨ (w6.heap.size ≤ k ∧ Sof w7 ov1 k)) B 61 f32 ov1 L1 ∧ Grew w6 w7 ov ov1) := ⟨hst7, hg7, hgr7⟩
        have y0 : w7.cell? ⟨Y, 0, none⟩ = some (.int .i64 0) := by rw [bcell hst7.hY]; rfl
        have y1 : w7.cell? ⟨Y, 1, none⟩ = some (.int .i64 0) := by rw [bcell hst7.hY]; rfl
        have y2 : w7.cell? ⟨Y, 2, none⟩ = some (.int .i64 0) := by rw [bcell hst7.hY]; rfl
        have y3 : w7.cell? ⟨Y, 3, none⟩ = some (.int .u64 0) := by rw [bcell hst7.hY]; rfl
        have yf : ∀ j, w7.frozen? ⟨Y, j, none⟩ = false := fun j => bfz hst7.hY j
        have hdm : decide (mx ≤ m1) = false := by simp; omega
        clear hov1 hm1 hg7 hgr7 hst7
        go_upto_region 21 with fail
        clear y0 y1 y2 y3 yf hdm
        generalize hw8 : (((w7.setCell _ _).setCell _ _).setCell _ _).setCell _ _ = w8
        have HW8 : Hid (WSt w w8 N X Y ov ov1 #[.int .u8 k, .int .i64 i, .string s, .slice Q ql qc, .int .i64 p.1.start, .int .i64 p.1.fin, .bool p.1.pend, .int .u64 p.1.hv] #[.int .i64 (szT l), .int .i64 (fmT l), .int .i64 (meT l), .int .u64 (smT l)] #[.int .i64 0, .int .i64 0, .int .i64 0, .int .u64 0] p.1 ∧ GIn w8 (fun k => S0 k ∨ (Y + 2 ≤ k ∧ Sof w7 ov1 k)) B 61 f32 ov1 L1 ∧ (∀ k, (S0 k ∨ (Y + 2 ≤ k ∧ Sof w7 ov1 k)) → Sof w8 ov1 k) ∧ (∀ k, S k → Sof w8 ov1 k) ∧ w8.heap.size = w7.heap.size) := by
          have h7 := HW7.out.1
          have h6 := HW6.out.2.1
          have hsz : w8.heap.size = w7.heap.size := by rw [← hw8]; simp [World.setCell]
          have hoth : ∀ k, k ≠ Y → w8.heap[k]? = w7.heap[k]? := fun k hk => by rw [← hw8]; exact set54_other _ _ _ _ _ _ k hk
          have hs0 : ∀ k, S0 k → Sof w7 ov1 k := fun k hk => HW7.out.2.2.sof k ⟨by have := (HG.out.2.1 k hk).1; have := HW6.out.1.ord; omega, (HG.out.2.1 k hk).2⟩
          have hs1 : ∀ k, S k → Sof w7 ov1 k := fun k hk => HW7.out.2.2.sof k ⟨by have := (HG.out.2.2.2 k hk).1; have := HW6.out.1.ord; omega, (HG.out.2.2.2 k hk).2⟩
          have hne : ∀ k, (S0 k ∨ (Y + 2 ≤ k ∧ Sof w7 ov1 k)) → k ≠ Y := fun k hk => by
            rcases hk with hk | hk
            · have := (HG.out.2.1 k hk).1; have := HW6.out.1.ord; omega
            · omega
          refine ⟨h7.setY (fun k h1 _ => hoth k h1) (by rw [← hw8]; exact set54 h7.hY rfl _ _ _ _) ((hoth (Y + 1) (by omega)).trans h7.hZ) hsz (by rw [← hw8]; rfl) (by rw [← hw8]; rfl) (by rw [← hw8]; rfl), ?_, ?_, ?_, hsz⟩
          · rw [h6] at HW7
            exact HW7.out.2.1.frame (fun k hk => hoth k (hne k hk)) (fun k hk => hoth k (fun e => (h7.ne HG.out.2.2.1 Y (by have := h7.ord; omega) (by omega)).2 (by rw [← e]; exact hk))) (fun _ h => h)
          · intro k hk
            rcases hk with hk | hk
            · exact ⟨by rw [hsz]; exact (hs0 k hk).1, (hs0 k hk).2⟩
            · exact ⟨by rw [hsz]; exact hk.2.1, hk.2.2⟩
          · exact fun k hk => ⟨by rw [hsz]; exact (hs1 k hk).1, (hs1 k hk).2⟩
        clear hw8
        have x := EB.of' HW8.out.1.hX
        obtain ⟨x0, x1, x2, x3, x4, x5, x6, x7⟩ := x
        obtain ⟨SS, hSS⟩ : ∃ SS : Nat → Prop, SS = (fun k => S0 k ∨ (N + 2 ≤ k ∧ k < X) ∨ (Y + 2 ≤ k ∧ Sof w7 ov1 k)) := ⟨_, rfl⟩
        have HSS : Hid (SS = (fun k => S0 k ∨ (N + 2 ≤ k ∧ k < X) ∨ (Y + 2 ≤ k ∧ Sof w7 ov1 k))) := hSS
        clear hSS
        obtain ⟨i0, hi, hz0, hz1, hz2⟩ := info_parts info61
        have HA8 : Hid (∀ o, GIn (w8.alloc o) SS B 61 f32 (.slice A1 m1 cap1) L1 ∧ (∀ k, SS k → Sof (w8.alloc o) (.slice A1 m1 cap1) k) ∧ EIn (w8.alloc o) SS #[.int .u8 k, .int .i64 i, .string s, .slice Q ql qc, .int .i64 p.1.start, .int .i64 p.1.fin, .bool p.1.pend, .int .u64 p.1.hv] p.1) := fun o => by
          have hb := alloc_below w8 o
          rw [← HOV1.out.1, HSS.out]
          refine ⟨HW8.out.2.1.frame (fun k hk => hb.block k (HW8.out.2.2.1 k hk).1) (fun k hk => hb.block k (HW8.out.2.1.lt k hk).2) (fun k hk => hk.elim .inl (fun h => .inr (.inr h))), fun k hk => ?_, HW8.out.1.hE.frame (fun k hk => hb.block k (by have := HW8.out.1.size; have := HW8.out.1.ord; omega)) (fun k hk => .inr (.inl hk))⟩
          rcases hk with hk | hk | hk
          · exact ⟨Nat.lt_of_lt_of_le (HW8.out.2.2.1 k (.inl hk)).1 hb.size, (HW8.out.2.2.1 k (.inl hk)).2⟩
          · have h9 := HW8.out.1.ne HG.out.2.2.1 k (by omega) (by have := HW8.out.1.ord; omega)
            exact ⟨Nat.lt_of_lt_of_le h9.1 hb.size, h9.2⟩
          · exact ⟨Nat.lt_of_lt_of_le (HW8.out.2.2.1 k (.inr hk)).1 hb.size, (HW8.out.2.2.1 k (.inr hk)).2⟩
        have HLN : Hid (L1.length + 1 ≤ 8192 ∧ B ≤ w8.heap.size) := ⟨by have h := HOV1.out.2; rw [← h]; have := HD.out.2.2.2.2.1; omega, by have := HD.out.2.2.2.2.2.2.2.1; have := HW8.out.1.size; have := HW8.out.1.ord; omega⟩
        go_wp2_with (at_builtin; refine append_G _ rfl (.tmp 83) (.tmp 87) 52 rfl 61 i0 _ Try.underlying52 hi hz0 hz1 hz2 rfl SS B f32 (.slice A1 m1 cap1) L1 rfl (HA8.out _).1 (HA8.out _).2.1 w8.heap.size rfl _ _ _ _ p.1 p.2 (alloc_at _ _) (HA8.out _).2.2 rfl HLN.out.1 (Nat.le_trans HLN.out.2 (by simp)) ?_)
        intro v2 w9 hg9 hgr9 hv9
        obtain ⟨L2, hL2⟩ : ∃ L2, L2 = L1 ++ [(p.1, p.2)] := ⟨_, rfl⟩
        rw [← hL2] at hg9
        have HL2 : Hid (L2 = L1 ++ [p]) := hL2
        clear hL2
        obtain ⟨A2, cap2, hv2⟩ := hg9.shape
        obtain ⟨ov2, hov2⟩ : ∃ ov2, ov2 = Value.slice A2 L2.length cap2 := ⟨_, rfl⟩
        rw [hv2] at hv9 ⊢
        rw [hv2, ← hov2] at hg9
        rw [← hov2] at hv9
        clear hv2
        have hgw : Grew w8 w9 ov1 ov2 := by
          rw [← HOV1.out.1] at hgr9 hv9
          exact Grew.alloc hgr9 (by simpa using hv9)
        have hst9 := HW8.out.1.grew HG.out.2.2.1 hgw
        have hss9 : ∀ k, SS k → Sof w9 ov2 k := fun k hk => hgw.sof k (by
          have h := (HA8.out (.cells #[] 0)).2.1 k hk
          rw [← HOV1.out.1] at h
          rw [HSS.out] at hk
          rcases hk with hk | hk | hk
          · exact HW8.out.2.2.1 k (.inl hk)
          · exact HW8.out.1.ne HG.out.2.2.1 k (by omega) (by have := HW8.out.1.ord; omega)
          · exact HW8.out.2.2.1 k (.inr hk))
        have HW9 : Hid (WSt w w9 N X Y ov ov2 #[.int .u8 k, .int .i64 i, .string s, .slice Q ql qc, .int .i64 p.1.start, .int .i64 p.1.fin, .bool p.1.pend, .int .u64 p.1.hv] #[.int .i64 (szT l), .int .i64 (fmT l), .int .i64 (meT l), .int .u64 (smT l)] #[.int .i64 0, .int .i64 0, .int .i64 0, .int .u64 0] p.1 ∧ GIn w9 SS B 61 f32 ov2 L2 ∧ (∀ k, SS k → Sof w9 ov2 k) ∧ (∀ k, S k → Sof w9 ov2 k) ∧ Grew w8 w9 ov1 ov2 ∧ (∀ k, S k → w9.heap[k]? = w.heap[k]?)) := ⟨hst9, hg9, hss9, fun k hk => hgw.sof k (HW8.out.2.2.2.1 k hk), hgw, fun k hk => hst9.old k (HG.out.2.2.2 k hk).1 (HG.out.2.2.2 k hk).2⟩
        have HOV2 : Hid (ov2 = Value.slice A2 L2.length cap2) := hov2
        have hih := HIH.out.2 w9 S SS ro (fuel - 1) B A2 cap2 L2 mx (HT.out.2.1.frame HW9.out.2.2.2.2.2 (fun _ h => h)) (by rw [← HOV2.out]; exact HW9.out.2.2.2.1) (by rw [← HOV2.out]; exact HW9.out.2.2.1) HA.out.1.2.2 HA.out.2.1.2.2 HA.out.2.2.2.2 HD.out.2.2.2.2.2.2.1 (by rw [← HOV2.out]; exact HW9.out.2.1) (by have := HD.out.2.2.2.2.2.2.2.1; have := HW9.out.1.size; have := HW9.out.1.ord; omega) HD.out.2.1 HD.out.2.2.1 (by have := HD.out; rw [HL2.out, HL1.out]; simp only [List.length_append, List.length_cons, List.length_nil]; omega) HD.out.2.2.2.2.1
        clear hov2 hg9 hgr9 hv9 hgw hst9 hss9 hi hz0 hz1 hz2 x0 x1 x2 x3 x4 x5 x6 x7 HA8 HLN
        go_wp2_with fail
        refine hih.mono ?_
        clear hih
        rintro e w10 ⟨A3, cap3, m3, hm3, rfl, hg10, hgr10⟩
        obtain ⟨ov3, hov3⟩ : ∃ ov3, ov3 = Value.slice A3 m3 cap3 := ⟨_, rfl⟩
        rw [← hov3] at hg10 hgr10
        obtain ⟨L3, hL3⟩ : ∃ L3, L3 = L2 ++ toL r := ⟨_, rfl⟩
        rw [← hL3] at hg10 hm3
        have HL3 : Hid (L3 = L2 ++ toL r) := hL3
        clear hL3
        rw [← HOV2.out] at hgr10
        have HOV3 : Hid (ov3 = Value.slice A3 m3 cap3 ∧ m3 = L3.length) := ⟨hov3, hm3⟩
        have hst10 := HW9.out.1.grew HG.out.2.2.1 hgr10
        have HW10 : Hid (WSt w w10 N X Y ov ov3 #[.int .u8 k, .int .i64 i, .string s, .slice Q ql qc, .int .i64 p.1.start, .int .i64 p.1.fin, .bool p.1.pend, .int .u64 p.1.hv] #[.int .i64 (szT l), .int .i64 (fmT l), .int .i64 (meT l), .int .u64 (smT l)] #[.int .i64 0, .int .i64 0, .int .i64 0, .int .u64 0] p.1 ∧ GIn w10 (fun k => SS k ∨ (w9.heap.size ≤ k ∧ Sof w10 ov3 k)) B 61 f32 ov3 L3 ∧ Grew w9 w10 ov2 ov3) := ⟨hst10, hg10, hgr10⟩
        have y0 : w10.cell? ⟨Y + 1, 0, none⟩ = some (.int .i64 0) := by rw [bcell hst10.hZ]; rfl
        have y1 : w10.cell? ⟨Y + 1, 1, none⟩ = some (.int .i64 0) := by rw [bcell hst10.hZ]; rfl
        have y2 : w10.cell? ⟨Y + 1, 2, none⟩ = some (.int .i64 0) := by rw [bcell hst10.hZ]; rfl
        have y3 : w10.cell? ⟨Y + 1, 3, none⟩ = some (.int .u64 0) := by rw [bcell hst10.hZ]; rfl
        have yf : ∀ j, w10.frozen? ⟨Y + 1, j, none⟩ = false := fun j => bfz hst10.hZ j
        clear hov3 hm3 hg10 hgr10 hst10
        go_upto_region 25 with fail
        clear y0 y1 y2 y3 yf
        generalize hw11 : (((w10.setCell _ _).setCell _ _).setCell _ _).setCell _ _ = w11
        have HW11 : Hid (WSt w w11 N X Y ov ov3 #[.int .u8 k, .int .i64 i, .string s, .slice Q ql qc, .int .i64 p.1.start, .int .i64 p.1.fin, .bool p.1.pend, .int .u64 p.1.hv] #[.int .i64 (szT l), .int .i64 (fmT l), .int .i64 (meT l), .int .u64 (smT l)] #[.int .i64 (szT r), .int .i64 (fmT r), .int .i64 (meT r), .int .u64 (smT r)] p.1 ∧ GIn w11 (fun k => SS k ∨ (w9.heap.size ≤ k ∧ Sof w10 ov3 k)) B 61 f32 ov3 L3 ∧ (∀ k, (SS k ∨ (w9.heap.size ≤ k ∧ Sof w10 ov3 k)) → k ≠ N ∧ Sof w11 ov3 k) ∧ Grew w9 w10 ov2 ov3 ∧ w11.heap.size = w10.heap.size) := by
          have h10 := HW10.out.1
          have h9 := HW9.out.1.size
          have ho := h10.ord
          have hsz : w11.heap.size = w10.heap.size := by rw [← hw11]; simp [World.setCell]
          have hoth : ∀ k, k ≠ Y + 1 → w11.heap[k]? = w10.heap[k]? := fun k hk => by rw [← hw11]; exact set54_other _ _ _ _ _ _ k hk
          have hne : ∀ k, (SS k ∨ (w9.heap.size ≤ k ∧ Sof w10 ov3 k)) → k ≠ Y + 1 ∧ k ≠ N ∧ Sof w10 ov3 k := fun k hk => by
            rcases hk with hk | hk
            · have h1 := HW10.out.2.2.sof k (HW9.out.2.2.1 k hk)
              rw [HSS.out] at hk
              rcases hk with hk | hk | hk
              · have := (HG.out.2.1 k hk).1; exact ⟨by omega, by omega, h1⟩
              · exact ⟨by omega, by omega, h1⟩
              · exact ⟨by omega, by omega, h1⟩
            · exact ⟨by omega, by omega, hk.2⟩
          refine ⟨h10.setY (fun k _ h2 => hoth k h2) ((hoth Y (by omega)).trans h10.hY) (by rw [← hw11]; exact set54 h10.hZ rfl _ _ _ _) hsz (by rw [← hw11]; rfl) (by rw [← hw11]; rfl) (by rw [← hw11]; rfl), ?_, ?_, HW10.out.2.2, hsz⟩
          · exact HW10.out.2.1.frame (fun k hk => hoth k (hne k hk).1) (fun k hk => hoth k (fun e => (h10.ne HG.out.2.2.1 (Y + 1) (by omega) (by omega)).2 (by rw [← e]; exact hk))) (fun _ h => h)
          · exact fun k hk => ⟨(hne k hk).2.1, by rw [hsz]; exact (hne k hk).2.2.1, (hne k hk).2.2.2⟩
        clear hw11 HW10
        have hrl := fmT_range l
        have hrr := fmT_range r
        have hul := smT_range l
        have hur := smT_range r
        have hc8 := HD.out.2.2.2.2.2.2.2.2
        obtain ⟨u0, hu0⟩ : ∃ u0, u0 = (p.1.hv * (p.2 : Int)) % MP := ⟨_, rfl⟩
        have hu0r : 0 ≤ u0 ∧ u0 < MP := by rw [hu0]; exact ⟨Int.emod_nonneg _ (by unfold MP; omega), Int.emod_lt_of_pos _ (by unfold MP; omega)⟩
        have HROOT : Hid (szT (.node d1 d2 p l r) = szT l + p.2 + szT r ∧ fmT (.node d1 d2 p l r) = (if p.1.pend then 0 else (p.2 : Int)) + fmT l + fmT r ∧ meT (.node d1 d2 p l r) = minI (minI (if p.1.pend then 9223372036854775807 else p.1.fin) (meT l)) (meT r) ∧ smT (.node d1 d2 p l r) = addM (addM (smT l) u0) (smT r)) := ⟨by show (p.2 : Int) + szT l + szT r = _; omega, rfl, rfl, by rw [hu0]; exact addM_swap _ _ _⟩
        have hmul := fun W => mulSmall_38 p.1.hv.toNat p.2 (by have := HA.out.2.2.1.1; have := HA.out.2.2.1.2.1; omega) (by omega) W
        rw [show ((p.1.hv.toNat : Nat) : Int) = p.1.hv from by have := HA.out.2.2.1.1; omega, ← hu0] at hmul
        clear hu0
        have HB4 : Hid (∀ W, WSt w W N X Y ov ov3 #[.int .u8 k, .int .i64 i, .string s, .slice Q ql qc, .int .i64 p.1.start, .int .i64 p.1.fin, .bool p.1.pend, .int .u64 p.1.hv] #[.int .i64 (szT l), .int .i64 (fmT l), .int .i64 (meT l), .int .u64 (smT l)] #[.int .i64 (szT r), .int .i64 (fmT r), .int .i64 (meT r), .int .u64 (smT r)] p.1 → W.cell? ⟨b, 2, none⟩ = some (.int .i32 (szT l + p.2 + szT r)) ∧ W.cell? ⟨b, 3, none⟩ = some (.int .i32 ((if p.1.pend then 0 else (p.2 : Int)) + fmT l + fmT r)) ∧ W.cell? ⟨b, 6, none⟩ = some (.int .i64 (minI (minI (if p.1.pend then 9223372036854775807 else p.1.fin) (meT l)) (meT r))) ∧ W.cell? ⟨b, 7, none⟩ = some (.int .u64 (addM (addM (smT l) u0) (smT r)))) := fun W h => by
          have hc : ∀ o, W.cell? ⟨b, o, none⟩ = w.cell? ⟨b, o, none⟩ := fun o => World.cell?_of_block (h.old b (HG.out.2.2.2 b HT.out.2.2.2).1 (HG.out.2.2.2 b HT.out.2.2.2).2)
          have hc4 := HC.out
          rw [HROOT.out.1, HROOT.out.2.1, HROOT.out.2.2.1, HROOT.out.2.2.2] at hc4
          exact ⟨(hc _).trans hc4.2.2.1, (hc _).trans hc4.2.2.2.1, (hc _).trans hc4.2.2.2.2.2.2.1, (hc _).trans hc4.2.2.2.2.2.2.2⟩
        have HFIN : Hid (szT (.node d1 d2 p l r) = szT l + p.2 + szT r ∧ fmT (.node d1 d2 p l r) = (if p.1.pend then 0 else (p.2 : Int)) + fmT l + fmT r ∧ meT (.node d1 d2 p l r) = minI (minI (if p.1.pend then 9223372036854775807 else p.1.fin) (meT l)) (meT r) ∧ smT (.node d1 d2 p l r) = addM (addM (smT l) u0) (smT r)) := HROOT.out
        have hst := HW11.out.1
        have y0 : w11.cell? ⟨Y, 0, none⟩ = some (.int .i64 (szT l)) := by rw [bcell hst.hY]; rfl
        have y1 : w11.cell? ⟨Y, 1, none⟩ = some (.int .i64 (fmT l)) := by rw [bcell hst.hY]; rfl
        have y2 : w11.cell? ⟨Y, 2, none⟩ = some (.int .i64 (meT l)) := by rw [bcell hst.hY]; rfl
        have z0 : w11.cell? ⟨Y + 1, 0, none⟩ = some (.int .i64 (szT r)) := by rw [bcell hst.hZ]; rfl
        have z1 : w11.cell? ⟨Y + 1, 1, none⟩ = some (.int .i64 (fmT r)) := by rw [bcell hst.hZ]; rfl
        have v0 : IntKind.i64.wrap (p.2 : Int) = p.2 := by rw [IntKind.wrap_i64]; omega
        have v1 : IntKind.i64.wrap (szT l + p.2) = szT l + p.2 := by rw [IntKind.wrap_i64]; omega
        have v2 : IntKind.i64.wrap (szT l + p.2 + szT r) = szT l + p.2 + szT r := by rw [IntKind.wrap_i64]; omega
        have v3 : IntKind.i64.wrap (fmT l + fmT r) = fmT l + fmT r := by rw [IntKind.wrap_i64]; omega
        clear hst
        go_upto_region 26 with fail
        clear y0 y1 y2 z0 z1
        generalize hw12 : w11.alloc _ = w12
        generalize hZ : w11.heap.size = Z
        have HW12 : Hid (WSt w w12 N X Y ov ov3 #[.int .u8 k, .int .i64 i, .string s, .slice Q ql qc, .int .i64 p.1.start, .int .i64 p.1.fin, .bool p.1.pend, .int .u64 p.1.hv] #[.int .i64 (szT l), .int .i64 (fmT l), .int .i64 (meT l), .int .u64 (smT l)] #[.int .i64 (szT r), .int .i64 (fmT r), .int .i64 (meT r), .int .u64 (smT r)] p.1 ∧ Below Z w11 w12 ∧ w12.heap[Z]? = some (.cells #[.int .i64 (szT l + p.2 + szT r), .int .i64 (fmT l + fmT r), .int .i64 (meT l), .int .u64 0] 54) ∧ Y + 2 ≤ Z ∧ Z = w11.heap.size) := by
          have b1 : Below w11.heap.size w11 w12 := by rw [← hw12]; exact alloc_below _ _
          exact ⟨HW11.out.1.grew HG.out.2.2.1 (Grew.below b1), by rw [← hZ]; exact b1, by rw [← hw12, ← hZ]; exact alloc_at _ _, by rw [← hZ]; exact HW11.out.1.size, hZ.symm⟩
        clear hw12 hZ
        have hst := HW12.out.1
        have hne1 : Y ≠ Z := by have := HW12.out.2.2.2.1; omega
        have hne2 : Y + 1 ≠ Z := by have := HW12.out.2.2.2.1; omega
        have hne3 : X ≠ Z := by have := HW12.out.2.2.2.1; have := hst.ord; omega
        have hs1 : w12.drew.cell? ⟨Y, 3, none⟩ = some (.int .u64 (smT l)) ∧ w12.drew.cell? ⟨X, 7, none⟩ = some (.int .u64 p.1.hv) ∧ w12.drew.cell? ⟨Y + 1, 3, none⟩ = some (.int .u64 (smT r)) := by
          show w12.cell? _ = _ ∧ w12.cell? _ = _ ∧ w12.cell? _ = _
          exact ⟨by rw [bcell hst.hY]; rfl, by rw [bcell hst.hX]; rfl, by rw [bcell hst.hZ]; rfl⟩
        have t3 : w12.cell? ⟨Z, 3, none⟩ = some (.int .u64 0) := by rw [bcell HW12.out.2.2.1]; rfl
        have tf : w12.frozen? ⟨Z, 3, none⟩ = false := bfz HW12.out.2.2.1 3
        have ha1 := fun W => addMod_21 (smT l) u0 hul hu0r W
        have ha2 := fun W => addMod_21 (addM (smT l) u0) (smT r) (addM_range _ _) hur W
        clear hst
        go_region_held3 (fun W => W.cell? ⟨Y, 3, none⟩ = some (.int .u64 (smT l)) ∧ W.cell? ⟨X, 7, none⟩ = some (.int .u64 p.1.hv) ∧ W.cell? ⟨Y + 1, 3, none⟩ = some (.int .u64 (smT r))) (first | assumption | exact ⟨cell_set_ne hs1.1 hne1, cell_set_ne hs1.2.1 hne3, cell_set_ne hs1.2.2 hne2⟩)
          (first
            | (go_at_call 38; refine (hmul _).mono ?_; rintro r' w' ⟨rfl, rfl⟩)
            | (go_at_call_has 21 (smT r); refine (ha2 _).mono ?_; rintro r' w' ⟨rfl, rfl⟩)
            | (go_at_call 21; refine (ha1 _).mono ?_; rintro r' w' ⟨rfl, rfl⟩))
        clear hs1 t3 tf ha1 ha2 hmul
        generalize hw13 : World.drew _ = w13
        have HW13 : Hid (WSt w w13 N X Y ov ov3 #[.int .u8 k, .int .i64 i, .string s, .slice Q ql qc, .int .i64 p.1.start, .int .i64 p.1.fin, .bool p.1.pend, .int .u64 p.1.hv] #[.int .i64 (szT l), .int .i64 (fmT l), .int .i64 (meT l), .int .u64 (smT l)] #[.int .i64 (szT r), .int .i64 (fmT r), .int .i64 (meT r), .int .u64 (smT r)] p.1 ∧ w13.heap[Z]? = some (.cells #[.int .i64 (szT l + p.2 + szT r), .int .i64 (fmT l + fmT r), .int .i64 (meT l), .int .u64 (addM (addM (smT l) u0) (smT r))] 54) ∧ (∀ k, k ≠ Z → w13.heap[k]? = w12.heap[k]?) ∧ w13.heap.size = w12.heap.size) := by
          have hb : ∀ k, k ≠ Z → w13.heap[k]? = w12.heap[k]? := fun k hk => by rw [← hw13]; exact Below.heap_setCell _ _ _ _ hk
          have hs : w13.heap.size = w12.heap.size := by rw [← hw13]; simp [World.setCell, World.drew]
          exact ⟨HW12.out.1.other hb HW12.out.2.2.2.1 hs (by rw [← hw13]; rfl) (by rw [← hw13]; rfl) (by rw [← hw13]; rfl), by rw [← hw13]; exact bset HW12.out.2.2.1 3 _, hb, hs⟩
        clear hw13
        have hst := HW13.out.1
        have t1 : w13.cell? ⟨Z, 1, none⟩ = some (.int .i64 (fmT l + fmT r)) := by rw [bcell HW13.out.2.1]; rfl
        have t2 : w13.cell? ⟨Z, 2, none⟩ = some (.int .i64 (meT l)) := by rw [bcell HW13.out.2.1]; rfl
        have tf1 : w13.frozen? ⟨Z, 1, none⟩ = false := bfz HW13.out.2.1 1
        have tf2 : w13.frozen? ⟨Z, 2, none⟩ = false := bfz HW13.out.2.1 2
        have zz2 : w13.cell? ⟨Y + 1, 2, none⟩ = some (.int .i64 (meT r)) := by rw [bcell hst.hZ]; rfl
        have x5 : w13.cell? ⟨X, 5, none⟩ = some (.int .i64 p.1.fin) := by rw [bcell hst.hX]; rfl
        have x6 : w13.cell? ⟨X, 6, none⟩ = some (.bool p.1.pend) := by rw [bcell hst.hX]; rfl
        have v4 : IntKind.i64.wrap (fmT l + fmT r + p.2) = fmT l + fmT r + p.2 := by rw [IntKind.wrap_i64]; omega
        clear hst hrl hrr hul hur hu0r
        cases hp : p.1.pend with
        | true =>
          by_cases hm1 : meT r < meT l
          · rw [hp] at x6
            have HP : Hid (p.1.pend = true) := hp
            have hc1 : decide (meT r < meT l) = true := by simpa using hm1
            have HM1 : Hid (meT r < meT l) := hm1
            go_upto_region 33 with fail
            generalize hw14 : w13.setCell _ _ = w14
            have hb14 : ∀ k, k ≠ Z → w14.heap[k]? = w13.heap[k]? := fun k hk => by rw [← hw14]; exact Below.heap_setCell _ _ _ _ hk
            have hs14 : w14.heap.size = w13.heap.size := by rw [← hw14]; simp [World.setCell]
            have hz14 : w14.heap[Z]? = some (.cells #[.int .i64 (szT l + p.2 + szT r), .int .i64 (fmT l + fmT r), .int .i64 (meT r), .int .u64 (addM (addM (smT l) u0) (smT r))] 54) := by rw [← hw14]; exact bset HW13.out.2.1 2 _
            have HW14a : Hid (WSt w w14 N X Y ov ov3 #[.int .u8 k, .int .i64 i, .string s, .slice Q ql qc, .int .i64 p.1.start, .int .i64 p.1.fin, .bool p.1.pend, .int .u64 p.1.hv] #[.int .i64 (szT l), .int .i64 (fmT l), .int .i64 (meT l), .int .u64 (smT l)] #[.int .i64 (szT r), .int .i64 (fmT r), .int .i64 (meT r), .int .u64 (smT r)] p.1 ∧ w14.heap[Z]? = some (.cells #[.int .i64 (szT l + p.2 + szT r), .int .i64 (fmT l + fmT r), .int .i64 (meT r), .int .u64 (addM (addM (smT l) u0) (smT r))] 54) ∧ (∀ k, k ≠ Z → w14.heap[k]? = w12.heap[k]?) ∧ w14.heap.size = w12.heap.size) := ⟨HW13.out.1.other hb14 HW12.out.2.2.2.1 hs14 (by rw [← hw14]; rfl) (by rw [← hw14]; rfl) (by rw [← hw14]; rfl), hz14, fun k hk => (hb14 k hk).trans (HW13.out.2.2.1 k hk), hs14.trans HW13.out.2.2.2⟩
            clear hw14 hb14 hs14 hz14
            clear t1 t2 tf1 tf2 zz2 x5 x6 hc1 hm1 HW13
            obtain ⟨ff, hff⟩ : ∃ ff, ff = (fmT l + fmT r) := ⟨_, rfl⟩
            obtain ⟨mf, hmf⟩ : ∃ mf, mf = meT r := ⟨_, rfl⟩
            have HW14 : Hid (WSt w w14 N X Y ov ov3 #[.int .u8 k, .int .i64 i, .string s, .slice Q ql qc, .int .i64 p.1.start, .int .i64 p.1.fin, .bool p.1.pend, .int .u64 p.1.hv] #[.int .i64 (szT l), .int .i64 (fmT l), .int .i64 (meT l), .int .u64 (smT l)] #[.int .i64 (szT r), .int .i64 (fmT r), .int .i64 (meT r), .int .u64 (smT r)] p.1 ∧ w14.heap[Z]? = some (.cells #[.int .i64 (szT l + p.2 + szT r), .int .i64 ff, .int .i64 mf, .int .u64 (addM (addM (smT l) u0) (smT r))] 54) ∧ (∀ k, k ≠ Z → w14.heap[k]? = w12.heap[k]?) ∧ w14.heap.size = w12.heap.size) := by rw [hff, hmf]; exact HW14a.out
            clear HW14a
            have e3 : fmT (.node d1 d2 p l r) = ff := by rw [HFIN.out.2.1, HP.out, hff]; simp; try omega
            have e6 : meT (.node d1 d2 p l r) = mf := by
              rw [HFIN.out.2.2.1, HP.out, hmf]
              have h1 := HM1.out
              have h8 := meT_le l HA.out.2.2.2.1
              skip
              simp only [minI_eq, if_true]
              omega
            have hq4 := HB4.out w14 HW14.out.1
            rw [← HFIN.out.2.1, ← HFIN.out.2.2.1, e3, e6] at hq4
            have HE36 : Hid (fmT (.node d1 d2 p l r) = ff ∧ meT (.node d1 d2 p l r) = mf) := ⟨e3, e6⟩
            have hfr := fmT_range (.node d1 d2 p l r)
            rw [e3, HFIN.out.1] at hfr
            have v5 : IntKind.i64.wrap ff = ff := by rw [IntKind.wrap_i64]; omega
            clear hff hmf e3 e6 hfr
            have g22 := fun n => get_22 (w14.drewN n) b _ hq4.1
            have g23 := fun n => get_23 (w14.drewN n) b _ hq4.2.1
            have g24 := fun n => get_24 (w14.drewN n) b _ hq4.2.2.1
            have g25 := fun n => get_25 (w14.drewN n) b _ hq4.2.2.2
            have u0' : w14.cell? ⟨Z, 0, none⟩ = some (.int .i64 (szT l + p.2 + szT r)) := by rw [bcell HW14.out.2.1]; rfl
            have u1' : w14.cell? ⟨Z, 1, none⟩ = some (.int .i64 ff) := by rw [bcell HW14.out.2.1]; rfl
            have u2' : w14.cell? ⟨Z, 2, none⟩ = some (.int .i64 mf) := by rw [bcell HW14.out.2.1]; rfl
            have u3' : w14.cell? ⟨Z, 3, none⟩ = some (.int .u64 (addM (addM (smT l) u0) (smT r))) := by rw [bcell HW14.out.2.1]; rfl
            clear hq4
            go_quiet ((first | (go_at_call 22; exact Calls.quiet_of_same (g22 _)) | (go_at_call 23; exact Calls.quiet_of_same (g23 _)) | (go_at_call 24; exact Calls.quiet_of_same (g24 _)) | (go_at_call 25; exact Calls.quiet_of_same (g25 _))))
            clear g22 g23 g24 g25 u0' u1' u2' u3'
            obtain ⟨w15, hw15⟩ : ∃ w15, w15 = w14.drewN nq := ⟨_, rfl⟩
            have HW15 : Hid (WSt w w15 N X Y ov ov3 #[.int .u8 k, .int .i64 i, .string s, .slice Q ql qc, .int .i64 p.1.start, .int .i64 p.1.fin, .bool p.1.pend, .int .u64 p.1.hv] #[.int .i64 (szT l), .int .i64 (fmT l), .int .i64 (meT l), .int .u64 (smT l)] #[.int .i64 (szT r), .int .i64 (fmT r), .int .i64 (meT r), .int .u64 (smT r)] p.1 ∧ w15.heap[Z]? = some (.cells #[.int .i64 (szT l + p.2 + szT r), .int .i64 ff, .int .i64 mf, .int .u64 (addM (addM (smT l) u0) (smT r))] 54) ∧ (∀ k, k ≠ Z → w15.heap[k]? = w12.heap[k]?) ∧ w15.heap.size = w12.heap.size) := by
              rw [hw15]
              exact ⟨HW14.out.1.other (Z := Z) (W' := w14.drewN nq) (fun _ _ => rfl) HW12.out.2.2.2.1 rfl rfl rfl rfl, HW14.out.2.1, HW14.out.2.2.1, HW14.out.2.2.2⟩
            rw [← hw15]
            clear hw15 HW14
            have u0' : w15.cell? ⟨Z, 0, none⟩ = some (.int .i64 (szT l + p.2 + szT r)) := by rw [bcell HW15.out.2.1]; rfl
            have u1' : w15.cell? ⟨Z, 1, none⟩ = some (.int .i64 ff) := by rw [bcell HW15.out.2.1]; rfl
            have u2' : w15.cell? ⟨Z, 2, none⟩ = some (.int .i64 mf) := by rw [bcell HW15.out.2.1]; rfl
            have u3' : w15.cell? ⟨Z, 3, none⟩ = some (.int .u64 (addM (addM (smT l) u0) (smT r))) := by rw [bcell HW15.out.2.1]; rfl
            have n0 : w15.cell? ⟨N, 0, none⟩ = some (.int .i64 0) := by rw [bcell HW15.out.1.hN]; rfl
            have n1 : w15.cell? ⟨N, 1, none⟩ = some (.int .i64 0) := by rw [bcell HW15.out.1.hN]; rfl
            have n2 : w15.cell? ⟨N, 2, none⟩ = some (.int .i64 0) := by rw [bcell HW15.out.1.hN]; rfl
            have n3 : w15.cell? ⟨N, 3, none⟩ = some (.int .u64 0) := by rw [bcell HW15.out.1.hN]; rfl
            have nf : ∀ j, w15.frozen? ⟨N, j, none⟩ = false := fun j => bfz HW15.out.1.hN j
            have hNZ : N ≠ Z := by have := HW12.out.2.2.2.1; have := HW15.out.1.ord; omega
            go_wp2_with fail
            go_region
            clear u0' u1' u2' u3' n0 n1 n2 n3 nf
            generalize hw16 : World.drew _ = w16
            have HW16 : Hid (w16.heap[N]? = some (.cells #[.int .i64 (szT l + p.2 + szT r), .int .i64 ff, .int .i64 mf, .int .u64 (addM (addM (smT l) u0) (smT r))] 54) ∧ (∀ k, k ≠ N → w16.heap[k]? = w15.heap[k]?) ∧ w16.heap.size = w15.heap.size ∧ w16.os = w15.os ∧ w16.tape = w15.tape ∧ w16.output = w15.output) := by
              rw [← hw16]
              exact ⟨set54 HW15.out.1.hN rfl _ _ _ _, fun k hk => set54_other _ _ _ _ _ _ k hk, by simp [World.setCell, World.drew], rfl, rfl, rfl⟩
            clear hw16
            go_wp2_with fail
            have q0 : w16.cell? ⟨N, 0, none⟩ = some (.int .i64 (szT l + p.2 + szT r)) := by rw [bcell HW16.out.1]; rfl
            have q1 : w16.cell? ⟨N, 1, none⟩ = some (.int .i64 ff) := by rw [bcell HW16.out.1]; rfl
            have q2 : w16.cell? ⟨N, 2, none⟩ = some (.int .i64 mf) := by rw [bcell HW16.out.1]; rfl
            have q3 : w16.cell? ⟨N, 3, none⟩ = some (.int .u64 (addM (addM (smT l) u0) (smT r))) := by rw [bcell HW16.out.1]; rfl
            refine bodyPost_ret (v := .tuple #[.slice A3 m3 cap3, .agg #[.int .i64 (szT l + p.2 + szT r), .int .i64 ff, .int .i64 mf, .int .u64 (addM (addM (smT l) u0) (smT r))], .bool true]) (by simp [results, Try.results18, go_sem, q0, q1, q2, q3]) rfl ⟨A3, cap3, m3, ?_⟩
            rw [HFIN.out.1, HE36.out.1, HE36.out.2, HFIN.out.2.2.2, HOV.out]
            exact walk_end HN.out HOV.out HOV3.out.1 HOV3.out.2 (L' := toL (.node d1 d2 p l r)) (by rw [HL3.out, HL2.out, HL1.out]; simp [toL]) HW15.out.1 HW16.out HW11.out.2.1 (fun k hk => HW11.out.2.2.1 k hk) (fun k hk => by rw [HSS.out] at hk; rcases hk with (hk | hk | hk) | hk <;> first | exact .inl hk | exact .inr (by have := HW15.out.1.ord; have := HW9.out.1.size; omega)) HW12.out.2.1 HW12.out.2.2.2.2 HW15.out.2.2.1 HW15.out.2.2.2 HG.out.2.2.1 HW12.out.2.2.2.1
          · rw [hp] at x6
            have HP : Hid (p.1.pend = true) := hp
            have hc1 : decide (meT r < meT l) = false := by simpa using hm1
            have HM1 : Hid (¬ meT r < meT l) := hm1
            go_upto_region 33 with fail
            obtain ⟨w14, hw14⟩ : ∃ w14, w14 = w13 := ⟨_, rfl⟩
            have HW14a : Hid (WSt w w14 N X Y ov ov3 #[.int .u8 k, .int .i64 i, .string s, .slice Q ql qc, .int .i64 p.1.start, .int .i64 p.1.fin, .bool p.1.pend, .int .u64 p.1.hv] #[.int .i64 (szT l), .int .i64 (fmT l), .int .i64 (meT l), .int .u64 (smT l)] #[.int .i64 (szT r), .int .i64 (fmT r), .int .i64 (meT r), .int .u64 (smT r)] p.1 ∧ w14.heap[Z]? = some (.cells #[.int .i64 (szT l + p.2 + szT r), .int .i64 (fmT l + fmT r), .int .i64 (meT l), .int .u64 (addM (addM (smT l) u0) (smT r))] 54) ∧ (∀ k, k ≠ Z → w14.heap[k]? = w12.heap[k]?) ∧ w14.heap.size = w12.heap.size) := by rw [hw14]; exact ⟨HW13.out.1, HW13.out.2.1, HW13.out.2.2.1, HW13.out.2.2.2⟩
            rw [← hw14]
            clear hw14
            clear t1 t2 tf1 tf2 zz2 x5 x6 hc1 hm1 HW13
            obtain ⟨ff, hff⟩ : ∃ ff, ff = (fmT l + fmT r) := ⟨_, rfl⟩
            obtain ⟨mf, hmf⟩ : ∃ mf, mf = meT l := ⟨_, rfl⟩
            have HW14 : Hid (WSt w w14 N X Y ov ov3 #[.int .u8 k, .int .i64 i, .string s, .slice Q ql qc, .int .i64 p.1.start, .int .i64 p.1.fin, .bool p.1.pend, .int .u64 p.1.hv] #[.int .i64 (szT l), .int .i64 (fmT l), .int .i64 (meT l), .int .u64 (smT l)] #[.int .i64 (szT r), .int .i64 (fmT r), .int .i64 (meT r), .int .u64 (smT r)] p.1 ∧ w14.heap[Z]? = some (.cells #[.int .i64 (szT l + p.2 + szT r), .int .i64 ff, .int .i64 mf, .int .u64 (addM (addM (smT l) u0) (smT r))] 54) ∧ (∀ k, k ≠ Z → w14.heap[k]? = w12.heap[k]?) ∧ w14.heap.size = w12.heap.size) := by rw [hff, hmf]; exact HW14a.out
            clear HW14a
            have e3 : fmT (.node d1 d2 p l r) = ff := by rw [HFIN.out.2.1, HP.out, hff]; simp; try omega
            have e6 : meT (.node d1 d2 p l r) = mf := by
              rw [HFIN.out.2.2.1, HP.out, hmf]
              have h1 := HM1.out
              have h8 := meT_le l HA.out.2.2.2.1
              skip
              simp only [minI_eq, if_true]
              omega
            have hq4 := HB4.out w14 HW14.out.1
            rw [← HFIN.out.2.1, ← HFIN.out.2.2.1, e3, e6] at hq4
            have HE36 : Hid (fmT (.node d1 d2 p l r) = ff ∧ meT (.node d1 d2 p l r) = mf) := ⟨e3, e6⟩
            have hfr := fmT_range (.node d1 d2 p l r)
            rw [e3, HFIN.out.1] at hfr
            have v5 : IntKind.i64.wrap ff = ff := by rw [IntKind.wrap_i64]; omega
            clear hff hmf e3 e6 hfr
            have g22 := fun n => get_22 (w14.drewN n) b _ hq4.1
            have g23 := fun n => get_23 (w14.drewN n) b _ hq4.2.1
            have g24 := fun n => get_24 (w14.drewN n) b _ hq4.2.2.1
            have g25 := fun n => get_25 (w14.drewN n) b _ hq4.2.2.2
            have u0' : w14.cell? ⟨Z, 0, none⟩ = some (.int .i64 (szT l + p.2 + szT r)) := by rw [bcell HW14.out.2.1]; rfl
            have u1' : w14.cell? ⟨Z, 1, none⟩ = some (.int .i64 ff) := by rw [bcell HW14.out.2.1]; rfl
            have u2' : w14.cell? ⟨Z, 2, none⟩ = some (.int .i64 mf) := by rw [bcell HW14.out.2.1]; rfl
            have u3' : w14.cell? ⟨Z, 3, none⟩ = some (.int .u64 (addM (addM (smT l) u0) (smT r))) := by rw [bcell HW14.out.2.1]; rfl
            clear hq4
            go_quiet ((first | (go_at_call 22; exact Calls.quiet_of_same (g22 _)) | (go_at_call 23; exact Calls.quiet_of_same (g23 _)) | (go_at_call 24; exact Calls.quiet_of_same (g24 _)) | (go_at_call 25; exact Calls.quiet_of_same (g25 _))))
            clear g22 g23 g24 g25 u0' u1' u2' u3'
            obtain ⟨w15, hw15⟩ : ∃ w15, w15 = w14.drewN nq := ⟨_, rfl⟩
            have HW15 : Hid (WSt w w15 N X Y ov ov3 #[.int .u8 k, .int .i64 i, .string s, .slice Q ql qc, .int .i64 p.1.start, .int .i64 p.1.fin, .bool p.1.pend, .int .u64 p.1.hv] #[.int .i64 (szT l), .int .i64 (fmT l), .int .i64 (meT l), .int .u64 (smT l)] #[.int .i64 (szT r), .int .i64 (fmT r), .int .i64 (meT r), .int .u64 (smT r)] p.1 ∧ w15.heap[Z]? = some (.cells #[.int .i64 (szT l + p.2 + szT r), .int .i64 ff, .int .i64 mf, .int .u64 (addM (addM (smT l) u0) (smT r))] 54) ∧ (∀ k, k ≠ Z → w15.heap[k]? = w12.heap[k]?) ∧ w15.heap.size = w12.heap.size) := by
              rw [hw15]
              exact ⟨HW14.out.1.other (Z := Z) (W' := w14.drewN nq) (fun _ _ => rfl) HW12.out.2.2.2.1 rfl rfl rfl rfl, HW14.out.2.1, HW14.out.2.2.1, HW14.out.2.2.2⟩
            rw [← hw15]
            clear hw15 HW14
            have u0' : w15.cell? ⟨Z, 0, none⟩ = some (.int .i64 (szT l + p.2 + szT r)) := by rw [bcell HW15.out.2.1]; rfl
            have u1' : w15.cell? ⟨Z, 1, none⟩ = some (.int .i64 ff) := by rw [bcell HW15.out.2.1]; rfl
            have u2' : w15.cell? ⟨Z, 2, none⟩ = some (.int .i64 mf) := by rw [bcell HW15.out.2.1]; rfl
            have u3' : w15.cell? ⟨Z, 3, none⟩ = some (.int .u64 (addM (addM (smT l) u0) (smT r))) := by rw [bcell HW15.out.2.1]; rfl
            have n0 : w15.cell? ⟨N, 0, none⟩ = some (.int .i64 0) := by rw [bcell HW15.out.1.hN]; rfl
            have n1 : w15.cell? ⟨N, 1, none⟩ = some (.int .i64 0) := by rw [bcell HW15.out.1.hN]; rfl
            have n2 : w15.cell? ⟨N, 2, none⟩ = some (.int .i64 0) := by rw [bcell HW15.out.1.hN]; rfl
            have n3 : w15.cell? ⟨N, 3, none⟩ = some (.int .u64 0) := by rw [bcell HW15.out.1.hN]; rfl
            have nf : ∀ j, w15.frozen? ⟨N, j, none⟩ = false := fun j => bfz HW15.out.1.hN j
            have hNZ : N ≠ Z := by have := HW12.out.2.2.2.1; have := HW15.out.1.ord; omega
            go_wp2_with fail
            go_region
            clear u0' u1' u2' u3' n0 n1 n2 n3 nf
            generalize hw16 : World.drew _ = w16
            have HW16 : Hid (w16.heap[N]? = some (.cells #[.int .i64 (szT l + p.2 + szT r), .int .i64 ff, .int .i64 mf, .int .u64 (addM (addM (smT l) u0) (smT r))] 54) ∧ (∀ k, k ≠ N → w16.heap[k]? = w15.heap[k]?) ∧ w16.heap.size = w15.heap.size ∧ w16.os = w15.os ∧ w16.tape = w15.tape ∧ w16.output = w15.output) := by
              rw [← hw16]
              exact ⟨set54 HW15.out.1.hN rfl _ _ _ _, fun k hk => set54_other _ _ _ _ _ _ k hk, by simp [World.setCell, World.drew], rfl, rfl, rfl⟩
            clear hw16
            go_wp2_with fail
            have q0 : w16.cell? ⟨N, 0, none⟩ = some (.int .i64 (szT l + p.2 + szT r)) := by rw [bcell HW16.out.1]; rfl
            have q1 : w16.cell? ⟨N, 1, none⟩ = some (.int .i64 ff) := by rw [bcell HW16.out.1]; rfl
            have q2 : w16.cell? ⟨N, 2, none⟩ = some (.int .i64 mf) := by rw [bcell HW16.out.1]; rfl
            have q3 : w16.cell? ⟨N, 3, none⟩ = some (.int .u64 (addM (addM (smT l) u0) (smT r))) := by rw [bcell HW16.out.1]; rfl
            refine bodyPost_ret (v := .tuple #[.slice A3 m3 cap3, .agg #[.int .i64 (szT l + p.2 + szT r), .int .i64 ff, .int .i64 mf, .int .u64 (addM (addM (smT l) u0) (smT r))], .bool true]) (by simp [results, Try.results18, go_sem, q0, q1, q2, q3]) rfl ⟨A3, cap3, m3, ?_⟩
            rw [HFIN.out.1, HE36.out.1, HE36.out.2, HFIN.out.2.2.2, HOV.out]
            exact walk_end HN.out HOV.out HOV3.out.1 HOV3.out.2 (L' := toL (.node d1 d2 p l r)) (by rw [HL3.out, HL2.out, HL1.out]; simp [toL]) HW15.out.1 HW16.out HW11.out.2.1 (fun k hk => HW11.out.2.2.1 k hk) (fun k hk => by rw [HSS.out] at hk; rcases hk with (hk | hk | hk) | hk <;> first | exact .inl hk | exact .inr (by have := HW15.out.1.ord; have := HW9.out.1.size; omega)) HW12.out.2.1 HW12.out.2.2.2.2 HW15.out.2.2.1 HW15.out.2.2.2 HG.out.2.2.1 HW12.out.2.2.2.1
        | false =>
          by_cases hm1 : meT r < meT l
          · by_cases hm2 : p.1.fin < meT r
            · rw [hp] at x6
              have HP : Hid (p.1.pend = false) := hp
              have hc1 : decide (meT r < meT l) = true := by simpa using hm1
              have HM1 : Hid (meT r < meT l) := hm1
              have hc2 : decide (p.1.fin < meT r) = true := by simpa using hm2
              have HM2 : Hid (p.1.fin < meT r) := hm2
              go_upto_region 33 with fail
              generalize hw14 : ((w13.setCell _ _).setCell _ _).setCell _ _ = w14
              have hb14 : ∀ k, k ≠ Z → w14.heap[k]? = w13.heap[k]? := fun k hk => by rw [← hw14]; exact (Below.heap_setCell _ _ _ _ hk).trans ((Below.heap_setCell _ _ _ _ hk).trans (Below.heap_setCell _ _ _ _ hk))
              have hs14 : w14.heap.size = w13.heap.size := by rw [← hw14]; simp [World.setCell]
              have hz14 : w14.heap[Z]? = some (.cells #[.int .i64 (szT l + p.2 + szT r), .int .i64 (fmT l + fmT r + p.2), .int .i64 (p.1.fin), .int .u64 (addM (addM (smT l) u0) (smT r))] 54) := by rw [← hw14]; exact bset (bset (bset HW13.out.2.1 2 _) 1 _) 2 _
              have HW14a : Hid (WSt w w14 N X Y ov ov3 #[.int .u8 k, .int .i64 i, .string s, .slice Q ql qc, .int .i64 p.1.start, .int .i64 p.1.fin, .bool p.1.pend, .int .u64 p.1.hv] #[.int .i64 (szT l), .int .i64 (fmT l), .int .i64 (meT l), .int .u64 (smT l)] #[.int .i64 (szT r), .int .i64 (fmT r), .int .i64 (meT r), .int .u64 (smT r)] p.1 ∧ w14.heap[Z]? = some (.cells #[.int .i64 (szT l + p.2 + szT r), .int .i64 (fmT l + fmT r + p.2), .int .i64 (p.1.fin), .int .u64 (addM (addM (smT l) u0) (smT r))] 54) ∧ (∀ k, k ≠ Z → w14.heap[k]? = w12.heap[k]?) ∧ w14.heap.size = w12.heap.size) := ⟨HW13.out.1.other hb14 HW12.out.2.2.2.1 hs14 (by rw [← hw14]; rfl) (by rw [← hw14]; rfl) (by rw [← hw14]; rfl), hz14, fun k hk => (hb14 k hk).trans (HW13.out.2.2.1 k hk), hs14.trans HW13.out.2.2.2⟩
              clear hw14 hb14 hs14 hz14
              clear t1 t2 tf1 tf2 zz2 x5 x6 hc1 hm1 hc2 hm2 HW13
              obtain ⟨ff, hff⟩ : ∃ ff, ff = (fmT l + fmT r + p.2) := ⟨_, rfl⟩
              obtain ⟨mf, hmf⟩ : ∃ mf, mf = p.1.fin := ⟨_, rfl⟩
              have HW14 : Hid (WSt w w14 N X Y ov ov3 #[.int .u8 k, .int .i64 i, .string s, .slice Q ql qc, .int .i64 p.1.start, .int .i64 p.1.fin, .bool p.1.pend, .int .u64 p.1.hv] #[.int .i64 (szT l), .int .i64 (fmT l), .int .i64 (meT l), .int .u64 (smT l)] #[.int .i64 (szT r), .int .i64 (fmT r), .int .i64 (meT r), .int .u64 (smT r)] p.1 ∧ w14.heap[Z]? = some (.cells #[.int .i64 (szT l + p.2 + szT r), .int .i64 ff, .int .i64 mf, .int .u64 (addM (addM (smT l) u0) (smT r))] 54) ∧ (∀ k, k ≠ Z → w14.heap[k]? = w12.heap[k]?) ∧ w14.heap.size = w12.heap.size) := by rw [hff, hmf]; exact HW14a.out
              clear HW14a
              have e3 : fmT (.node d1 d2 p l r) = ff := by rw [HFIN.out.2.1, HP.out, hff]; simp; try omega
              have e6 : meT (.node d1 d2 p l r) = mf := by
                rw [HFIN.out.2.2.1, HP.out, hmf]
                have h1 := HM1.out
                have h8 := meT_le l HA.out.2.2.2.1
                have h2 := HM2.out
                simp only [minI_eq, Bool.false_eq_true, if_false]
                omega
              have hq4 := HB4.out w14 HW14.out.1
              rw [← HFIN.out.2.1, ← HFIN.out.2.2.1, e3, e6] at hq4
              have HE36 : Hid (fmT (.node d1 d2 p l r) = ff ∧ meT (.node d1 d2 p l r) = mf) := ⟨e3, e6⟩
              have hfr := fmT_range (.node d1 d2 p l r)
              rw [e3, HFIN.out.1] at hfr
              have v5 : IntKind.i64.wrap ff = ff := by rw [IntKind.wrap_i64]; omega
              clear hff hmf e3 e6 hfr
              have g22 := fun n => get_22 (w14.drewN n) b _ hq4.1
              have g23 := fun n => get_23 (w14.drewN n) b _ hq4.2.1
              have g24 := fun n => get_24 (w14.drewN n) b _ hq4.2.2.1
              have g25 := fun n => get_25 (w14.drewN n) b _ hq4.2.2.2
              have u0' : w14.cell? ⟨Z, 0, none⟩ = some (.int .i64 (szT l + p.2 + szT r)) := by rw [bcell HW14.out.2.1]; rfl
              have u1' : w14.cell? ⟨Z, 1, none⟩ = some (.int .i64 ff) := by rw [bcell HW14.out.2.1]; rfl
              have u2' : w14.cell? ⟨Z, 2, none⟩ = some (.int .i64 mf) := by rw [bcell HW14.out.2.1]; rfl
              have u3' : w14.cell? ⟨Z, 3, none⟩ = some (.int .u64 (addM (addM (smT l) u0) (smT r))) := by rw [bcell HW14.out.2.1]; rfl
              clear hq4
              go_quiet ((first | (go_at_call 22; exact Calls.quiet_of_same (g22 _)) | (go_at_call 23; exact Calls.quiet_of_same (g23 _)) | (go_at_call 24; exact Calls.quiet_of_same (g24 _)) | (go_at_call 25; exact Calls.quiet_of_same (g25 _))))
              clear g22 g23 g24 g25 u0' u1' u2' u3'
              obtain ⟨w15, hw15⟩ : ∃ w15, w15 = w14.drewN nq := ⟨_, rfl⟩
              have HW15 : Hid (WSt w w15 N X Y ov ov3 #[.int .u8 k, .int .i64 i, .string s, .slice Q ql qc, .int .i64 p.1.start, .int .i64 p.1.fin, .bool p.1.pend, .int .u64 p.1.hv] #[.int .i64 (szT l), .int .i64 (fmT l), .int .i64 (meT l), .int .u64 (smT l)] #[.int .i64 (szT r), .int .i64 (fmT r), .int .i64 (meT r), .int .u64 (smT r)] p.1 ∧ w15.heap[Z]? = some (.cells #[.int .i64 (szT l + p.2 + szT r), .int .i64 ff, .int .i64 mf, .int .u64 (addM (addM (smT l) u0) (smT r))] 54) ∧ (∀ k, k ≠ Z → w15.heap[k]? = w12.heap[k]?) ∧ w15.heap.size = w12.heap.size) := by
                rw [hw15]
                exact ⟨HW14.out.1.other (Z := Z) (W' := w14.drewN nq) (fun _ _ => rfl) HW12.out.2.2.2.1 rfl rfl rfl rfl, HW14.out.2.1, HW14.out.2.2.1, HW14.out.2.2.2⟩
              rw [← hw15]
              clear hw15 HW14
              have u0' : w15.cell? ⟨Z, 0, none⟩ = some (.int .i64 (szT l + p.2 + szT r)) := by rw [bcell HW15.out.2.1]; rfl
              have u1' : w15.cell? ⟨Z, 1, none⟩ = some (.int .i64 ff) := by rw [bcell HW15.out.2.1]; rfl
              have u2' : w15.cell? ⟨Z, 2, none⟩ = some (.int .i64 mf) := by rw [bcell HW15.out.2.1]; rfl
              have u3' : w15.cell? ⟨Z, 3, none⟩ = some (.int .u64 (addM (addM (smT l) u0) (smT r))) := by rw [bcell HW15.out.2.1]; rfl
              have n0 : w15.cell? ⟨N, 0, none⟩ = some (.int .i64 0) := by rw [bcell HW15.out.1.hN]; rfl
              have n1 : w15.cell? ⟨N, 1, none⟩ = some (.int .i64 0) := by rw [bcell HW15.out.1.hN]; rfl
              have n2 : w15.cell? ⟨N, 2, none⟩ = some (.int .i64 0) := by rw [bcell HW15.out.1.hN]; rfl
              have n3 : w15.cell? ⟨N, 3, none⟩ = some (.int .u64 0) := by rw [bcell HW15.out.1.hN]; rfl
              have nf : ∀ j, w15.frozen? ⟨N, j, none⟩ = false := fun j => bfz HW15.out.1.hN j
              have hNZ : N ≠ Z := by have := HW12.out.2.2.2.1; have := HW15.out.1.ord; omega
              go_wp2_with fail
              go_region
              clear u0' u1' u2' u3' n0 n1 n2 n3 nf
              generalize hw16 : World.drew _ = w16
              have HW16 : Hid (w16.heap[N]? = some (.cells #[.int .i64 (szT l + p.2 + szT r), .int .i64 ff, .int .i64 mf, .int .u64 (addM (addM (smT l) u0) (smT r))] 54) ∧ (∀ k, k ≠ N → w16.heap[k]? = w15.heap[k]?) ∧ w16.heap.size = w15.heap.size ∧ w16.os = w15.os ∧ w16.tape = w15.tape ∧ w16.output = w15.output) := by
                rw [← hw16]
                exact ⟨set54 HW15.out.1.hN rfl _ _ _ _, fun k hk => set54_other _ _ _ _ _ _ k hk, by simp [World.setCell, World.drew], rfl, rfl, rfl⟩
              clear hw16
              go_wp2_with fail
              have q0 : w16.cell? ⟨N, 0, none⟩ = some (.int .i64 (szT l + p.2 + szT r)) := by rw [bcell HW16.out.1]; rfl
              have q1 : w16.cell? ⟨N, 1, none⟩ = some (.int .i64 ff) := by rw [bcell HW16.out.1]; rfl
              have q2 : w16.cell? ⟨N, 2, none⟩ = some (.int .i64 mf) := by rw [bcell HW16.out.1]; rfl
              have q3 : w16.cell? ⟨N, 3, none⟩ = some (.int .u64 (addM (addM (smT l) u0) (smT r))) := by rw [bcell HW16.out.1]; rfl
              refine bodyPost_ret (v := .tuple #[.slice A3 m3 cap3, .agg #[.int .i64 (szT l + p.2 + szT r), .int .i64 ff, .int .i64 mf, .int .u64 (addM (addM (smT l) u0) (smT r))], .bool true]) (by simp [results, Try.results18, go_sem, q0, q1, q2, q3]) rfl ⟨A3, cap3, m3, ?_⟩
              rw [HFIN.out.1, HE36.out.1, HE36.out.2, HFIN.out.2.2.2, HOV.out]
              exact walk_end HN.out HOV.out HOV3.out.1 HOV3.out.2 (L' := toL (.node d1 d2 p l r)) (by rw [HL3.out, HL2.out, HL1.out]; simp [toL]) HW15.out.1 HW16.out HW11.out.2.1 (fun k hk => HW11.out.2.2.1 k hk) (fun k hk => by rw [HSS.out] at hk; rcases hk with (hk | hk | hk) | hk <;> first | exact .inl hk | exact .inr (by have := HW15.out.1.ord; have := HW9.out.1.size; omega)) HW12.out.2.1 HW12.out.2.2.2.2 HW15.out.2.2.1 HW15.out.2.2.2 HG.out.2.2.1 HW12.out.2.2.2.1
            · rw [hp] at x6
              have HP : Hid (p.1.pend = false) := hp
              have hc1 : decide (meT r < meT l) = true := by simpa using hm1
              have HM1 : Hid (meT r < meT l) := hm1
              have hc2 : decide (p.1.fin < meT r) = false := by simpa using hm2
              have HM2 : Hid (¬ p.1.fin < meT r) := hm2
              go_upto_region 33 with fail
              generalize hw14 : (w13.setCell _ _).setCell _ _ = w14
              have hb14 : ∀ k, k ≠ Z → w14.heap[k]? = w13.heap[k]? := fun k hk => by rw [← hw14]; exact (Below.heap_setCell _ _ _ _ hk).trans (Below.heap_setCell _ _ _ _ hk)
              have hs14 : w14.heap.size = w13.heap.size := by rw [← hw14]; simp [World.setCell]
              have hz14 : w14.heap[Z]? = some (.cells #[.int .i64 (szT l + p.2 + szT r), .int .i64 (fmT l + fmT r + p.2), .int .i64 (meT r), .int .u64 (addM (addM (smT l) u0) (smT r))] 54) := by rw [← hw14]; exact bset (bset HW13.out.2.1 2 _) 1 _
              have HW14a : Hid (WSt w w14 N X Y ov ov3 #[.int .u8 k, .int .i64 i, .string s, .slice Q ql qc, .int .i64 p.1.start, .int .i64 p.1.fin, .bool p.1.pend, .int .u64 p.1.hv] #[.int .i64 (szT l), .int .i64 (fmT l), .int .i64 (meT l), .int .u64 (smT l)] #[.int .i64 (szT r), .int .i64 (fmT r), .int .i64 (meT r), .int .u64 (smT r)] p.1 ∧ w14.heap[Z]? = some (.cells #[.int .i64 (szT l + p.2 + szT r), .int .i64 (fmT l + fmT r + p.2), .int .i64 (meT r), .int .u64 (addM (addM (smT l) u0) (smT r))] 54) ∧ (∀ k, k ≠ Z → w14.heap[k]? = w12.heap[k]?) ∧ w14.heap.size = w12.heap.size) := ⟨HW13.out.1.other hb14 HW12.out.2.2.2.1 hs14 (by rw [← hw14]; rfl) (by rw [← hw14]; rfl) (by rw [← hw14]; rfl), hz14, fun k hk => (hb14 k hk).trans (HW13.out.2.2.1 k hk), hs14.trans HW13.out.2.2.2⟩
              clear hw14 hb14 hs14 hz14
              clear t1 t2 tf1 tf2 zz2 x5 x6 hc1 hm1 hc2 hm2 HW13
              obtain ⟨ff, hff⟩ : ∃ ff, ff = (fmT l + fmT r + p.2) := ⟨_, rfl⟩
              obtain ⟨mf, hmf⟩ : ∃ mf, mf = meT r := ⟨_, rfl⟩
              have HW14 : Hid (WSt w w14 N X Y ov ov3 #[.int .u8 k, .int .i64 i, .string s, .slice Q ql qc, .int .i64 p.1.start, .int .i64 p.1.fin, .bool p.1.pend, .int .u64 p.1.hv] #[.int .i64 (szT l), .int .i64 (fmT l), .int .i64 (meT l), .int .u64 (smT l)] #[.int .i64 (szT r), .int .i64 (fmT r), .int .i64 (meT r), .int .u64 (smT r)] p.1 ∧ w14.heap[Z]? = some (.cells #[.int .i64 (szT l + p.2 + szT r), .int .i64 ff, .int .i64 mf, .int .u64 (addM (addM (smT l) u0) (smT r))] 54) ∧ (∀ k, k ≠ Z → w14.heap[k]? = w12.heap[k]?) ∧ w14.heap.size = w12.heap.size) := by rw [hff, hmf]; exact HW14a.out
              clear HW14a
              have e3 : fmT (.node d1 d2 p l r) = ff := by rw [HFIN.out.2.1, HP.out, hff]; simp; try omega
              have e6 : meT (.node d1 d2 p l r) = mf := by
                rw [HFIN.out.2.2.1, HP.out, hmf]
                have h1 := HM1.out
                have h8 := meT_le l HA.out.2.2.2.1
                have h2 := HM2.out
                simp only [minI_eq, Bool.false_eq_true, if_false]
                omega
              have hq4 := HB4.out w14 HW14.out.1
              rw [← HFIN.out.2.1, ← HFIN.out.2.2.1, e3, e6] at hq4
              have HE36 : Hid (fmT (.node d1 d2 p l r) = ff ∧ meT (.node d1 d2 p l r) = mf) := ⟨e3, e6⟩
              have hfr := fmT_range (.node d1 d2 p l r)
              rw [e3, HFIN.out.1] at hfr
              have v5 : IntKind.i64.wrap ff = ff := by rw [IntKind.wrap_i64]; omega
              clear hff hmf e3 e6 hfr
              have g22 := fun n => get_22 (w14.drewN n) b _ hq4.1
              have g23 := fun n => get_23 (w14.drewN n) b _ hq4.2.1
              have g24 := fun n => get_24 (w14.drewN n) b _ hq4.2.2.1
              have g25 := fun n => get_25 (w14.drewN n) b _ hq4.2.2.2
              have u0' : w14.cell? ⟨Z, 0, none⟩ = some (.int .i64 (szT l + p.2 + szT r)) := by rw [bcell HW14.out.2.1]; rfl
              have u1' : w14.cell? ⟨Z, 1, none⟩ = some (.int .i64 ff) := by rw [bcell HW14.out.2.1]; rfl
              have u2' : w14.cell? ⟨Z, 2, none⟩ = some (.int .i64 mf) := by rw [bcell HW14.out.2.1]; rfl
              have u3' : w14.cell? ⟨Z, 3, none⟩ = some (.int .u64 (addM (addM (smT l) u0) (smT r))) := by rw [bcell HW14.out.2.1]; rfl
              clear hq4
              go_quiet ((first | (go_at_call 22; exact Calls.quiet_of_same (g22 _)) | (go_at_call 23; exact Calls.quiet_of_same (g23 _)) | (go_at_call 24; exact Calls.quiet_of_same (g24 _)) | (go_at_call 25; exact Calls.quiet_of_same (g25 _))))
              clear g22 g23 g24 g25 u0' u1' u2' u3'
              obtain ⟨w15, hw15⟩ : ∃ w15, w15 = w14.drewN nq := ⟨_, rfl⟩
              have HW15 : Hid (WSt w w15 N X Y ov ov3 #[.int .u8 k, .int .i64 i, .string s, .slice Q ql qc, .int .i64 p.1.start, .int .i64 p.1.fin, .bool p.1.pend, .int .u64 p.1.hv] #[.int .i64 (szT l), .int .i64 (fmT l), .int .i64 (meT l), .int .u64 (smT l)] #[.int .i64 (szT r), .int .i64 (fmT r), .int .i64 (meT r), .int .u64 (smT r)] p.1 ∧ w15.heap[Z]? = some (.cells #[.int .i64 (szT l + p.2 + szT r), .int .i64 ff, .int .i64 mf, .int .u64 (addM (addM (smT l) u0) (smT r))] 54) ∧ (∀ k, k ≠ Z → w15.heap[k]? = w12.heap[k]?) ∧ w15.heap.size = w12.heap.size) := by
                rw [hw15]
                exact ⟨HW14.out.1.other (Z := Z) (W' := w14.drewN nq) (fun _ _ => rfl) HW12.out.2.2.2.1 rfl rfl rfl rfl, HW14.out.2.1, HW14.out.2.2.1, HW14.out.2.2.2⟩
              rw [← hw15]
              clear hw15 HW14
              have u0' : w15.cell? ⟨Z, 0, none⟩ = some (.int .i64 (szT l + p.2 + szT r)) := by rw [bcell HW15.out.2.1]; rfl
              have u1' : w15.cell? ⟨Z, 1, none⟩ = some (.int .i64 ff) := by rw [bcell HW15.out.2.1]; rfl
              have u2' : w15.cell? ⟨Z, 2, none⟩ = some (.int .i64 mf) := by rw [bcell HW15.out.2.1]; rfl
              have u3' : w15.cell? ⟨Z, 3, none⟩ = some (.int .u64 (addM (addM (smT l) u0) (smT r))) := by rw [bcell HW15.out.2.1]; rfl
              have n0 : w15.cell? ⟨N, 0, none⟩ = some (.int .i64 0) := by rw [bcell HW15.out.1.hN]; rfl
              have n1 : w15.cell? ⟨N, 1, none⟩ = some (.int .i64 0) := by rw [bcell HW15.out.1.hN]; rfl
              have n2 : w15.cell? ⟨N, 2, none⟩ = some (.int .i64 0) := by rw [bcell HW15.out.1.hN]; rfl
              have n3 : w15.cell? ⟨N, 3, none⟩ = some (.int .u64 0) := by rw [bcell HW15.out.1.hN]; rfl
              have nf : ∀ j, w15.frozen? ⟨N, j, none⟩ = false := fun j => bfz HW15.out.1.hN j
              have hNZ : N ≠ Z := by have := HW12.out.2.2.2.1; have := HW15.out.1.ord; omega
              go_wp2_with fail
              go_region
              clear u0' u1' u2' u3' n0 n1 n2 n3 nf
              generalize hw16 : World.drew _ = w16
              have HW16 : Hid (w16.heap[N]? = some (.cells #[.int .i64 (szT l + p.2 + szT r), .int .i64 ff, .int .i64 mf, .int .u64 (addM (addM (smT l) u0) (smT r))] 54) ∧ (∀ k, k ≠ N → w16.heap[k]? = w15.heap[k]?) ∧ w16.heap.size = w15.heap.size ∧ w16.os = w15.os ∧ w16.tape = w15.tape ∧ w16.output = w15.output) := by
                rw [← hw16]
                exact ⟨set54 HW15.out.1.hN rfl _ _ _ _, fun k hk => set54_other _ _ _ _ _ _ k hk, by simp [World.setCell, World.drew], rfl, rfl, rfl⟩
              clear hw16
              go_wp2_with fail
              have q0 : w16.cell? ⟨N, 0, none⟩ = some (.int .i64 (szT l + p.2 + szT r)) := by rw [bcell HW16.out.1]; rfl
              have q1 : w16.cell? ⟨N, 1, none⟩ = some (.int .i64 ff) := by rw [bcell HW16.out.1]; rfl
              have q2 : w16.cell? ⟨N, 2, none⟩ = some (.int .i64 mf) := by rw [bcell HW16.out.1]; rfl
              have q3 : w16.cell? ⟨N, 3, none⟩ = some (.int .u64 (addM (addM (smT l) u0) (smT r))) := by rw [bcell HW16.out.1]; rfl
              refine bodyPost_ret (v := .tuple #[.slice A3 m3 cap3, .agg #[.int .i64 (szT l + p.2 + szT r), .int .i64 ff, .int .i64 mf, .int .u64 (addM (addM (smT l) u0) (smT r))], .bool true]) (by simp [results, Try.results18, go_sem, q0, q1, q2, q3]) rfl ⟨A3, cap3, m3, ?_⟩
              rw [HFIN.out.1, HE36.out.1, HE36.out.2, HFIN.out.2.2.2, HOV.out]
              exact walk_end HN.out HOV.out HOV3.out.1 HOV3.out.2 (L' := toL (.node d1 d2 p l r)) (by rw [HL3.out, HL2.out, HL1.out]; simp [toL]) HW15.out.1 HW16.out HW11.out.2.1 (fun k hk => HW11.out.2.2.1 k hk) (fun k hk => by rw [HSS.out] at hk; rcases hk with (hk | hk | hk) | hk <;> first | exact .inl hk | exact .inr (by have := HW15.out.1.ord; have := HW9.out.1.size; omega)) HW12.out.2.1 HW12.out.2.2.2.2 HW15.out.2.2.1 HW15.out.2.2.2 HG.out.2.2.1 HW12.out.2.2.2.1
          · by_cases hm2 : p.1.fin < meT l
            · rw [hp] at x6
              have HP : Hid (p.1.pend = false) := hp
              have hc1 : decide (meT r < meT l) = false := by simpa using hm1
              have HM1 : Hid (¬ meT r < meT l) := hm1
              have hc2 : decide (p.1.fin < meT l) = true := by simpa using hm2
              have HM2 : Hid (p.1.fin < meT l) := hm2
              go_upto_region 33 with fail
              generalize hw14 : (w13.setCell _ _).setCell _ _ = w14
              have hb14 : ∀ k, k ≠ Z → w14.heap[k]? = w13.heap[k]? := fun k hk => by rw [← hw14]; exact (Below.heap_setCell _ _ _ _ hk).trans (Below.heap_setCell _ _ _ _ hk)
              have hs14 : w14.heap.size = w13.heap.size := by rw [← hw14]; simp [World.setCell]
              have hz14 : w14.heap[Z]? = some (.cells #[.int .i64 (szT l + p.2 + szT r), .int .i64 (fmT l + fmT r + p.2), .int .i64 (p.1.fin), .int .u64 (addM (addM (smT l) u0) (smT r))] 54) := by rw [← hw14]; exact bset (bset HW13.out.2.1 1 _) 2 _
              have HW14a : Hid (WSt w w14 N X Y ov ov3 #[.int .u8 k, .int .i64 i, .string s, .slice Q ql qc, .int .i64 p.1.start, .int .i64 p.1.fin, .bool p.1.pend, .int .u64 p.1.hv] #[.int .i64 (szT l), .int .i64 (fmT l), .int .i64 (meT l), .int .u64 (smT l)] #[.int .i64 (szT r), .int .i64 (fmT r), .int .i64 (meT r), .int .u64 (smT r)] p.1 ∧ w14.heap[Z]? = some (.cells #[.int .i64 (szT l + p.2 + szT r), .int .i64 (fmT l + fmT r + p.2), .int .i64 (p.1.fin), .int .u64 (addM (addM (smT l) u0) (smT r))] 54) ∧ (∀ k, k ≠ Z → w14.heap[k]? = w12.heap[k]?) ∧ w14.heap.size = w12.heap.size) := ⟨HW13.out.1.other hb14 HW12.out.2.2.2.1 hs14 (by rw [← hw14]; rfl) (by rw [← hw14]; rfl) (by rw [← hw14]; rfl), hz14, fun k hk => (hb14 k hk).trans (HW13.out.2.2.1 k hk), hs14.trans HW13.out.2.2.2⟩
              clear hw14 hb14 hs14 hz14
              clear t1 t2 tf1 tf2 zz2 x5 x6 hc1 hm1 hc2 hm2 HW13
              obtain ⟨ff, hff⟩ : ∃ ff, ff = (fmT l + fmT r + p.2) := ⟨_, rfl⟩
              obtain ⟨mf, hmf⟩ : ∃ mf, mf = p.1.fin := ⟨_, rfl⟩
              have HW14 : Hid (WSt w w14 N X Y ov ov3 #[.int .u8 k, .int .i64 i, .string s, .slice Q ql qc, .int .i64 p.1.start, .int .i64 p.1.fin, .bool p.1.pend, .int .u64 p.1.hv] #[.int .i64 (szT l), .int .i64 (fmT l), .int .i64 (meT l), .int .u64 (smT l)] #[.int .i64 (szT r), .int .i64 (fmT r), .int .i64 (meT r), .int .u64 (smT r)] p.1 ∧ w14.heap[Z]? = some (.cells #[.int .i64 (szT l + p.2 + szT r), .int .i64 ff, .int .i64 mf, .int .u64 (addM (addM (smT l) u0) (smT r))] 54) ∧ (∀ k, k ≠ Z → w14.heap[k]? = w12.heap[k]?) ∧ w14.heap.size = w12.heap.size) := by rw [hff, hmf]; exact HW14a.out
              clear HW14a
              have e3 : fmT (.node d1 d2 p l r) = ff := by rw [HFIN.out.2.1, HP.out, hff]; simp; try omega
              have e6 : meT (.node d1 d2 p l r) = mf := by
                rw [HFIN.out.2.2.1, HP.out, hmf]
                have h1 := HM1.out
                have h8 := meT_le l HA.out.2.2.2.1
                have h2 := HM2.out
                simp only [minI_eq, Bool.false_eq_true, if_false]
                omega
              have hq4 := HB4.out w14 HW14.out.1
              rw [← HFIN.out.2.1, ← HFIN.out.2.2.1, e3, e6] at hq4
              have HE36 : Hid (fmT (.node d1 d2 p l r) = ff ∧ meT (.node d1 d2 p l r) = mf) := ⟨e3, e6⟩
              have hfr := fmT_range (.node d1 d2 p l r)
              rw [e3, HFIN.out.1] at hfr
              have v5 : IntKind.i64.wrap ff = ff := by rw [IntKind.wrap_i64]; omega
              clear hff hmf e3 e6 hfr
              have g22 := fun n => get_22 (w14.drewN n) b _ hq4.1
              have g23 := fun n => get_23 (w14.drewN n) b _ hq4.2.1
              have g24 := fun n => get_24 (w14.drewN n) b _ hq4.2.2.1
              have g25 := fun n => get_25 (w14.drewN n) b _ hq4.2.2.2
              have u0' : w14.cell? ⟨Z, 0, none⟩ = some (.int .i64 (szT l + p.2 + szT r)) := by rw [bcell HW14.out.2.1]; rfl
              have u1' : w14.cell? ⟨Z, 1, none⟩ = some (.int .i64 ff) := by rw [bcell HW14.out.2.1]; rfl
              have u2' : w14.cell? ⟨Z, 2, none⟩ = some (.int .i64 mf) := by rw [bcell HW14.out.2.1]; rfl
              have u3' : w14.cell? ⟨Z, 3, none⟩ = some (.int .u64 (addM (addM (smT l) u0) (smT r))) := by rw [bcell HW14.out.2.1]; rfl
              clear hq4
              go_quiet ((first | (go_at_call 22; exact Calls.quiet_of_same (g22 _)) | (go_at_call 23; exact Calls.quiet_of_same (g23 _)) | (go_at_call 24; exact Calls.quiet_of_same (g24 _)) | (go_at_call 25; exact Calls.quiet_of_same (g25 _))))
              clear g22 g23 g24 g25 u0' u1' u2' u3'
              obtain ⟨w15, hw15⟩ : ∃ w15, w15 = w14.drewN nq := ⟨_, rfl⟩
              have HW15 : Hid (WSt w w15 N X Y ov ov3 #[.int .u8 k, .int .i64 i, .string s, .slice Q ql qc, .int .i64 p.1.start, .int .i64 p.1.fin, .bool p.1.pend, .int .u64 p.1.hv] #[.int .i64 (szT l), .int .i64 (fmT l), .int .i64 (meT l), .int .u64 (smT l)] #[.int .i64 (szT r), .int .i64 (fmT r), .int .i64 (meT r), .int .u64 (smT r)] p.1 ∧ w15.heap[Z]? = some (.cells #[.int .i64 (szT l + p.2 + szT r), .int .i64 ff, .int .i64 mf, .int .u64 (addM (addM (smT l) u0) (smT r))] 54) ∧ (∀ k, k ≠ Z → w15.heap[k]? = w12.heap[k]?) ∧ w15.heap.size = w12.heap.size) := by
                rw [hw15]
                exact ⟨HW14.out.1.other (Z := Z) (W' := w14.drewN nq) (fun _ _ => rfl) HW12.out.2.2.2.1 rfl rfl rfl rfl, HW14.out.2.1, HW14.out.2.2.1, HW14.out.2.2.2⟩
              rw [← hw15]
              clear hw15 HW14
              have u0' : w15.cell? ⟨Z, 0, none⟩ = some (.int .i64 (szT l + p.2 + szT r)) := by rw [bcell HW15.out.2.1]; rfl
              have u1' : w15.cell? ⟨Z, 1, none⟩ = some (.int .i64 ff) := by rw [bcell HW15.out.2.1]; rfl
              have u2' : w15.cell? ⟨Z, 2, none⟩ = some (.int .i64 mf) := by rw [bcell HW15.out.2.1]; rfl
              have u3' : w15.cell? ⟨Z, 3, none⟩ = some (.int .u64 (addM (addM (smT l) u0) (smT r))) := by rw [bcell HW15.out.2.1]; rfl
              have n0 : w15.cell? ⟨N, 0, none⟩ = some (.int .i64 0) := by rw [bcell HW15.out.1.hN]; rfl
              have n1 : w15.cell? ⟨N, 1, none⟩ = some (.int .i64 0) := by rw [bcell HW15.out.1.hN]; rfl
              have n2 : w15.cell? ⟨N, 2, none⟩ = some (.int .i64 0) := by rw [bcell HW15.out.1.hN]; rfl
              have n3 : w15.cell? ⟨N, 3, none⟩ = some (.int .u64 0) := by rw [bcell HW15.out.1.hN]; rfl
              have nf : ∀ j, w15.frozen? ⟨N, j, none⟩ = false := fun j => bfz HW15.out.1.hN j
              have hNZ : N ≠ Z := by have := HW12.out.2.2.2.1; have := HW15.out.1.ord; omega
              go_wp2_with fail
              go_region
              clear u0' u1' u2' u3' n0 n1 n2 n3 nf
              generalize hw16 : World.drew _ = w16
              have HW16 : Hid (w16.heap[N]? = some (.cells #[.int .i64 (szT l + p.2 + szT r), .int .i64 ff, .int .i64 mf, .int .u64 (addM (addM (smT l) u0) (smT r))] 54) ∧ (∀ k, k ≠ N → w16.heap[k]? = w15.heap[k]?) ∧ w16.heap.size = w15.heap.size ∧ w16.os = w15.os ∧ w16.tape = w15.tape ∧ w16.output = w15.output) := by
                rw [← hw16]
                exact ⟨set54 HW15.out.1.hN rfl _ _ _ _, fun k hk => set54_other _ _ _ _ _ _ k hk, by simp [World.setCell, World.drew], rfl, rfl, rfl⟩
              clear hw16
              go_wp2_with fail
              have q0 : w16.cell? ⟨N, 0, none⟩ = some (.int .i64 (szT l + p.2 + szT r)) := by rw [bcell HW16.out.1]; rfl
              have q1 : w16.cell? ⟨N, 1, none⟩ = some (.int .i64 ff) := by rw [bcell HW16.out.1]; rfl
              have q2 : w16.cell? ⟨N, 2, none⟩ = some (.int .i64 mf) := by rw [bcell HW16.out.1]; rfl
              have q3 : w16.cell? ⟨N, 3, none⟩ = some (.int .u64 (addM (addM (smT l) u0) (smT r))) := by rw [bcell HW16.out.1]; rfl
              refine bodyPost_ret (v := .tuple #[.slice A3 m3 cap3, .agg #[.int .i64 (szT l + p.2 + szT r), .int .i64 ff, .int .i64 mf, .int .u64 (addM (addM (smT l) u0) (smT r))], .bool true]) (by simp [results, Try.results18, go_sem, q0, q1, q2, q3]) rfl ⟨A3, cap3, m3, ?_⟩
              rw [HFIN.out.1, HE36.out.1, HE36.out.2, HFIN.out.2.2.2, HOV.out]
              exact walk_end HN.out HOV.out HOV3.out.1 HOV3.out.2 (L' := toL (.node d1 d2 p l r)) (by rw [HL3.out, HL2.out, HL1.out]; simp [toL]) HW15.out.1 HW16.out HW11.out.2.1 (fun k hk => HW11.out.2.2.1 k hk) (fun k hk => by rw [HSS.out] at hk; rcases hk with (hk | hk | hk) | hk <;> first | exact .inl hk | exact .inr (by have := HW15.out.1.ord; have := HW9.out.1.size; omega)) HW12.out.2.1 HW12.out.2.2.2.2 HW15.out.2.2.1 HW15.out.2.2.2 HG.out.2.2.1 HW12.out.2.2.2.1
            · rw [hp] at x6
              have HP : Hid (p.1.pend = false) := hp
              have hc1 : decide (meT r < meT l) = false := by simpa using hm1
              have HM1 : Hid (¬ meT r < meT l) := hm1
              have hc2 : decide (p.1.fin < meT l) = false := by simpa using hm2
              have HM2 : Hid (¬ p.1.fin < meT l) := hm2
              go_upto_region 33 with fail
              generalize hw14 : w13.setCell _ _ = w14
              have hb14 : ∀ k, k ≠ Z → w14.heap[k]? = w13.heap[k]? := fun k hk => by rw [← hw14]; exact Below.heap_setCell _ _ _ _ hk
              have hs14 : w14.heap.size = w13.heap.size := by rw [← hw14]; simp [World.setCell]
              have hz14 : w14.heap[Z]? = some (.cells #[.int .i64 (szT l + p.2 + szT r), .int .i64 (fmT l + fmT r + p.2), .int .i64 (meT l), .int .u64 (addM (addM (smT l) u0) (smT r))] 54) := by rw [← hw14]; exact bset HW13.out.2.1 1 _
              have HW14a : Hid (WSt w w14 N X Y ov ov3 #[.int .u8 k, .int .i64 i, .string s, .slice Q ql qc, .int .i64 p.1.start, .int .i64 p.1.fin, .bool p.1.pend, .int .u64 p.1.hv] #[.int .i64 (szT l), .int .i64 (fmT l), .int .i64 (meT l), .int .u64 (smT l)] #[.int .i64 (szT r), .int .i64 (fmT r), .int .i64 (meT r), .int .u64 (smT r)] p.1 ∧ w14.heap[Z]? = some (.cells #[.int .i64 (szT l + p.2 + szT r), .int .i64 (fmT l + fmT r + p.2), .int .i64 (meT l), .int .u64 (addM (addM (smT l) u0) (smT r))] 54) ∧ (∀ k, k ≠ Z → w14.heap[k]? = w12.heap[k]?) ∧ w14.heap.size = w12.heap.size) := ⟨HW13.out.1.other hb14 HW12.out.2.2.2.1 hs14 (by rw [← hw14]; rfl) (by rw [← hw14]; rfl) (by rw [← hw14]; rfl), hz14, fun k hk => (hb14 k hk).trans (HW13.out.2.2.1 k hk), hs14.trans HW13.out.2.2.2⟩
              clear hw14 hb14 hs14 hz14
              clear t1 t2 tf1 tf2 zz2 x5 x6 hc1 hm1 hc2 hm2 HW13
              obtain ⟨ff, hff⟩ : ∃ ff, ff = (fmT l + fmT r + p.2) := ⟨_, rfl⟩
              obtain ⟨mf, hmf⟩ : ∃ mf, mf = meT l := ⟨_, rfl⟩
              have HW14 : Hid (WSt w w14 N X Y ov ov3 #[.int .u8 k, .int .i64 i, .string s, .slice Q ql qc, .int .i64 p.1.start, .int .i64 p.1.fin, .bool p.1.pend, .int .u64 p.1.hv] #[.int .i64 (szT l), .int .i64 (fmT l), .int .i64 (meT l), .int .u64 (smT l)] #[.int .i64 (szT r), .int .i64 (fmT r), .int .i64 (meT r), .int .u64 (smT r)] p.1 ∧ w14.heap[Z]? = some (.cells #[.int .i64 (szT l + p.2 + szT r), .int .i64 ff, .int .i64 mf, .int .u64 (addM (addM (smT l) u0) (smT r))] 54) ∧ (∀ k, k ≠ Z → w14.heap[k]? = w12.heap[k]?) ∧ w14.heap.size = w12.heap.size) := by rw [hff, hmf]; exact HW14a.out
              clear HW14a
              have e3 : fmT (.node d1 d2 p l r) = ff := by rw [HFIN.out.2.1, HP.out, hff]; simp; try omega
              have e6 : meT (.node d1 d2 p l r) = mf := by
                rw [HFIN.out.2.2.1, HP.out, hmf]
                have h1 := HM1.out
                have h8 := meT_le l HA.out.2.2.2.1
                have h2 := HM2.out
                simp only [minI_eq, Bool.false_eq_true, if_false]
                omega
              have hq4 := HB4.out w14 HW14.out.1
              rw [← HFIN.out.2.1, ← HFIN.out.2.2.1, e3, e6] at hq4
              have HE36 : Hid (fmT (.node d1 d2 p l r) = ff ∧ meT (.node d1 d2 p l r) = mf) := ⟨e3, e6⟩
              have hfr := fmT_range (.node d1 d2 p l r)
              rw [e3, HFIN.out.1] at hfr
              have v5 : IntKind.i64.wrap ff = ff := by rw [IntKind.wrap_i64]; omega
              clear hff hmf e3 e6 hfr
              have g22 := fun n => get_22 (w14.drewN n) b _ hq4.1
              have g23 := fun n => get_23 (w14.drewN n) b _ hq4.2.1
              have g24 := fun n => get_24 (w14.drewN n) b _ hq4.2.2.1
              have g25 := fun n => get_25 (w14.drewN n) b _ hq4.2.2.2
              have u0' : w14.cell? ⟨Z, 0, none⟩ = some (.int .i64 (szT l + p.2 + szT r)) := by rw [bcell HW14.out.2.1]; rfl
              have u1' : w14.cell? ⟨Z, 1, none⟩ = some (.int .i64 ff) := by rw [bcell HW14.out.2.1]; rfl
              have u2' : w14.cell? ⟨Z, 2, none⟩ = some (.int .i64 mf) := by rw [bcell HW14.out.2.1]; rfl
              have u3' : w14.cell? ⟨Z, 3, none⟩ = some (.int .u64 (addM (addM (smT l) u0) (smT r))) := by rw [bcell HW14.out.2.1]; rfl
              clear hq4
              go_quiet ((first | (go_at_call 22; exact Calls.quiet_of_same (g22 _)) | (go_at_call 23; exact Calls.quiet_of_same (g23 _)) | (go_at_call 24; exact Calls.quiet_of_same (g24 _)) | (go_at_call 25; exact Calls.quiet_of_same (g25 _))))
              clear g22 g23 g24 g25 u0' u1' u2' u3'
              obtain ⟨w15, hw15⟩ : ∃ w15, w15 = w14.drewN nq := ⟨_, rfl⟩
              have HW15 : Hid (WSt w w15 N X Y ov ov3 #[.int .u8 k, .int .i64 i, .string s, .slice Q ql qc, .int .i64 p.1.start, .int .i64 p.1.fin, .bool p.1.pend, .int .u64 p.1.hv] #[.int .i64 (szT l), .int .i64 (fmT l), .int .i64 (meT l), .int .u64 (smT l)] #[.int .i64 (szT r), .int .i64 (fmT r), .int .i64 (meT r), .int .u64 (smT r)] p.1 ∧ w15.heap[Z]? = some (.cells #[.int .i64 (szT l + p.2 + szT r), .int .i64 ff, .int .i64 mf, .int .u64 (addM (addM (smT l) u0) (smT r))] 54) ∧ (∀ k, k ≠ Z → w15.heap[k]? = w12.heap[k]?) ∧ w15.heap.size = w12.heap.size) := by
                rw [hw15]
                exact ⟨HW14.out.1.other (Z := Z) (W' := w14.drewN nq) (fun _ _ => rfl) HW12.out.2.2.2.1 rfl rfl rfl rfl, HW14.out.2.1, HW14.out.2.2.1, HW14.out.2.2.2⟩
              rw [← hw15]
              clear hw15 HW14
              have u0' : w15.cell? ⟨Z, 0, none⟩ = some (.int .i64 (szT l + p.2 + szT r)) := by rw [bcell HW15.out.2.1]; rfl
              have u1' : w15.cell? ⟨Z, 1, none⟩ = some (.int .i64 ff) := by rw [bcell HW15.out.2.1]; rfl
              have u2' : w15.cell? ⟨Z, 2, none⟩ = some (.int .i64 mf) := by rw [bcell HW15.out.2.1]; rfl
              have u3' : w15.cell? ⟨Z, 3, none⟩ = some (.int .u64 (addM (addM (smT l) u0) (smT r))) := by rw [bcell HW15.out.2.1]; rfl
              have n0 : w15.cell? ⟨N, 0, none⟩ = some (.int .i64 0) := by rw [bcell HW15.out.1.hN]; rfl
              have n1 : w15.cell? ⟨N, 1, none⟩ = some (.int .i64 0) := by rw [bcell HW15.out.1.hN]; rfl
              have n2 : w15.cell? ⟨N, 2, none⟩ = some (.int .i64 0) := by rw [bcell HW15.out.1.hN]; rfl
              have n3 : w15.cell? ⟨N, 3, none⟩ = some (.int .u64 0) := by rw [bcell HW15.out.1.hN]; rfl
              have nf : ∀ j, w15.frozen? ⟨N, j, none⟩ = false := fun j => bfz HW15.out.1.hN j
              have hNZ : N ≠ Z := by have := HW12.out.2.2.2.1; have := HW15.out.1.ord; omega
              go_wp2_with fail
              go_region
              clear u0' u1' u2' u3' n0 n1 n2 n3 nf
              generalize hw16 : World.drew _ = w16
              have HW16 : Hid (w16.heap[N]? = some (.cells #[.int .i64 (szT l + p.2 + szT r), .int .i64 ff, .int .i64 mf, .int .u64 (addM (addM (smT l) u0) (smT r))] 54) ∧ (∀ k, k ≠ N → w16.heap[k]? = w15.heap[k]?) ∧ w16.heap.size = w15.heap.size ∧ w16.os = w15.os ∧ w16.tape = w15.tape ∧ w16.output = w15.output) := by
                rw [← hw16]
                exact ⟨set54 HW15.out.1.hN rfl _ _ _ _, fun k hk => set54_other _ _ _ _ _ _ k hk, by simp [World.setCell, World.drew], rfl, rfl, rfl⟩
              clear hw16
              go_wp2_with fail
              have q0 : w16.cell? ⟨N, 0, none⟩ = some (.int .i64 (szT l + p.2 + szT r)) := by rw [bcell HW16.out.1]; rfl
              have q1 : w16.cell? ⟨N, 1, none⟩ = some (.int .i64 ff) := by rw [bcell HW16.out.1]; rfl
              have q2 : w16.cell? ⟨N, 2, none⟩ = some (.int .i64 mf) := by rw [bcell HW16.out.1]; rfl
              have q3 : w16.cell? ⟨N, 3, none⟩ = some (.int .u64 (addM (addM (smT l) u0) (smT r))) := by rw [bcell HW16.out.1]; rfl
              refine bodyPost_ret (v := .tuple #[.slice A3 m3 cap3, .agg #[.int .i64 (szT l + p.2 + szT r), .int .i64 ff, .int .i64 mf, .int .u64 (addM (addM (smT l) u0) (smT r))], .bool true]) (by simp [results, Try.results18, go_sem, q0, q1, q2, q3]) rfl ⟨A3, cap3, m3, ?_⟩
              rw [HFIN.out.1, HE36.out.1, HE36.out.2, HFIN.out.2.2.2, HOV.out]
              exact walk_end HN.out HOV.out HOV3.out.1 HOV3.out.2 (L' := toL (.node d1 d2 p l r)) (by rw [HL3.out, HL2.out, HL1.out]; simp [toL]) HW15.out.1 HW16.out HW11.out.2.1 (fun k hk => HW11.out.2.2.1 k hk) (fun k hk => by rw [HSS.out] at hk; rcases hk with (hk | hk | hk) | hk <;> first | exact .inl hk | exact .inr (by have := HW15.out.1.ord; have := HW9.out.1.size; omega)) HW12.out.2.1 HW12.out.2.2.2.2 HW15.out.2.2.1 HW15.out.2.2.2 HG.out.2.2.1 HW12.out.2.2.2.1
end Go.Proofs.Qxb6613283a
