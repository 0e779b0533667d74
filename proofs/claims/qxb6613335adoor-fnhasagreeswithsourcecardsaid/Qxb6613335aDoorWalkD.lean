/-
  THE WALK of mkEntry: its two regions that draw are stepped by hand, whole rows at a time (cell by cell the kernel runs out of memory).
-/
import Derived.Test.Qxb6613335aDoorWalkC
import Derived.Laws.Tables
import Derived.Laws.Rows
namespace Go.Proofs.Qxb6613335aDoor
open Go.RowKit
theorem below3d {w w1 : World} {o o' o2 : Obj} (hb : Below (((w.alloc o).alloc o').alloc o2).drew.heap.size (((w.alloc o).alloc o').alloc o2).drew w1) : Below w.heap.size w w1 :=
  ((((Below.refl _ _).alloc (Nat.le_refl _) _).alloc (by simp) _).alloc (by simp; omega) _).trans ((below_drewn hb).mono (by simp; omega))
theorem below4d {w w1 : World} {o o' o2 o3 : Obj} (hb : Below ((((w.alloc o).alloc o').alloc o2).alloc o3).drew.heap.size ((((w.alloc o).alloc o').alloc o2).alloc o3).drew w1) : Below w.heap.size w w1 :=
  (((((Below.refl _ _).alloc (Nat.le_refl _) _).alloc (by simp) _).alloc (by simp; omega) _).alloc (by simp; omega) _).trans ((below_drewn hb).mono (by simp; omega))
theorem blk_new (W : World) (o : Obj) (B : Nat) (h : B = W.heap.size) : (W.alloc o).heap[B]? = some o := by subst h; exact (MapKept.heap_alloc W o).1
theorem NF.drew {a4 a6 : Addr} {w : World} (h : NF a4 a6 w) : NF a4 a6 w.drew := h.below (Below.refl _ _).drew
theorem below_setRow {B : Nat} {a w : World} (h : Below B a w) (g : Nat) (cs : Array Value) (hg : B ≤ g) : Below B a (w.setRow g cs) :=
  h.trans ⟨rfl, rfl, rfl, by rw [size_setRow]; exact Nat.le_refl _, fun k hk => by simp only [World.setRow, Array.getElem?_modify]; rw [if_neg (by omega)]⟩
theorem info36 : (Tryd.prog.info? 36).map (·.size) = some 25 := by kernel_rfl
theorem info34 : (Tryd.prog.info? 34).map (·.size) = some 20 := by kernel_rfl
theorem info22 : (Tryd.prog.info? 22).map (·.size) = some 16 := by kernel_rfl
theorem info41 : (Tryd.prog.info? 41).map (·.size) = some 4 := by kernel_rfl
/-- Twenty bytes of zero; a struct Entry of zeros; one that is filled. -/
def Z20 : Array Value := #[.int .u8 0, .int .u8 0, .int .u8 0, .int .u8 0, .int .u8 0, .int .u8 0, .int .u8 0, .int .u8 0, .int .u8 0, .int .u8 0, .int .u8 0, .int .u8 0, .int .u8 0, .int .u8 0, .int .u8 0, .int .u8 0, .int .u8 0, .int .u8 0, .int .u8 0, .int .u8 0]
def E25 : Array Value := #[.int .u64 0, .int .u64 0, .pointer none, .int .u16 0, .int .u8 0, .int .u8 0, .int .u8 0, .int .u8 0, .int .u8 0, .int .u8 0, .int .u8 0, .int .u8 0, .int .u8 0, .int .u8 0, .int .u8 0, .int .u8 0, .int .u8 0, .int .u8 0, .int .u8 0, .int .u8 0, .int .u8 0, .int .u8 0, .int .u8 0, .int .u8 0, .int .i64 0]
def N25 (h l p : Int) (z : Option Addr) : Array Value := #[.int .u64 h, .int .u64 l, .pointer z, .int .u16 p, .int .u8 0, .int .u8 0, .int .u8 0, .int .u8 0, .int .u8 0, .int .u8 0, .int .u8 0, .int .u8 0, .int .u8 0, .int .u8 0, .int .u8 0, .int .u8 0, .int .u8 0, .int .u8 0, .int .u8 0, .int .u8 0, .int .u8 0, .int .u8 0, .int .u8 0, .int .u8 0, .int .i64 0]
theorem N25_one (h l p : Int) (z : Option Addr) : (N25 h l p z).all (·.oneCell') = true := by simp [N25, Value.oneCell']
theorem built36 (h l p : Int) (z : Option Addr) : Tryd.prog.built 36 [(0, .agg #[.int .u64 h, .int .u64 l, .pointer z, .int .u16 p]), (1, .agg Z20), (2, .int .i64 0)] = some (N25 h l p z) := by kernel_rfl

theorem wp_build_to {P : Program} {o : Oper} {a : Act} {w : World} {K : Act → World → Prop} {Q : Exit → Act → World → Prop} (t : TypeId) (parts : Array (Nat × Operand)) (ho : o.op = .build t parts)
    (L : List (Nat × Value)) (hL : (parts.map fun (i, x) => (i, a.eval x)).toList = L) (cells : Array Value) (hc : P.built t L = some cells) (h : K (a.put o.dst (.agg cells)) w) : o.wp P a w K Q := by
  subst hL
  exact wp_build t parts ho (by rw [hc]; rfl) (by rw [hc]; exact h)

theorem w8A (A : Array Value) (hA : A.size = 16) (ha : Bytes16 A) (p : Int) {a4 a6 : Addr} (w : World) (hF : NF a4 a6 w) :
    Calls Tryd.prog 8 #[.agg A, .int .u16 p] w fun e w' => (∃ h l, e = .returned (.agg #[.int .u64 h, .int .u64 l, .pointer (some a6), .int .u16 p])) ∧ Below w.heap.size w w' := by
  have e : A = #[A[0], A[1], A[2], A[3], A[4], A[5], A[6], A[7], A[8], A[9], A[10], A[11], A[12], A[13], A[14], A[15]] := by
    apply Array.ext
    · simpa using hA
    · intro i h1 h2
      match i, h1, h2 with
      | 0, _, _ => rfl
      | 1, _, _ => rfl
      | 2, _, _ => rfl
      | 3, _, _ => rfl
      | 4, _, _ => rfl
      | 5, _, _ => rfl
      | 6, _, _ => rfl
      | 7, _, _ => rfl
      | 8, _, _ => rfl
      | 9, _, _ => rfl
      | 10, _, _ => rfl
      | 11, _, _ => rfl
      | 12, _, _ => rfl
      | 13, _, _ => rfl
      | 14, _, _ => rfl
      | 15, _, _ => rfl
      | i + 16, h1, _ => omega
  rw [e] at ha ⊢
  exact w8 _ _ _ _ _ _ _ _ _ _ _ _ _ _ _ _ ha p w hF

set_option maxRecDepth 100000 in
set_option maxHeartbeats 2000000 in
theorem w4_6 (A : Array Value) (hA : A.size = 16) (ha : Bytes16 A) (p : Int) {a4 a6 : Addr} (w : World) (hF : NF a4 a6 w) :
    Calls Tryd.prog 4 #[.bool false, .agg A, .int .u16 p, .agg Z20, .int .i64 0] w fun e w' => (∃ h l, e = .returned (.agg (N25 h l p (some a6)))) ∧ Below w.heap.size w w' := by
  have HA : Hid (Bytes16 A) := ha
  clear ha
  go_enter Tryd.func4, Tryd.ntmps4
  go_wp2_with fail
  refine wp_region_any (by kernel_rfl) ?_
  change wpAny _ _ _ _ _ _ _ (World.drew (World.alloc (World.alloc (World.alloc w (Obj.cells A 22)) (Obj.cells Z20 34)) (Obj.cells E25 36)))
  have h22 : (((w.alloc (.cells A 22)).alloc (.cells Z20 34)).alloc (.cells E25 36)).drew.heap[w.heap.size]? = some (.cells A 22) :=
    (Below.heap_alloc _ _ _ (by simp; omega)).trans ((Below.heap_alloc _ _ _ (by simp)).trans (blk_new _ _ _ rfl))
  have h34 : (((w.alloc (.cells A 22)).alloc (.cells Z20 34)).alloc (.cells E25 36)).drew.heap[w.heap.size + 1]? = some (.cells Z20 34) :=
    (Below.heap_alloc _ _ _ (by simp)).trans (blk_new _ _ _ (by simp))
  have h36 : (((w.alloc (.cells A 22)).alloc (.cells Z20 34)).alloc (.cells E25 36)).drew.heap[w.heap.size + 1 + 1]? = some (.cells E25 36) :=
    blk_new _ _ _ (by simp)
  have hFd := (((hF.alloc (.cells A 22)).alloc (.cells Z20 34)).alloc (.cells E25 36)).drew
  have hBd : ∀ w2, Below (((w.alloc (.cells A 22)).alloc (.cells Z20 34)).alloc (.cells E25 36)).drew.heap.size (((w.alloc (.cells A 22)).alloc (.cells Z20 34)).alloc (.cells E25 36)).drew w2 → Below w.heap.size w w2 := fun _ h => below3d h
  have hsz : (((w.alloc (.cells A 22)).alloc (.cells Z20 34)).alloc (.cells E25 36)).drew.heap.size = w.heap.size + 1 + 1 + 1 := by show (((w.alloc (.cells A 22)).alloc (.cells Z20 34)).alloc (.cells E25 36)).heap.size = _; simp
  generalize (((w.alloc (.cells A 22)).alloc (.cells Z20 34)).alloc (.cells E25 36)).drew = W at *
  refine wpAny_take (i := 1) (v := .int .u16 p) rfl (by kernel_rfl) (by kernel_rfl) (by kernel_rfl) (fun _ _ _ h => h) (Or.inl ⟨by rfl, fun w => by go_simp⟩) ?_
  refine wpAny_take (i := 4) (v := .int .i64 0) rfl (by kernel_rfl) (by kernel_rfl) (by kernel_rfl) (fun _ _ _ h => h) (Or.inl ⟨by rfl, fun w => by go_simp⟩) ?_
  refine wpAny_ready (rs := [0, 3]) (by kernel_rfl) (by simp) ?_
  refine AllReady.cons rfl (fun K hK => ?_) (AllReady.cons rfl (fun K hK => ?_) AllReady.nil)
  · rw [if_pos (by kernel_rfl)]
    refine wp_load_row 22 (.tmp 6) rfl w.heap.size (by kernel_rfl) 22 A (0, 0) _ h22 Tryd.underlying22 rfl (by rw [hA]; exact info22) ?_
    refine hK _ _ ?_
    clear hK K
    refine wpAny_ready (rs := [2, 3]) (by kernel_rfl) (by simp) ?_
    refine AllReady.cons rfl (fun K hK => ?_) (AllReady.cons rfl (fun K hK => ?_) AllReady.nil)
    · go_simp
      refine (w8A A hA HA.out p W hFd).mono ?_
      rintro e w2 ⟨⟨h, l, rfl⟩, hb⟩
      have k34 := (hb.block _ (by rw [hsz]; omega)).trans h34
      have k36 := (hb.block _ (by rw [hsz]; omega)).trans h36
      refine hK _ _ ?_
      clear hK K
      refine wpAny_ready (rs := [3]) (by kernel_rfl) (by simp) ?_
      refine AllReady.cons rfl (fun K hK => ?_) AllReady.nil
      rw [if_pos (by kernel_rfl)]
      refine wp_load_row 34 (.tmp 8) rfl (w.heap.size + 1) (by kernel_rfl) 34 Z20 (0, 0) _ k34 Tryd.underlying34 rfl info34 ?_
      refine hK _ _ ?_
      clear hK K
      refine wpAny_ready (rs := [5]) (by kernel_rfl) (by simp) ?_
      refine AllReady.cons rfl (fun K hK => ?_) AllReady.nil
      rw [if_pos (by kernel_rfl)]
      refine wp_build_to 36 #[(0, Operand.tmp 33), (1, Operand.tmp 34), (2, Operand.tmp 35)] rfl [(0, .agg #[.int .u64 h, .int .u64 l, .pointer (some a6), .int .u16 p]), (1, .agg Z20), (2, .int .i64 0)] (by kernel_rfl) (N25 h l p (some a6)) (built36 h l p (some a6)) ?_
      refine hK _ _ ?_
      clear hK K
      refine wpAny_ready (rs := [6]) (by kernel_rfl) (by simp) ?_
      refine AllReady.cons rfl (fun K hK => ?_) AllReady.nil
      rw [if_pos (by kernel_rfl)]
      refine wp_store_row 36 (.tmp 10) (.tmp 36) rfl (w.heap.size + 1 + 1) (N25 h l p (some a6)) (by kernel_rfl) (by kernel_rfl) 36 E25 k36 info36 rfl (N25_one _ _ _ _) ?_
      refine hK _ _ ?_
      clear hK K
      refine wpAny_done (by kernel_rfl) ?_ _
      go_wp2_with fail
      exact bodyPost_ret (v := .agg (N25 h l p (some a6))) (results_cell_row (P := Tryd.prog) (fn := Tryd.f4) Tryd.results4 _ _ (w.heap.size + 1 + 1) 36 (N25 h l p (some a6)) (0, 0) _ (by kernel_rfl) (setRow_heap _ _ _ _ _ _ k36) Tryd.underlying36 rfl info36) rfl ⟨⟨_, _, rfl⟩, below_setRow (hBd _ hb) _ _ (by omega)⟩
    · rw [if_pos (by kernel_rfl)]
      refine wp_load_row 34 (.tmp 8) rfl (w.heap.size + 1) (by kernel_rfl) 34 Z20 (0, 0) _ h34 Tryd.underlying34 rfl info34 ?_
      refine hK _ _ ?_
      clear hK K
      refine wpAny_ready (rs := [2]) (by kernel_rfl) (by simp) ?_
      refine AllReady.cons rfl (fun K hK => ?_) AllReady.nil
      go_simp
      refine (w8A A hA HA.out p W hFd).mono ?_
      rintro e w2 ⟨⟨h, l, rfl⟩, hb⟩
      have k34 := (hb.block _ (by rw [hsz]; omega)).trans h34
      have k36 := (hb.block _ (by rw [hsz]; omega)).trans h36
      refine hK _ _ ?_
      clear hK K
      refine wpAny_ready (rs := [5]) (by kernel_rfl) (by simp) ?_
      refine AllReady.cons rfl (fun K hK => ?_) AllReady.nil
      rw [if_pos (by kernel_rfl)]
      refine wp_build_to 36 #[(0, Operand.tmp 33), (1, Operand.tmp 34), (2, Operand.tmp 35)] rfl [(0, .agg #[.int .u64 h, .int .u64 l, .pointer (some a6), .int .u16 p]), (1, .agg Z20), (2, .int .i64 0)] (by kernel_rfl) (N25 h l p (some a6)) (built36 h l p (some a6)) ?_
      refine hK _ _ ?_
      clear hK K
      refine wpAny_ready (rs := [6]) (by kernel_rfl) (by simp) ?_
      refine AllReady.cons rfl (fun K hK => ?_) AllReady.nil
      rw [if_pos (by kernel_rfl)]
      refine wp_store_row 36 (.tmp 10) (.tmp 36) rfl (w.heap.size + 1 + 1) (N25 h l p (some a6)) (by kernel_rfl) (by kernel_rfl) 36 E25 k36 info36 rfl (N25_one _ _ _ _) ?_
      refine hK _ _ ?_
      clear hK K
      refine wpAny_done (by kernel_rfl) ?_ _
      go_wp2_with fail
      exact bodyPost_ret (v := .agg (N25 h l p (some a6))) (results_cell_row (P := Tryd.prog) (fn := Tryd.f4) Tryd.results4 _ _ (w.heap.size + 1 + 1) 36 (N25 h l p (some a6)) (0, 0) _ (by kernel_rfl) (setRow_heap _ _ _ _ _ _ k36) Tryd.underlying36 rfl info36) rfl ⟨⟨_, _, rfl⟩, below_setRow (hBd _ hb) _ _ (by omega)⟩
  · rw [if_pos (by kernel_rfl)]
    refine wp_load_row 34 (.tmp 8) rfl (w.heap.size + 1) (by kernel_rfl) 34 Z20 (0, 0) _ h34 Tryd.underlying34 rfl info34 ?_
    refine hK _ _ ?_
    clear hK K
    refine wpAny_ready (rs := [0]) (by kernel_rfl) (by simp) ?_
    refine AllReady.cons rfl (fun K hK => ?_) AllReady.nil
    rw [if_pos (by kernel_rfl)]
    refine wp_load_row 22 (.tmp 6) rfl w.heap.size (by kernel_rfl) 22 A (0, 0) _ h22 Tryd.underlying22 rfl (by rw [hA]; exact info22) ?_
    refine hK _ _ ?_
    clear hK K
    refine wpAny_ready (rs := [2]) (by kernel_rfl) (by simp) ?_
    refine AllReady.cons rfl (fun K hK => ?_) AllReady.nil
    go_simp
    refine (w8A A hA HA.out p W hFd).mono ?_
    rintro e w2 ⟨⟨h, l, rfl⟩, hb⟩
    have k34 := (hb.block _ (by rw [hsz]; omega)).trans h34
    have k36 := (hb.block _ (by rw [hsz]; omega)).trans h36
    refine hK _ _ ?_
    clear hK K
    refine wpAny_ready (rs := [5]) (by kernel_rfl) (by simp) ?_
    refine AllReady.cons rfl (fun K hK => ?_) AllReady.nil
    rw [if_pos (by kernel_rfl)]
    refine wp_build_to 36 #[(0, Operand.tmp 33), (1, Operand.tmp 34), (2, Operand.tmp 35)] rfl [(0, .agg #[.int .u64 h, .int .u64 l, .pointer (some a6), .int .u16 p]), (1, .agg Z20), (2, .int .i64 0)] (by kernel_rfl) (N25 h l p (some a6)) (built36 h l p (some a6)) ?_
    refine hK _ _ ?_
    clear hK K
    refine wpAny_ready (rs := [6]) (by kernel_rfl) (by simp) ?_
    refine AllReady.cons rfl (fun K hK => ?_) AllReady.nil
    rw [if_pos (by kernel_rfl)]
    refine wp_store_row 36 (.tmp 10) (.tmp 36) rfl (w.heap.size + 1 + 1) (N25 h l p (some a6)) (by kernel_rfl) (by kernel_rfl) 36 E25 k36 info36 rfl (N25_one _ _ _ _) ?_
    refine hK _ _ ?_
    clear hK K
    refine wpAny_done (by kernel_rfl) ?_ _
    go_wp2_with fail
    exact bodyPost_ret (v := .agg (N25 h l p (some a6))) (results_cell_row (P := Tryd.prog) (fn := Tryd.f4) Tryd.results4 _ _ (w.heap.size + 1 + 1) 36 (N25 h l p (some a6)) (0, 0) _ (by kernel_rfl) (setRow_heap _ _ _ _ _ _ k36) Tryd.underlying36 rfl info36) rfl ⟨⟨_, _, rfl⟩, below_setRow (hBd _ hb) _ _ (by omega)⟩
set_option maxRecDepth 100000 in
set_option maxHeartbeats 2000000 in
theorem w4_4L (x0 x1 x2 x3 x4 x5 x6 x7 x8 x9 x10 x11 x12 x13 x14 x15 p : Int) {a4 a6 : Addr} (w : World) (hF : NF a4 a6 w) :
    Calls Tryd.prog 4 #[.bool true, .agg #[.int .u8 x0, .int .u8 x1, .int .u8 x2, .int .u8 x3, .int .u8 x4, .int .u8 x5, .int .u8 x6, .int .u8 x7, .int .u8 x8, .int .u8 x9, .int .u8 x10, .int .u8 x11, .int .u8 x12, .int .u8 x13, .int .u8 x14, .int .u8 x15], .int .u16 p, .agg Z20, .int .i64 0] w fun e w' => (∃ h l, e = .returned (.agg (N25 h l p (some a4)))) ∧ Below w.heap.size w w' := by
  go_enter Tryd.func4, Tryd.ntmps4
  go_wp2_with fail
  refine wp_region_any (by kernel_rfl) ?_
  change wpAny _ _ _ _ _ _ _ (World.drew (World.alloc (World.alloc (World.alloc (World.alloc w (Obj.cells #[.int .u8 x0, .int .u8 x1, .int .u8 x2, .int .u8 x3, .int .u8 x4, .int .u8 x5, .int .u8 x6, .int .u8 x7, .int .u8 x8, .int .u8 x9, .int .u8 x10, .int .u8 x11, .int .u8 x12, .int .u8 x13, .int .u8 x14, .int .u8 x15] 22)) (Obj.cells Z20 34)) (Obj.cells E25 36)) (Obj.cells #[.int .u8 x0, .int .u8 x1, .int .u8 x2, .int .u8 x3] 41)))
  have h34 : ((((w.alloc (.cells #[.int .u8 x0, .int .u8 x1, .int .u8 x2, .int .u8 x3, .int .u8 x4, .int .u8 x5, .int .u8 x6, .int .u8 x7, .int .u8 x8, .int .u8 x9, .int .u8 x10, .int .u8 x11, .int .u8 x12, .int .u8 x13, .int .u8 x14, .int .u8 x15] 22)).alloc (.cells Z20 34)).alloc (.cells E25 36)).alloc (.cells #[.int .u8 x0, .int .u8 x1, .int .u8 x2, .int .u8 x3] 41)).drew.heap[w.heap.size + 1]? = some (.cells Z20 34) :=
    (Below.heap_alloc _ _ _ (by simp)).trans ((Below.heap_alloc _ _ _ (by simp)).trans (blk_new _ _ _ (by simp)))
  have h36 : ((((w.alloc (.cells #[.int .u8 x0, .int .u8 x1, .int .u8 x2, .int .u8 x3, .int .u8 x4, .int .u8 x5, .int .u8 x6, .int .u8 x7, .int .u8 x8, .int .u8 x9, .int .u8 x10, .int .u8 x11, .int .u8 x12, .int .u8 x13, .int .u8 x14, .int .u8 x15] 22)).alloc (.cells Z20 34)).alloc (.cells E25 36)).alloc (.cells #[.int .u8 x0, .int .u8 x1, .int .u8 x2, .int .u8 x3] 41)).drew.heap[w.heap.size + 1 + 1]? = some (.cells E25 36) :=
    (Below.heap_alloc _ _ _ (by simp)).trans (blk_new _ _ _ (by simp))
  have h41 : ((((w.alloc (.cells #[.int .u8 x0, .int .u8 x1, .int .u8 x2, .int .u8 x3, .int .u8 x4, .int .u8 x5, .int .u8 x6, .int .u8 x7, .int .u8 x8, .int .u8 x9, .int .u8 x10, .int .u8 x11, .int .u8 x12, .int .u8 x13, .int .u8 x14, .int .u8 x15] 22)).alloc (.cells Z20 34)).alloc (.cells E25 36)).alloc (.cells #[.int .u8 x0, .int .u8 x1, .int .u8 x2, .int .u8 x3] 41)).drew.heap[w.heap.size + 1 + 1 + 1]? = some (.cells #[.int .u8 x0, .int .u8 x1, .int .u8 x2, .int .u8 x3] 41) := blk_new _ _ _ (by simp)
  have hFd := ((((hF.alloc (.cells #[.int .u8 x0, .int .u8 x1, .int .u8 x2, .int .u8 x3, .int .u8 x4, .int .u8 x5, .int .u8 x6, .int .u8 x7, .int .u8 x8, .int .u8 x9, .int .u8 x10, .int .u8 x11, .int .u8 x12, .int .u8 x13, .int .u8 x14, .int .u8 x15] 22)).alloc (.cells Z20 34)).alloc (.cells E25 36)).alloc (.cells #[.int .u8 x0, .int .u8 x1, .int .u8 x2, .int .u8 x3] 41)).drew
  have hBd : ∀ w2, Below ((((w.alloc (.cells #[.int .u8 x0, .int .u8 x1, .int .u8 x2, .int .u8 x3, .int .u8 x4, .int .u8 x5, .int .u8 x6, .int .u8 x7, .int .u8 x8, .int .u8 x9, .int .u8 x10, .int .u8 x11, .int .u8 x12, .int .u8 x13, .int .u8 x14, .int .u8 x15] 22)).alloc (.cells Z20 34)).alloc (.cells E25 36)).alloc (.cells #[.int .u8 x0, .int .u8 x1, .int .u8 x2, .int .u8 x3] 41)).drew.heap.size ((((w.alloc (.cells #[.int .u8 x0, .int .u8 x1, .int .u8 x2, .int .u8 x3, .int .u8 x4, .int .u8 x5, .int .u8 x6, .int .u8 x7, .int .u8 x8, .int .u8 x9, .int .u8 x10, .int .u8 x11, .int .u8 x12, .int .u8 x13, .int .u8 x14, .int .u8 x15] 22)).alloc (.cells Z20 34)).alloc (.cells E25 36)).alloc (.cells #[.int .u8 x0, .int .u8 x1, .int .u8 x2, .int .u8 x3] 41)).drew w2 → Below w.heap.size w w2 := fun _ h => below4d h
  have hsz : ((((w.alloc (.cells #[.int .u8 x0, .int .u8 x1, .int .u8 x2, .int .u8 x3, .int .u8 x4, .int .u8 x5, .int .u8 x6, .int .u8 x7, .int .u8 x8, .int .u8 x9, .int .u8 x10, .int .u8 x11, .int .u8 x12, .int .u8 x13, .int .u8 x14, .int .u8 x15] 22)).alloc (.cells Z20 34)).alloc (.cells E25 36)).alloc (.cells #[.int .u8 x0, .int .u8 x1, .int .u8 x2, .int .u8 x3] 41)).drew.heap.size = w.heap.size + 1 + 1 + 1 + 1 := by show ((((w.alloc (.cells #[.int .u8 x0, .int .u8 x1, .int .u8 x2, .int .u8 x3, .int .u8 x4, .int .u8 x5, .int .u8 x6, .int .u8 x7, .int .u8 x8, .int .u8 x9, .int .u8 x10, .int .u8 x11, .int .u8 x12, .int .u8 x13, .int .u8 x14, .int .u8 x15] 22)).alloc (.cells Z20 34)).alloc (.cells E25 36)).alloc (.cells #[.int .u8 x0, .int .u8 x1, .int .u8 x2, .int .u8 x3] 41)).heap.size = _; simp
  generalize ((((w.alloc (.cells #[.int .u8 x0, .int .u8 x1, .int .u8 x2, .int .u8 x3, .int .u8 x4, .int .u8 x5, .int .u8 x6, .int .u8 x7, .int .u8 x8, .int .u8 x9, .int .u8 x10, .int .u8 x11, .int .u8 x12, .int .u8 x13, .int .u8 x14, .int .u8 x15] 22)).alloc (.cells Z20 34)).alloc (.cells E25 36)).alloc (.cells #[.int .u8 x0, .int .u8 x1, .int .u8 x2, .int .u8 x3] 41)).drew = W at *
  refine wpAny_take (i := 1) (v := .int .u16 p) rfl (by kernel_rfl) (by kernel_rfl) (by kernel_rfl) (fun _ _ _ h => h) (Or.inl ⟨by rfl, fun w => by go_simp⟩) ?_
  refine wpAny_take (i := 4) (v := .int .i64 0) rfl (by kernel_rfl) (by kernel_rfl) (by kernel_rfl) (fun _ _ _ h => h) (Or.inl ⟨by rfl, fun w => by go_simp⟩) ?_
  refine wpAny_ready (rs := [0, 3]) (by kernel_rfl) (by simp) ?_
  refine AllReady.cons rfl (fun K hK => ?_) (AllReady.cons rfl (fun K hK => ?_) AllReady.nil)
  · rw [if_pos (by kernel_rfl)]
    refine wp_load_row 41 (.tmp 11) rfl (w.heap.size + 1 + 1 + 1) (by kernel_rfl) 41 #[.int .u8 x0, .int .u8 x1, .int .u8 x2, .int .u8 x3] (0, 0) _ h41 Tryd.underlying41 rfl info41 ?_
    refine hK _ _ ?_
    clear hK K
    refine wpAny_ready (rs := [2, 3]) (by kernel_rfl) (by simp) ?_
    refine AllReady.cons rfl (fun K hK => ?_) (AllReady.cons rfl (fun K hK => ?_) AllReady.nil)
    · go_simp
      refine (w7 _ _ _ _ p W hFd).mono ?_
      rintro e w2 ⟨⟨h, l, rfl⟩, hb⟩
      have k34 := (hb.block _ (by rw [hsz]; omega)).trans h34
      have k36 := (hb.block _ (by rw [hsz]; omega)).trans h36
      refine hK _ _ ?_
      clear hK K
      refine wpAny_ready (rs := [3]) (by kernel_rfl) (by simp) ?_
      refine AllReady.cons rfl (fun K hK => ?_) AllReady.nil
      rw [if_pos (by kernel_rfl)]
      refine wp_load_row 34 (.tmp 8) rfl (w.heap.size + 1) (by kernel_rfl) 34 Z20 (0, 0) _ k34 Tryd.underlying34 rfl info34 ?_
      refine hK _ _ ?_
      clear hK K
      refine wpAny_ready (rs := [5]) (by kernel_rfl) (by simp) ?_
      refine AllReady.cons rfl (fun K hK => ?_) AllReady.nil
      rw [if_pos (by kernel_rfl)]
      refine wp_build_to 36 #[(0, Operand.tmp 27), (1, Operand.tmp 28), (2, Operand.tmp 29)] rfl [(0, .agg #[.int .u64 h, .int .u64 l, .pointer (some a4), .int .u16 p]), (1, .agg Z20), (2, .int .i64 0)] (by kernel_rfl) (N25 h l p (some a4)) (built36 h l p (some a4)) ?_
      refine hK _ _ ?_
      clear hK K
      refine wpAny_ready (rs := [6]) (by kernel_rfl) (by simp) ?_
      refine AllReady.cons rfl (fun K hK => ?_) AllReady.nil
      rw [if_pos (by kernel_rfl)]
      refine wp_store_row 36 (.tmp 10) (.tmp 30) rfl (w.heap.size + 1 + 1) (N25 h l p (some a4)) (by kernel_rfl) (by kernel_rfl) 36 E25 k36 info36 rfl (N25_one _ _ _ _) ?_
      refine hK _ _ ?_
      clear hK K
      refine wpAny_done (by kernel_rfl) ?_ _
      go_wp2_with fail
      exact bodyPost_ret (v := .agg (N25 h l p (some a4))) (results_cell_row (P := Tryd.prog) (fn := Tryd.f4) Tryd.results4 _ _ (w.heap.size + 1 + 1) 36 (N25 h l p (some a4)) (0, 0) _ (by kernel_rfl) (setRow_heap _ _ _ _ _ _ k36) Tryd.underlying36 rfl info36) rfl ⟨⟨_, _, rfl⟩, below_setRow (hBd _ hb) _ _ (by omega)⟩
    · rw [if_pos (by kernel_rfl)]
      refine wp_load_row 34 (.tmp 8) rfl (w.heap.size + 1) (by kernel_rfl) 34 Z20 (0, 0) _ h34 Tryd.underlying34 rfl info34 ?_
      refine hK _ _ ?_
      clear hK K
      refine wpAny_ready (rs := [2]) (by kernel_rfl) (by simp) ?_
      refine AllReady.cons rfl (fun K hK => ?_) AllReady.nil
      go_simp
      refine (w7 _ _ _ _ p W hFd).mono ?_
      rintro e w2 ⟨⟨h, l, rfl⟩, hb⟩
      have k34 := (hb.block _ (by rw [hsz]; omega)).trans h34
      have k36 := (hb.block _ (by rw [hsz]; omega)).trans h36
      refine hK _ _ ?_
      clear hK K
      refine wpAny_ready (rs := [5]) (by kernel_rfl) (by simp) ?_
      refine AllReady.cons rfl (fun K hK => ?_) AllReady.nil
      rw [if_pos (by kernel_rfl)]
      refine wp_build_to 36 #[(0, Operand.tmp 27), (1, Operand.tmp 28), (2, Operand.tmp 29)] rfl [(0, .agg #[.int .u64 h, .int .u64 l, .pointer (some a4), .int .u16 p]), (1, .agg Z20), (2, .int .i64 0)] (by kernel_rfl) (N25 h l p (some a4)) (built36 h l p (some a4)) ?_
      refine hK _ _ ?_
      clear hK K
      refine wpAny_ready (rs := [6]) (by kernel_rfl) (by simp) ?_
      refine AllReady.cons rfl (fun K hK => ?_) AllReady.nil
      rw [if_pos (by kernel_rfl)]
      refine wp_store_row 36 (.tmp 10) (.tmp 30) rfl (w.heap.size + 1 + 1) (N25 h l p (some a4)) (by kernel_rfl) (by kernel_rfl) 36 E25 k36 info36 rfl (N25_one _ _ _ _) ?_
      refine hK _ _ ?_
      clear hK K
      refine wpAny_done (by kernel_rfl) ?_ _
      go_wp2_with fail
      exact bodyPost_ret (v := .agg (N25 h l p (some a4))) (results_cell_row (P := Tryd.prog) (fn := Tryd.f4) Tryd.results4 _ _ (w.heap.size + 1 + 1) 36 (N25 h l p (some a4)) (0, 0) _ (by kernel_rfl) (setRow_heap _ _ _ _ _ _ k36) Tryd.underlying36 rfl info36) rfl ⟨⟨_, _, rfl⟩, below_setRow (hBd _ hb) _ _ (by omega)⟩
  · rw [if_pos (by kernel_rfl)]
    refine wp_load_row 34 (.tmp 8) rfl (w.heap.size + 1) (by kernel_rfl) 34 Z20 (0, 0) _ h34 Tryd.underlying34 rfl info34 ?_
    refine hK _ _ ?_
    clear hK K
    refine wpAny_ready (rs := [0]) (by kernel_rfl) (by simp) ?_
    refine AllReady.cons rfl (fun K hK => ?_) AllReady.nil
    rw [if_pos (by kernel_rfl)]
    refine wp_load_row 41 (.tmp 11) rfl (w.heap.size + 1 + 1 + 1) (by kernel_rfl) 41 #[.int .u8 x0, .int .u8 x1, .int .u8 x2, .int .u8 x3] (0, 0) _ h41 Tryd.underlying41 rfl info41 ?_
    refine hK _ _ ?_
    clear hK K
    refine wpAny_ready (rs := [2]) (by kernel_rfl) (by simp) ?_
    refine AllReady.cons rfl (fun K hK => ?_) AllReady.nil
    go_simp
    refine (w7 _ _ _ _ p W hFd).mono ?_
    rintro e w2 ⟨⟨h, l, rfl⟩, hb⟩
    have k34 := (hb.block _ (by rw [hsz]; omega)).trans h34
    have k36 := (hb.block _ (by rw [hsz]; omega)).trans h36
    refine hK _ _ ?_
    clear hK K
    refine wpAny_ready (rs := [5]) (by kernel_rfl) (by simp) ?_
    refine AllReady.cons rfl (fun K hK => ?_) AllReady.nil
    rw [if_pos (by kernel_rfl)]
    refine wp_build_to 36 #[(0, Operand.tmp 27), (1, Operand.tmp 28), (2, Operand.tmp 29)] rfl [(0, .agg #[.int .u64 h, .int .u64 l, .pointer (some a4), .int .u16 p]), (1, .agg Z20), (2, .int .i64 0)] (by kernel_rfl) (N25 h l p (some a4)) (built36 h l p (some a4)) ?_
    refine hK _ _ ?_
    clear hK K
    refine wpAny_ready (rs := [6]) (by kernel_rfl) (by simp) ?_
    refine AllReady.cons rfl (fun K hK => ?_) AllReady.nil
    rw [if_pos (by kernel_rfl)]
    refine wp_store_row 36 (.tmp 10) (.tmp 30) rfl (w.heap.size + 1 + 1) (N25 h l p (some a4)) (by kernel_rfl) (by kernel_rfl) 36 E25 k36 info36 rfl (N25_one _ _ _ _) ?_
    refine hK _ _ ?_
    clear hK K
    refine wpAny_done (by kernel_rfl) ?_ _
    go_wp2_with fail
    exact bodyPost_ret (v := .agg (N25 h l p (some a4))) (results_cell_row (P := Tryd.prog) (fn := Tryd.f4) Tryd.results4 _ _ (w.heap.size + 1 + 1) 36 (N25 h l p (some a4)) (0, 0) _ (by kernel_rfl) (setRow_heap _ _ _ _ _ _ k36) Tryd.underlying36 rfl info36) rfl ⟨⟨_, _, rfl⟩, below_setRow (hBd _ hb) _ _ (by omega)⟩
theorem w4_4 (A : Array Value) (hA : A.size = 16) (ha : Bytes16 A) (p : Int) {a4 a6 : Addr} (w : World) (hF : NF a4 a6 w) :
    Calls Tryd.prog 4 #[.bool true, .agg A, .int .u16 p, .agg Z20, .int .i64 0] w fun e w' => (∃ h l, e = .returned (.agg (N25 h l p (some a4)))) ∧ Below w.heap.size w w' := by
  obtain ⟨x0, y0⟩ := ha 0 (by omega)
  obtain ⟨x1, y1⟩ := ha 1 (by omega)
  obtain ⟨x2, y2⟩ := ha 2 (by omega)
  obtain ⟨x3, y3⟩ := ha 3 (by omega)
  obtain ⟨x4, y4⟩ := ha 4 (by omega)
  obtain ⟨x5, y5⟩ := ha 5 (by omega)
  obtain ⟨x6, y6⟩ := ha 6 (by omega)
  obtain ⟨x7, y7⟩ := ha 7 (by omega)
  obtain ⟨x8, y8⟩ := ha 8 (by omega)
  obtain ⟨x9, y9⟩ := ha 9 (by omega)
  obtain ⟨x10, y10⟩ := ha 10 (by omega)
  obtain ⟨x11, y11⟩ := ha 11 (by omega)
  obtain ⟨x12, y12⟩ := ha 12 (by omega)
  obtain ⟨x13, y13⟩ := ha 13 (by omega)
  obtain ⟨x14, y14⟩ := ha 14 (by omega)
  obtain ⟨x15, y15⟩ := ha 15 (by omega)
  have e : A = #[.int .u8 x0, .int .u8 x1, .int .u8 x2, .int .u8 x3, .int .u8 x4, .int .u8 x5, .int .u8 x6, .int .u8 x7, .int .u8 x8, .int .u8 x9, .int .u8 x10, .int .u8 x11, .int .u8 x12, .int .u8 x13, .int .u8 x14, .int .u8 x15] := by
    apply Array.ext
    · simpa using hA
    · intro i h1 h2
      match i, h1, h2 with
      | 0, h1, _ => exact Option.some.inj ((Array.getElem?_eq_getElem h1).symm.trans y0)
      | 1, h1, _ => exact Option.some.inj ((Array.getElem?_eq_getElem h1).symm.trans y1)
      | 2, h1, _ => exact Option.some.inj ((Array.getElem?_eq_getElem h1).symm.trans y2)
      | 3, h1, _ => exact Option.some.inj ((Array.getElem?_eq_getElem h1).symm.trans y3)
      | 4, h1, _ => exact Option.some.inj ((Array.getElem?_eq_getElem h1).symm.trans y4)
      | 5, h1, _ => exact Option.some.inj ((Array.getElem?_eq_getElem h1).symm.trans y5)
      | 6, h1, _ => exact Option.some.inj ((Array.getElem?_eq_getElem h1).symm.trans y6)
      | 7, h1, _ => exact Option.some.inj ((Array.getElem?_eq_getElem h1).symm.trans y7)
      | 8, h1, _ => exact Option.some.inj ((Array.getElem?_eq_getElem h1).symm.trans y8)
      | 9, h1, _ => exact Option.some.inj ((Array.getElem?_eq_getElem h1).symm.trans y9)
      | 10, h1, _ => exact Option.some.inj ((Array.getElem?_eq_getElem h1).symm.trans y10)
      | 11, h1, _ => exact Option.some.inj ((Array.getElem?_eq_getElem h1).symm.trans y11)
      | 12, h1, _ => exact Option.some.inj ((Array.getElem?_eq_getElem h1).symm.trans y12)
      | 13, h1, _ => exact Option.some.inj ((Array.getElem?_eq_getElem h1).symm.trans y13)
      | 14, h1, _ => exact Option.some.inj ((Array.getElem?_eq_getElem h1).symm.trans y14)
      | 15, h1, _ => exact Option.some.inj ((Array.getElem?_eq_getElem h1).symm.trans y15)
      | i + 16, h1, _ => omega
  rw [e]
  exact w4_4L _ _ _ _ _ _ _ _ _ _ _ _ _ _ _ _ p w hF
end Go.Proofs.Qxb6613335aDoor
