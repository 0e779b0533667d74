/-
  THE WALKS of zzb1CloneBytes and of the bound on lengths.
-/
import Derived.Test.Qxb6613453aDoorWalkA
import Derived.Deep.LoopGhost
import Derived.LoopN
namespace Go.Proofs.Qxb6613453aDoor
open Go.RowKit
theorem info5 : (Tryd.prog.info? 5).map (fun i => (i.zero, i.size, i.bytes)) = some (some (.int .u8 0), 1, 1) := by kernel_rfl
set_option maxHeartbeats 1000000 in
theorem bytes_yes (A : Option Addr) (n c : Nat) (k : Int) (w : World) (h : n ≤ 1048576) :
    Calls Tryd.prog 4 #[.slice A n c, .int .i64 k] w fun e w' => e = .returned (.bool true) ∧ w' = w := by
  go_enter Tryd.func4, Tryd.ntmps4
  go_wp2
  go_ret
  exact ⟨rfl, rfl⟩
set_option maxHeartbeats 1000000 in
theorem bytes_no (A : Option Addr) (n c : Nat) (k : Int) (w : World) (h : ¬ n ≤ 1048576) :
    Calls Tryd.prog 4 #[.slice A n c, .int .i64 k] w fun e w' => e = .returned (.bool false) ∧ w' = w := by
  go_enter Tryd.func4, Tryd.ntmps4
  go_wp2
  go_ret
  exact ⟨rfl, rfl⟩
set_option maxHeartbeats 1000000 in
theorem clone_nil (w : World) :
    Calls Tryd.prog 5 #[.slice none 0 0] w fun e w' => e = .returned (.slice none 0 0) ∧ w' = w := by
  have heq := fun w => Lib.run_eql_slice_nil (P := Tryd.prog) w 22 5 none 0 0 0 0 Tryd.underlying22
  go_enter Tryd.func5, Tryd.ntmps5
  go_wp2
  go_ret
  exact ⟨rfl, rfl⟩
theorem clone_step {wx : World} {B n k : Nat} {f : Nat → Int} (h : wx.rowIs B 5 n (fun j => .int .u8 (if j < k then f j else 0))) :
    (wx.setCell ⟨B, k, none⟩ (.int .u8 (f k))).rowIs B 5 n (fun j => .int .u8 (if j < k + 1 then f j else 0)) :=
  (h.set k _).congr fun j _ => by
    by_cases e : j = k
    · subst e; simp
    · by_cases h2 : j < k
      · simp [e, h2, show j < k + 1 by omega]
      · simp [e, h2, show ¬ j < k + 1 by omega]
set_option maxHeartbeats 1000000 in
theorem clone_some (b off n c : Nat) (f : Nat → Int) (w : World) (hn : n ≤ 1048576) (hb : b < w.heap.size) (hc : ∀ i, i < n → w.cell? ⟨b, off + i, none⟩ = some (.int .u8 (f i))) :
    Calls Tryd.prog 5 #[.slice (some ⟨b, off, none⟩) n c] w fun e w' => e = .returned (.slice (some ⟨w.heap.size, 0, none⟩) n n) ∧ w'.rowIs w.heap.size 5 n (fun i => .int .u8 (f i)) ∧ Below w.heap.size w w' := by
  have hmk := run_make_row' (P := Tryd.prog) 22 5 (.int .u8 0) 1 Tryd.underlying22 info5 rfl .i64 .i64 n (by omega) (by omega)
  have heq := fun w => Lib.run_eql_slice_nil (P := Tryd.prog) w 22 5 (some ⟨b, off, none⟩) n c 0 0 Tryd.underlying22
  have HC : Hid (∀ i, i < n → w.cell? ⟨b, off + i, none⟩ = some (.int .u8 (f i))) := hc
  clear hc
  go_enter Tryd.func5, Tryd.ntmps5
  go_wp2_with fail
  go_loopg [4] n (fun gf i wr => ∃ k : Nat, k + gf = n ∧ i = .int .i64 k ∧ wr.rowIs w.heap.size 5 n (fun j => .int .u8 (if j < k then f j else 0)) ∧ Below w.heap.size w wr)
  case atStart => exact ⟨0, by omega, rfl, (World.rowIs_made w (.int .u8 0) n 5).congr (fun i _ => by simp), (Below.refl _ _).alloc (Nat.le_refl _) _⟩
  case round =>
    obtain ⟨k, hk0, rfl, hrow, hbel⟩ := hrel
    have hk : k ≤ n := by omega
    have HK : Hid (k + gk = n) := hk0
    clear hk0
    by_cases hlt : k < n
    · have hfz := hrow.frozen k
      have hcl := hrow.cell hlt
      have hsrc : wr.cell? ⟨b, off + k, none⟩ = some (.int .u8 (f k)) := (hbel.cell (p := ⟨b, off + k, none⟩) hb).trans (HC.out k hlt)
      go_wp2_with fail
      go_roundg (gk - 1)
      case rel => exact ⟨k + 1, by have := HK.out; omega, by go_num, clone_step hrow, hbel.setCell (Nat.le_refl _) _⟩
      case measure => have := HK.out; omega
    · obtain rfl : k = n := by omega
      have hrow1 := hrow.congr (g := fun j => .int .u8 (f j)) (fun j hj => by simp [hj])
      clear hrow
      go_wp2_with fail
      go_ret
      exact ⟨rfl, hrow1, hbel⟩
set_option maxHeartbeats 1000000 in
theorem clone_zero (x : Addr) (c : Nat) (w : World) :
    Calls Tryd.prog 5 #[.slice (some x) 0 c] w fun e w' => e = .returned (.slice (some ⟨w.heap.size, 0, none⟩) 0 0) ∧ w' = w.alloc (.cells (madeCells #[.int .u8 0] 0) 5) := by
  have hmk : ∀ w : World, (Instr.makeSlice 22 (.int .i64 0) (.int .i64 0)).run Tryd.prog w = .ok (.slice (some ⟨w.heap.size, 0, none⟩) 0 0) (w.alloc (.cells (madeCells #[.int .u8 0] 0) 5)) :=
    fun w => run_make_row' (P := Tryd.prog) 22 5 (.int .u8 0) 1 Tryd.underlying22 info5 rfl .i64 .i64 0 (by omega) (by omega) w
  have heq := fun w => Lib.run_eql_slice_nil (P := Tryd.prog) w 22 5 (some x) 0 c 0 0 Tryd.underlying22
  go_enter Tryd.func5, Tryd.ntmps5
  go_wp2_with fail
  refine wp_loop_rounds 1 ?_
  rw [rounds_succ]
  go_wp2_with fail
  go_ret
  exact ⟨rfl, rfl⟩
end Go.Proofs.Qxb6613453aDoor
