/-
  THE WALK of repairLabel (function 8).
-/
import Derived.Test.Qxb6613342aLabL
import Derived.Deep.OwnRows
import Derived.Lib.SlBytesRow
namespace Go.Proofs.Qxb6613342a
open Go.RowKit
theorem info5 : (Try.prog.info? 5).map (fun i => (i.zero, i.size, i.bytes)) = some (some (.int .u8 0), 1, 1) := by kernel_rfl
def fixAt (s : ByteArray) (i : Nat) : UInt8 := if Lab.okByte (s.get! i) then s.get! i else 97
def midAt (s : ByteArray) (i : Nat) : UInt8 := if i = 0 ∧ fixAt s 0 = 45 then 97 else fixAt s i
/-- The byte that repairLabel leaves at place i of n. -/
def finAt (s : ByteArray) (n i : Nat) : UInt8 := if i = n - 1 ∧ midAt s (n - 1) = 45 then 97 else midAt s i
def repS (s : ByteArray) (n : Nat) : ByteArray := ⟨((List.range n).map (finAt s n)).toArray⟩

theorem rep_size (s : ByteArray) (n : Nat) : (repS s n).size = n := by simp [repS, ByteArray.size]

theorem bytes_rep {wx : World} {B n : Nat} {s : ByteArray} (h : wx.rowIs B 5 n (fun j => .int .u8 (finAt s n j).toNat)) : Lib.Bytes wx B 0 (repS s n) := by
  intro i hi
  have hs := rep_size s n
  have := h.cell (i := i) (by omega)
  rw [Nat.zero_add, this]
  have e : (repS s n)[i] = finAt s n i := by
    exact (show ((List.range n).map (finAt s n)).toArray[i]'(by rw [List.size_toArray, List.length_map, List.length_range]; omega) = finAt s n i by simp)
  rw [e]

theorem conv_rep {wx : World} {B n : Nat} {s : ByteArray} (h : wx.rowIs B 5 n (fun j => .int .u8 (finAt s n j).toNat)) :
    (convert 26 9 (.slice (some ⟨B, 0, none⟩) n n)).run Try.prog wx = .ok (.string (repS s n)) wx := by
  have := Lib.run_convert_whole (P := Try.prog) wx 26 5 9 Try.underlying26 Try.underlying5 Try.underlying9 B 0 (repS s n) (bytes_rep h) n
  rwa [rep_size] at this

theorem byteEq (b : UInt8) (h : ¬ b = 45) : ((b.toNat : Int) == 45) = false := by
  rw [beq_eq_false_iff_ne]
  intro e
  exact h (UInt8.toNat_inj.1 (by rw [show b.toNat = 45 by omega]; rfl))
theorem byteEq' (b : UInt8) (h : b = 45) : (b.toNat : Int) = 45 := by rw [h]; rfl

/-! What the row holds behind each of the two stores that mend the ends. -/
theorem mid_no {wx : World} {B n : Nat} {s : ByteArray} (h : wx.rowIs B 5 n (fun j => .int .u8 ((fixAt s j).toNat : Int))) (hz : ¬ fixAt s 0 = 45) : wx.rowIs B 5 n (fun j => .int .u8 ((midAt s j).toNat : Int)) :=
  h.congr fun j _ => by simp [midAt, hz]
theorem mid_yes {wx : World} {B n : Nat} {s : ByteArray} (h : wx.rowIs B 5 n (fun j => .int .u8 ((fixAt s j).toNat : Int))) (hz : fixAt s 0 = 45) : (wx.setCell ⟨B, 0, none⟩ (.int .u8 97)).rowIs B 5 n (fun j => .int .u8 ((midAt s j).toNat : Int)) :=
  (h.set 0 (.int .u8 97)).congr fun j _ => by
    by_cases e : j = 0
    · subst e; simp [midAt, hz]
    · simp [midAt, e]
theorem fin_no {wx : World} {B n : Nat} {s : ByteArray} (h : wx.rowIs B 5 n (fun j => .int .u8 ((midAt s j).toNat : Int))) (hz : ¬ midAt s (n - 1) = 45) : wx.rowIs B 5 n (fun j => .int .u8 ((finAt s n j).toNat : Int)) :=
  h.congr fun j _ => by simp [finAt, hz]
theorem fin_yes {wx : World} {B n : Nat} {s : ByteArray} (h : wx.rowIs B 5 n (fun j => .int .u8 ((midAt s j).toNat : Int))) (hz : midAt s (n - 1) = 45) : (wx.setCell ⟨B, n - 1, none⟩ (.int .u8 97)).rowIs B 5 n (fun j => .int .u8 ((finAt s n j).toNat : Int)) :=
  (h.set (n - 1) (.int .u8 97)).congr fun j _ => by
    by_cases e : j = n - 1
    · subst e; simp [finAt, hz]
    · simp [finAt, e]
theorem start_row {wx : World} {B n : Nat} {s : ByteArray} (h : wx.rowIs B 5 n (fun _ => .int .u8 0)) : wx.rowIs B 5 n (fun j => .int .u8 (if j < 0 then ((fixAt s j).toNat : Int) else 0)) :=
  h.congr fun j _ => by simp
theorem step_row {wx : World} {B n k : Nat} {s : ByteArray} (h : wx.rowIs B 5 n (fun j => .int .u8 (if j < k then ((fixAt s j).toNat : Int) else 0))) (v : Int) (hv : v = ((fixAt s k).toNat : Int)) :
    (wx.setCell ⟨B, k, none⟩ (.int .u8 v)).rowIs B 5 n (fun j => .int .u8 (if j < k + 1 then ((fixAt s j).toNat : Int) else 0)) :=
  (h.set k _).congr fun j _ => by
    by_cases e : j = k
    · subst e; simp [hv]
    · by_cases h2 : j < k
      · simp [e, h2, show j < k + 1 by omega]
      · simp [e, h2, show ¬ j < k + 1 by omega]
theorem fix_no (s : ByteArray) (k : Nat) (hk : k < s.size) (h : Lab.okByte s[k] = false) : (97 : Int) = ((fixAt s k).toNat : Int) := by
  simp [fixAt, Lab.get_eq s k hk, h]
theorem fix_yes (s : ByteArray) (k : Nat) (hk : k < s.size) (h : Lab.okByte s[k] = true) : (s[k].toNat : Int) = ((fixAt s k).toNat : Int) := by
  simp [fixAt, Lab.get_eq s k hk, h]

set_option maxHeartbeats 1000000 in
theorem rep_short (s : ByteArray) (w : World) (h0 : 0 < s.size) (h63 : s.size ≤ 63) :
    Calls Try.prog 8 #[.string s] w fun e w' => e = .returned (.string (repS s s.size)) ∧ Below w.heap.size w w' := by
  have hmk := run_make_row' (P := Try.prog) 26 5 (.int .u8 0) 1 Try.underlying26 info5 rfl .i64 .i64 s.size (by omega) (by omega)
  have hb1 : ((s.size : Int) == 0) = false := by rw [beq_eq_false_iff_ne]; omega
  go_enter Try.func8, Try.ntmps8
  go_wp2_with fail
  go_loopg [5, 6] s.size (fun gf i c wr => ∃ k : Nat, k + gf = s.size ∧ i = .int .i64 k ∧ wr.rowIs w.heap.size 5 s.size (fun j => .int .u8 (if j < k then ((fixAt s j).toNat : Int) else 0)) ∧ Below w.heap.size w wr)
  case atStart => exact ⟨0, by omega, rfl, start_row (World.rowIs_made w (.int .u8 0) s.size 5), (Below.refl _ _).alloc (Nat.le_refl _) _⟩
  case round =>
    obtain ⟨k, hk0, rfl, hrow, hbel⟩ := hrel
    have hk : k ≤ s.size := by omega
    have HK : Hid (k + gk = s.size) := hk0
    clear hk0
    by_cases hlt : k < s.size
    · have hls : k < s.size := by omega
      have hfz := hrow.frozen k
      have hcl := hrow.cell hlt
      have hw : Hid (Lab.notLabB (wrap32 (s[k].toNat : Int)) = !Lab.okByte s[k]) := notLab_wrap _
      go_wp2_with (go_at_call 12; refine (zzNotLab_any _ _).mono ?_; rintro e w' ⟨rfl, rfl⟩)
      · have hb : Lab.okByte s[k] = false := by have h := hw.out; simp_all
        go_roundg (gk - 1)
        case rel => exact ⟨k + 1, by have := HK.out; omega, by go_num, step_row hrow _ (fix_no s k hls hb), hbel.setCell (Nat.le_refl _) _⟩
        case measure => have := HK.out; omega
      · have hb : Lab.okByte s[k] = true := by have h := hw.out; simp_all
        go_roundg (gk - 1)
        case rel => exact ⟨k + 1, by have := HK.out; omega, by go_num, step_row hrow _ (fix_yes s k hls hb), hbel.setCell (Nat.le_refl _) _⟩
        case measure => have := HK.out; omega
    · obtain rfl : k = s.size := by omega
      have hrow1 := hrow.congr (g := fun j => .int .u8 ((fixAt s j).toNat : Int)) (fun j hj => by simp [hj])
      clear hrow
      have hc0 := hrow1.cell (i := 0) (by omega)
      have hf0 := hrow1.frozen 0
      have hf1 := hrow1.frozen (s.size - 1)
      by_cases hz : fixAt s 0 = 45
      · have hrow2 := mid_yes hrow1 hz
        have hcn := hrow2.cell (i := s.size - 1) (by omega)
        rw [byteEq' _ hz] at hc0
        clear hrow1
        by_cases hy : midAt s (s.size - 1) = 45
        · have hcv := conv_rep (fin_yes hrow2 hy)
          rw [byteEq' _ hy] at hcn
          clear hrow2 hz hy
          go_wp2_with fail
          go_ret
          exact ⟨rfl, (hbel.setCell (Nat.le_refl _) _).setCell (Nat.le_refl _) _⟩
        · have hcv := conv_rep (fin_no hrow2 hy)
          have hy' := byteEq _ hy
          clear hrow2 hz hy
          go_wp2_with fail
          go_ret
          exact ⟨rfl, hbel.setCell (Nat.le_refl _) _⟩
      · have hrow2 := mid_no hrow1 hz
        have hcn := hrow2.cell (i := s.size - 1) (by omega)
        have hz' := byteEq _ hz
        clear hrow1
        by_cases hy : midAt s (s.size - 1) = 45
        · have hcv := conv_rep (fin_yes hrow2 hy)
          rw [byteEq' _ hy] at hcn
          clear hrow2 hz hy
          go_wp2_with fail
          go_ret
          exact ⟨rfl, hbel.setCell (Nat.le_refl _) _⟩
        · have hcv := conv_rep (fin_no hrow2 hy)
          have hy' := byteEq _ hy
          clear hrow2 hz hy
          go_wp2_with fail
          go_ret
          exact ⟨rfl, hbel⟩

set_option maxHeartbeats 1000000 in
theorem rep_long (s : ByteArray) (w : World) (h63 : 63 < s.size) :
    Calls Try.prog 8 #[.string s] w fun e w' => e = .returned (.string (repS s 63)) ∧ Below w.heap.size w w' := by
  have hmk : ∀ w : World, (Instr.makeSlice 26 (.int .i64 63) (.int .i64 63)).run Try.prog w = .ok (.slice (some ⟨w.heap.size, 0, none⟩) 63 63) (w.alloc (.cells (madeCells #[.int .u8 0] 63) 5)) :=
    fun w => run_make_row' (P := Try.prog) 26 5 (.int .u8 0) 1 Try.underlying26 info5 rfl .i64 .i64 63 (by omega) (by omega) w
  have hb0 : decide ((63 : Int) < (s.size : Int)) = true := by rw [decide_eq_true_eq]; omega
  go_enter Try.func8, Try.ntmps8
  go_wp2_with fail
  go_loopg [5, 6] 63 (fun gf i c wr => ∃ k : Nat, k + gf = 63 ∧ i = .int .i64 k ∧ wr.rowIs w.heap.size 5 63 (fun j => .int .u8 (if j < k then ((fixAt s j).toNat : Int) else 0)) ∧ Below w.heap.size w wr)
  case atStart => exact ⟨0, by omega, rfl, start_row (World.rowIs_made w (.int .u8 0) 63 5), (Below.refl _ _).alloc (Nat.le_refl _) _⟩
  case round =>
    obtain ⟨k, hk0, rfl, hrow, hbel⟩ := hrel
    have hk : k ≤ 63 := by omega
    have HK : Hid (k + gk = 63) := hk0
    clear hk0
    by_cases hlt : k < 63
    · have hls : k < s.size := by omega
      have hfz := hrow.frozen k
      have hcl := hrow.cell hlt
      have hw : Hid (Lab.notLabB (wrap32 (s[k].toNat : Int)) = !Lab.okByte s[k]) := notLab_wrap _
      go_wp2_with (go_at_call 12; refine (zzNotLab_any _ _).mono ?_; rintro e w' ⟨rfl, rfl⟩)
      · have hb : Lab.okByte s[k] = false := by have h := hw.out; simp_all
        go_roundg (gk - 1)
        case rel => exact ⟨k + 1, by have := HK.out; omega, by go_num, step_row hrow _ (fix_no s k hls hb), hbel.setCell (Nat.le_refl _) _⟩
        case measure => have := HK.out; omega
      · have hb : Lab.okByte s[k] = true := by have h := hw.out; simp_all
        go_roundg (gk - 1)
        case rel => exact ⟨k + 1, by have := HK.out; omega, by go_num, step_row hrow _ (fix_yes s k hls hb), hbel.setCell (Nat.le_refl _) _⟩
        case measure => have := HK.out; omega
    · obtain rfl : k = 63 := by omega
      have hrow1 := hrow.congr (g := fun j => .int .u8 ((fixAt s j).toNat : Int)) (fun j hj => by simp [hj])
      clear hrow
      have hc0 := hrow1.cell (i := 0) (by omega)
      have hf0 := hrow1.frozen 0
      have hf1 := hrow1.frozen (62)
      by_cases hz : fixAt s 0 = 45
      · have hrow2 := mid_yes hrow1 hz
        have hcn := hrow2.cell (i := 62) (by omega)
        rw [byteEq' _ hz] at hc0
        clear hrow1
        by_cases hy : midAt s (62) = 45
        · have hcv := conv_rep (fin_yes hrow2 hy)
          rw [byteEq' _ hy] at hcn
          clear hrow2 hz hy
          go_wp2_with fail
          go_ret
          exact ⟨rfl, (hbel.setCell (Nat.le_refl _) _).setCell (Nat.le_refl _) _⟩
        · have hcv := conv_rep (fin_no hrow2 hy)
          have hy' := byteEq _ hy
          clear hrow2 hz hy
          go_wp2_with fail
          go_ret
          exact ⟨rfl, hbel.setCell (Nat.le_refl _) _⟩
      · have hrow2 := mid_no hrow1 hz
        have hcn := hrow2.cell (i := 62) (by omega)
        have hz' := byteEq _ hz
        clear hrow1
        by_cases hy : midAt s (62) = 45
        · have hcv := conv_rep (fin_yes hrow2 hy)
          rw [byteEq' _ hy] at hcn
          clear hrow2 hz hy
          go_wp2_with fail
          go_ret
          exact ⟨rfl, hbel.setCell (Nat.le_refl _) _⟩
        · have hcv := conv_rep (fin_no hrow2 hy)
          have hy' := byteEq _ hy
          clear hrow2 hz hy
          go_wp2_with fail
          go_ret
          exact ⟨rfl, hbel⟩

/-- What repairLabel makes of s. -/
def repair (s : ByteArray) : ByteArray := if s.size = 0 then ⟨#[97]⟩ else repS s (min s.size 63)

set_option maxHeartbeats 400000 in
theorem repair_any (s : ByteArray) (w : World) :
    Calls Try.prog 8 #[.string s] w fun e w' => e = .returned (.string (repair s)) ∧ Below w.heap.size w w' := by
  by_cases h0 : s.size = 0
  · have e : repair s = ⟨#[97]⟩ := by simp only [repair, h0, if_true]
    rw [e]
    have hb1 : ((s.size : Int) == 0) = true := by rw [beq_iff_eq]; omega
    clear e
    go_enter Try.func8, Try.ntmps8
    go_wp2_with fail
    go_ret
    exact ⟨rfl, Below.refl _ _⟩
  · unfold repair
    rw [if_neg h0]
    by_cases h63 : s.size ≤ 63
    · rw [Nat.min_eq_left h63]; exact rep_short s w (by omega) h63
    · rw [Nat.min_eq_right (by omega)]; exact rep_long s w (by omega)
end Go.Proofs.Qxb6613342a
