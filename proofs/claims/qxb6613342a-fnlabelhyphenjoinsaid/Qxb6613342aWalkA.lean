import Derived.Test.Qxb6613342aRows
import Derived.Test.Qxb6613342aLab
import Derived.WalkKit
import Derived.WalkSpells
import Derived.WalkLawsBesides
import Derived.Lib.OthersKept
import Derived.Deep.LoopGhost
namespace Go.Proofs.Qxb6613342a
open Go.RowKit
set_option maxHeartbeats 400000 in
theorem alnum_any (r : Int) (w : World) :
    Calls Try.prog 19 #[.int .i32 r] w fun e w' => e = .returned (.bool (Lab.alnumB r)) ∧ w' = w := by
  by_cases h1 : 97 ≤ r <;> by_cases h2 : r ≤ 122 <;> by_cases h3 : 65 ≤ r <;> by_cases h4 : r ≤ 90 <;> by_cases h5 : 48 ≤ r <;> by_cases h6 : r ≤ 57
  all_goals first
    | (exfalso; omega)
    | skip
  all_goals
    go_enter Try.func19, Try.ntmps19
    go_wp2
    go_ret
    exact ⟨by simp [Lab.alnumB, *]; try omega, rfl⟩
set_option maxHeartbeats 400000 in
theorem notLab_any (r : Int) (w : World) :
    Calls Try.prog 16 #[.int .i32 r] w fun e w' => e = .returned (.bool (Lab.notLabB r)) ∧ w' = w := by
  cases ha : Lab.alnumB r
  · go_enter Try.func16, Try.ntmps16
    go_wp2_with (go_at_call 19; refine (alnum_any _ _).mono ?_; rintro e w' ⟨rfl, rfl⟩)
    go_ret
    exact ⟨by simp [Lab.notLabB, ha], rfl⟩
  · go_enter Try.func16, Try.ntmps16
    go_wp2_with (go_at_call 19; refine (alnum_any _ _).mono ?_; rintro e w' ⟨rfl, rfl⟩)
    go_ret
    exact ⟨by simp [Lab.notLabB, ha], rfl⟩
set_option maxHeartbeats 400000 in
theorem zzNotLab_any (r : Int) (w : World) :
    Calls Try.prog 12 #[.int .i32 r] w fun e w' => e = .returned (.bool (Lab.notLabB r)) ∧ w' = w := by
  go_enter Try.func12, Try.ntmps12
  go_wp2_with (go_at_call 16; refine (notLab_any _ _).mono ?_; rintro e w' ⟨rfl, rfl⟩)
  go_ret
  exact ⟨rfl, rfl⟩

/-- strings.indexFunc at isNotLabelChar: below 0 just where every byte is a label character's. -/
def IdxOk (s : ByteArray) (r : Int) : Prop := (∀ i, i < s.size → Lab.okByte (s.get! i) = true) ↔ r < 0

set_option maxHeartbeats 1000000 in
theorem idx_any (s : ByteArray) (w : World) :
    Calls Try.prog 21 #[.string s, .func (.func 16) #[] #[], .bool true] w fun e w' => (∃ r, e = .returned (.int .i64 r) ∧ IdxOk s r) ∧ Below w.heap.size w w' := by
  go_enter Try.func21, Try.ntmps21
  go_wp2
  go_loopg [] s.size (fun gf wx => ∃ pos : Nat, wx.heap[w.heap.size]? = some (.stringIter s pos) ∧ Below w.heap.size w wx ∧ (∀ i, i < pos → i < s.size → Lab.okByte (s.get! i) = true) ∧ s.size ≤ pos + gf)
  case atStart => exact ⟨0, World.iter_heap w s 0, (Below.refl _ w).alloc (Nat.le_refl _) _, fun i hi => by omega, by omega⟩
  case round =>
    obtain ⟨pos, hit, hbw, hok, hfu⟩ := hrel
    have HOK : Hid (∀ i, i < pos → i < s.size → Lab.okByte (s.get! i) = true) := hok
    clear hok
    by_cases hps : pos < s.size
    · obtain ⟨g', rfl⟩ : ∃ g', gk = g' + 1 := ⟨gk - 1, by omega⟩
      have hnx : ∀ ty, (Instr.next (.pointer (some ⟨w.heap.size, 0, none⟩)) true ty).run Try.prog wr = _ := fun ty => Lib.run_next_any_at wr w.heap.size s pos ty hit hps
      have hl := Lab.decode_lab s pos
      have hwd := Lab.decode_width s pos
      obtain ⟨R, hR⟩ : ∃ R, (Utf8.decode s pos).1 = R := ⟨_, rfl⟩
      obtain ⟨K, hK⟩ : ∃ K, (Utf8.decode s pos).2 = K := ⟨_, rfl⟩
      rw [hR, hK] at hnx
      rw [hK] at hwd
      rw [hR] at hl
      clear hR hK
      have hit2 := Lib.iterAt_heap wr w.heap.size s pos (pos + K) hit
      have hbw2 := Lib.below_iterAt hbw (k := w.heap.size) (Nat.le_refl _) s (pos + K)
      obtain ⟨W, hWd⟩ : ∃ W, wr.iterAt w.heap.size s (pos + K) = W := ⟨_, rfl⟩
      rw [hWd] at hnx hit2 hbw2
      have HL : Hid (Lab.notLabB ↑R = !Lab.okByte (s.get! pos)) := hl
      have HW : Hid (Lab.okByte (s.get! pos) = true → K = 1) := hwd
      clear hl hwd
      cases hsp : Lab.notLabB (R : Int)
      · go_wp2_with (go_at_call 16; refine (notLab_any _ _).mono ?_; rintro e W' ⟨rfl, rfl⟩)
        have hb : Lab.okByte (s.get! pos) = true := by have := HL.out; rw [hsp] at this; simpa using this
        obtain rfl := HW.out hb
        go_roundg g'
        case measure => omega
        case rel => exact ⟨pos + 1, hit2, hbw2, fun i hi his => by
          by_cases he : i = pos
          · rw [he]; exact hb
          · exact HOK.out i (by omega) his, by omega⟩
      · go_wp2_with (go_at_call 16; refine (notLab_any _ _).mono ?_; rintro e W' ⟨rfl, rfl⟩)
        have hb : Lab.okByte (s.get! pos) = false := by have := HL.out; rw [hsp] at this; simpa using this.symm
        go_ret
        refine ⟨⟨_, rfl, ?_⟩, hbw2⟩
        constructor
        · intro h; rw [h pos hps] at hb; cases hb
        · intro h; omega
    · have hnx : ∀ ty, (Instr.next (.pointer (some ⟨w.heap.size, 0, none⟩)) true ty).run Try.prog wr = _ := fun ty => Lib.run_next_end_at wr w.heap.size s pos ty hit hps
      go_wp2
      go_ret
      refine ⟨⟨_, rfl, ?_⟩, hbw⟩
      constructor
      · intro h; omega
      · intro _ i hi; exact HOK.out i (by omega) hi

set_option maxHeartbeats 400000 in
theorem idx2_any (s : ByteArray) (w : World) :
    Calls Try.prog 18 #[.string s, .func (.func 16) #[] #[]] w fun e w' => (∃ r, e = .returned (.int .i64 r) ∧ IdxOk s r) ∧ Below w.heap.size w w' := by
  go_enter Try.func18, Try.ntmps18
  go_wp2_with (go_at_call 21; refine (idx_any _ _).mono ?_; rintro e w1 ⟨⟨r, rfl, hr⟩, hb⟩)
  go_ret
  exact ⟨⟨_, rfl, hr⟩, hb⟩
end Go.Proofs.Qxb6613342a
