/-
  THE WALKS of the getters, nodeElem, ZZNoMember, ZZNewMember.
-/
import Derived.Test.Qxb6613283aTin
namespace Go.Proofs.Qxb6613283a
open Go.RowKit

/-- An element's cells, zero. -/
def ZE : Array Value := #[.int .u8 0, .int .i64 0, .string ByteArray.empty, .slice none 0 0, .int .i64 0, .int .i64 0, .bool false, .int .u64 0]

set_option maxHeartbeats 2000000 in
set_option maxRecDepth 100000 in
theorem get_22 (w : World) (b : Nat) (v : Int) (h : w.cell? ⟨b, 2, none⟩ = some (.int .i32 v)) : Calls Try.prog 22 #[.pointer (some ⟨b, 0, none⟩)] w fun e w' => e = .returned (.int .i32 v) ∧ w' = w := by
  go_enter Try.func22, Try.ntmps22
  go_wp2_with fail
  go_ret
  exact ⟨rfl, rfl⟩
set_option maxHeartbeats 2000000 in
set_option maxRecDepth 100000 in
theorem get_23 (w : World) (b : Nat) (v : Int) (h : w.cell? ⟨b, 3, none⟩ = some (.int .i32 v)) : Calls Try.prog 23 #[.pointer (some ⟨b, 0, none⟩)] w fun e w' => e = .returned (.int .i32 v) ∧ w' = w := by
  go_enter Try.func23, Try.ntmps23
  go_wp2_with fail
  go_ret
  exact ⟨rfl, rfl⟩
set_option maxHeartbeats 2000000 in
set_option maxRecDepth 100000 in
theorem get_24 (w : World) (b : Nat) (v : Int) (h : w.cell? ⟨b, 6, none⟩ = some (.int .i64 v)) : Calls Try.prog 24 #[.pointer (some ⟨b, 0, none⟩)] w fun e w' => e = .returned (.int .i64 v) ∧ w' = w := by
  go_enter Try.func24, Try.ntmps24
  go_wp2_with fail
  go_ret
  exact ⟨rfl, rfl⟩
set_option maxHeartbeats 2000000 in
set_option maxRecDepth 100000 in
theorem get_25 (w : World) (b : Nat) (v : Int) (h : w.cell? ⟨b, 7, none⟩ = some (.int .u64 v)) : Calls Try.prog 25 #[.pointer (some ⟨b, 0, none⟩)] w fun e w' => e = .returned (.int .u64 v) ∧ w' = w := by
  go_enter Try.func25, Try.ntmps25
  go_wp2_with fail
  go_ret
  exact ⟨rfl, rfl⟩
set_option maxHeartbeats 2000000 in
set_option maxRecDepth 100000 in
theorem get_27 (w : World) (b : Nat) (v : Int) (h : w.cell? ⟨b, 1, none⟩ = some (.int .i32 v)) : Calls Try.prog 27 #[.pointer (some ⟨b, 0, none⟩)] w fun e w' => e = .returned (.int .i32 v) ∧ w' = w := by
  go_enter Try.func27, Try.ntmps27
  go_wp2_with fail
  go_ret
  exact ⟨rfl, rfl⟩
set_option maxHeartbeats 2000000 in
set_option maxRecDepth 100000 in
theorem get_28 (w : World) (b : Nat) (v : Option Addr) (h : w.cell? ⟨b, 4, none⟩ = some (.pointer v)) : Calls Try.prog 28 #[.pointer (some ⟨b, 0, none⟩)] w fun e w' => e = .returned (.pointer v) ∧ w' = w := by
  go_enter Try.func28, Try.ntmps28
  go_wp2_with fail
  go_ret
  exact ⟨rfl, rfl⟩
set_option maxHeartbeats 2000000 in
set_option maxRecDepth 100000 in
theorem get_29 (w : World) (b : Nat) (v : Option Addr) (h : w.cell? ⟨b, 5, none⟩ = some (.pointer v)) : Calls Try.prog 29 #[.pointer (some ⟨b, 0, none⟩)] w fun e w' => e = .returned (.pointer v) ∧ w' = w := by
  go_enter Try.func29, Try.ntmps29
  go_wp2_with fail
  go_ret
  exact ⟨rfl, rfl⟩
set_option maxHeartbeats 2000000 in
set_option maxRecDepth 100000 in
theorem get_42 (w : World) (b p : Nat) (v : Int) (hp : w.cell? ⟨b, 0, none⟩ = some (.pointer (some ⟨p, 0, none⟩))) (h : w.cell? ⟨p, 4, none⟩ = some (.int .i64 v)) : Calls Try.prog 42 #[.pointer (some ⟨b, 0, none⟩)] w fun e w' => e = .returned (.int .i64 v) ∧ w' = w := by
  go_enter Try.func42, Try.ntmps42
  go_wp2_with fail
  go_ret
  exact ⟨rfl, rfl⟩
set_option maxHeartbeats 2000000 in
set_option maxRecDepth 100000 in
theorem get_43 (w : World) (b p : Nat) (v : Int) (hp : w.cell? ⟨b, 0, none⟩ = some (.pointer (some ⟨p, 0, none⟩))) (h : w.cell? ⟨p, 5, none⟩ = some (.int .i64 v)) : Calls Try.prog 43 #[.pointer (some ⟨b, 0, none⟩)] w fun e w' => e = .returned (.int .i64 v) ∧ w' = w := by
  go_enter Try.func43, Try.ntmps43
  go_wp2_with fail
  go_ret
  exact ⟨rfl, rfl⟩
set_option maxHeartbeats 2000000 in
set_option maxRecDepth 100000 in
theorem get_44 (w : World) (b p : Nat) (v : Bool) (hp : w.cell? ⟨b, 0, none⟩ = some (.pointer (some ⟨p, 0, none⟩))) (h : w.cell? ⟨p, 6, none⟩ = some (.bool v)) : Calls Try.prog 44 #[.pointer (some ⟨b, 0, none⟩)] w fun e w' => e = .returned (.bool v) ∧ w' = w := by
  go_enter Try.func44, Try.ntmps44
  go_wp2_with fail
  go_ret
  exact ⟨rfl, rfl⟩
set_option maxHeartbeats 2000000 in
set_option maxRecDepth 100000 in
theorem get_45 (w : World) (b p : Nat) (v : Int) (hp : w.cell? ⟨b, 0, none⟩ = some (.pointer (some ⟨p, 0, none⟩))) (h : w.cell? ⟨p, 7, none⟩ = some (.int .u64 v)) : Calls Try.prog 45 #[.pointer (some ⟨b, 0, none⟩)] w fun e w' => e = .returned (.int .u64 v) ∧ w' = w := by
  go_enter Try.func45, Try.ntmps45
  go_wp2_with fail
  go_ret
  exact ⟨rfl, rfl⟩
set_option maxHeartbeats 2000000 in
set_option maxRecDepth 100000 in
theorem get_41 (w : World) (b p : Nat) (k i : Int) (s : ByteArray) (A : Option Addr) (len cap : Nat) (hp : w.cell? ⟨b, 0, none⟩ = some (.pointer (some ⟨p, 0, none⟩))) (h0 : w.cell? ⟨p, 0, none⟩ = some (.int .u8 k)) (h1 : w.cell? ⟨p, 1, none⟩ = some (.int .i64 i)) (h2 : w.cell? ⟨p, 2, none⟩ = some (.string s)) (h3 : w.cell? ⟨p, 3, none⟩ = some (.slice A len cap)) (hlb : b < w.heap.size) (hlp : p < w.heap.size) :
    Calls Try.prog 41 #[.pointer (some ⟨b, 0, none⟩)] w fun e w' => e = .returned (.agg #[.int .u8 k, .int .i64 i, .string s, .slice A len cap]) ∧ Below w.heap.size w w' := by
  go_enter Try.func41, Try.ntmps41
  go_wp2_with fail
  refine bodyPost_ret (v := .agg #[.int .u8 k, .int .i64 i, .string s, .slice A len cap]) (by simp [results, Try.results41, go_sem]) rfl ⟨rfl, alloc_below _ _⟩
set_option maxHeartbeats 2000000 in
set_option maxRecDepth 100000 in
theorem noMember_7 (w : World) : Calls Try.prog 7 #[] w fun e w' => e = .returned (.pointer none) ∧ w' = w := by
  go_enter Try.func7, Try.ntmps7
  go_wp2_with fail
  go_ret
  exact ⟨rfl, rfl⟩
set_option maxHeartbeats 2000000 in
set_option maxRecDepth 100000 in
theorem newMember_9 (w : World) (S : Nat → Prop) (n : Nat) (cs : Array Value) (e : El) (hv : VIn w S lim n cs e.K e.F) (hS : ∀ k, S k → k < w.heap.size) :
    Calls Try.prog 9 #[.agg cs, .int .i64 e.start, .int .i64 e.fin, .bool e.pend, .int .u64 e.hv] w fun r w' => r = .returned (.pointer (some ⟨w.heap.size + 2, 0, none⟩)) ∧
      w'.heap[w.heap.size + 2]? = some (.cells (MC (w.heap.size + 1) 1 0 0 (.pointer none) (.pointer none) 0 0) 51) ∧ EAt w' (fun k => S k ∨ k = w.heap.size + 1) (w.heap.size + 1) e ∧ w'.heap.size = w.heap.size + 3 ∧ Below w.heap.size w w' := by
  obtain ⟨k, i, s, A, len, cap, rfl⟩ := hv.shape
  go_enter Try.func9, Try.ntmps9
  go_wp2_with fail
  go_ret
  have b1 : ∀ o o' o'', Below w.heap.size w (((w.alloc o).alloc o').alloc o'') := fun o o' o'' => ((alloc_below w o).alloc (by simp) o').alloc (by simp; omega) o''
  refine ⟨rfl, ?_, ⟨_, ?_, .inr rfl, n, k, i, s, A, len, cap, rfl, VIn.frame (fun k hk => (b1 _ _ _).block k (hS k hk)) (fun _ h => .inl h) (fun _ h => h) n _ _ _ hv⟩, ?_, b1 _ _ _⟩
  · have := alloc_at ((w.alloc (.cells #[.int .u8 k, .int .i64 i, .string s, .slice A len cap] 38)).alloc (.cells #[.int .u8 k, .int .i64 i, .string s, .slice A len cap, .int .i64 e.start, .int .i64 e.fin, .bool e.pend, .int .u64 e.hv] 49)) (.cells (MC (w.heap.size + 1) 1 0 0 (.pointer none) (.pointer none) 0 0) 51)
    simp only [World.alloc, Array.size_push] at this ⊢
    exact this
  · refine (Below.heap_alloc _ _ _ (by simp)).trans ?_
    have := alloc_at (w.alloc (.cells #[.int .u8 k, .int .i64 i, .string s, .slice A len cap] 38)) (.cells #[.int .u8 k, .int .i64 i, .string s, .slice A len cap, .int .i64 e.start, .int .i64 e.fin, .bool e.pend, .int .u64 e.hv] 49)
    simp only [World.alloc, Array.size_push] at this ⊢
    exact this
  · simp only [World.alloc, Array.size_push]
set_option maxHeartbeats 2000000 in
set_option maxRecDepth 100000 in
theorem nodeElem_26 (w : World) (S : Nat → Prop) (b p : Nat) (e : El) (hp : w.cell? ⟨b, 0, none⟩ = some (.pointer (some ⟨p, 0, none⟩))) (he : EAt w S p e) (hS : ∀ k, S k → k < w.heap.size) (hlb : b < w.heap.size) :
    Calls Try.prog 26 #[.pointer (some ⟨b, 0, none⟩)] w fun r w' => (∃ cs, r = .returned (.agg cs) ∧ EIn w' (fun k => w.heap.size ≤ k ∧ k < w'.heap.size) cs e) ∧ Below w.heap.size w w' := by
  have hlp := he.lt
  have HT : Hid (w.cell? ⟨p, 4, none⟩ = some (.int .i64 e.start) ∧ w.cell? ⟨p, 5, none⟩ = some (.int .i64 e.fin) ∧ w.cell? ⟨p, 6, none⟩ = some (.bool e.pend) ∧ w.cell? ⟨p, 7, none⟩ = some (.int .u64 e.hv)) := he.tail
  obtain ⟨cs, h1, _, n, k, i, s, A, len, cap, rfl, hv⟩ := he
  have HP : Hid (w.cell? ⟨b, 0, none⟩ = some (.pointer (some ⟨p, 0, none⟩)) ∧ w.cell? ⟨p, 0, none⟩ = some (.int .u8 k) ∧ w.cell? ⟨p, 1, none⟩ = some (.int .i64 i) ∧ w.cell? ⟨p, 2, none⟩ = some (.string s) ∧ w.cell? ⟨p, 3, none⟩ = some (.slice A len cap)) :=
    ⟨hp, by rw [bcell h1]; rfl, by rw [bcell h1]; rfl, by rw [bcell h1]; rfl, by rw [bcell h1]; rfl⟩
  have HV : Hid (VIn w S lim n #[.int .u8 k, .int .i64 i, .string s, .slice A len cap] e.K e.F) := hv
  clear hv hp h1
  have hc : ∀ {W : World}, Below w.heap.size w W → ∀ {q o : Nat}, q < w.heap.size → W.cell? ⟨q, o, none⟩ = w.cell? ⟨q, o, none⟩ := fun h _ _ hq => World.cell?_of_block (h.block _ hq)
  go_enter Try.func26, Try.ntmps26
  go_wp2_with fail
  generalize hw1 : w.alloc _ = w1
  have hb1 : Below w.heap.size w w1 := by rw [← hw1]; exact alloc_below _ _
  have hr1 : w1.heap[w.heap.size]? = some (.cells ZE 32) := by rw [← hw1]; exact alloc_at _ _
  clear hw1
  refine (get_41 w1 b p k i s A len cap ((hc hb1 hlb).trans HP.out.1) ((hc hb1 hlp).trans HP.out.2.1) ((hc hb1 hlp).trans HP.out.2.2.1) ((hc hb1 hlp).trans HP.out.2.2.2.1) ((hc hb1 hlp).trans HP.out.2.2.2.2) (Nat.lt_of_lt_of_le hlb hb1.size) (Nat.lt_of_lt_of_le hlp hb1.size)).mono ?_
  rintro r w2 ⟨rfl, hb2⟩
  have hb2' := hb1.trans (hb2.mono hb1.size)
  go_wp2_with fail
  refine (fromValue_40 n w2 S _ e.K e.F (VIn.frame (fun k hk => hb2'.block k (hS k hk)) (fun _ h => h) (fun _ h => h) n _ _ _ HV.out) (fun k hk => Nat.lt_of_lt_of_le (hS k hk) hb2'.size)).mono ?_
  rintro r w3 ⟨⟨cs', rfl, hv⟩, hb3⟩
  have hb3' := hb2'.trans (hb3.mono hb2'.size)
  have hr3 : w3.heap[w.heap.size]? = some (.cells ZE 32) := (hb3.block _ (Nat.lt_of_lt_of_le (blt hr1) hb2.size)).trans ((hb2.block _ (blt hr1)).trans hr1)
  obtain ⟨k', i', s', A', len', cap', rfl⟩ := hv.shape
  have HV3 : Hid (VIn w3 (fun k => w2.heap.size ≤ k ∧ k < w3.heap.size) lim n #[.int .u8 k', .int .i64 i', .string s', .slice A' len' cap'] e.K e.F) := hv
  have HB3 : Hid (w3.heap[w.heap.size]? = some (.cells ZE 32)) := hr3
  have c1 := get_42 w3 b p e.start ((hc hb3' hlb).trans HP.out.1) ((hc hb3' hlp).trans HT.out.1)
  have c2 := get_43 w3 b p e.fin ((hc hb3' hlb).trans HP.out.1) ((hc hb3' hlp).trans HT.out.2.1)
  have c3 := get_44 w3 b p e.pend ((hc hb3' hlb).trans HP.out.1) ((hc hb3' hlp).trans HT.out.2.2.1)
  have c4 := get_45 w3 b p e.hv ((hc hb3' hlb).trans HP.out.1) ((hc hb3' hlp).trans HT.out.2.2.2)
  have r0 : w3.cell? ⟨w.heap.size, 0, none⟩ = some (.int .u8 0) := by rw [bcell hr3]; rfl
  have r1 : w3.cell? ⟨w.heap.size, 1, none⟩ = some (.int .i64 0) := by rw [bcell hr3]; rfl
  have r2 : w3.cell? ⟨w.heap.size, 2, none⟩ = some (.string ByteArray.empty) := by rw [bcell hr3]; rfl
  have r3 : w3.cell? ⟨w.heap.size, 3, none⟩ = some (.slice none 0 0) := by rw [bcell hr3]; rfl
  have r4 : w3.cell? ⟨w.heap.size, 4, none⟩ = some (.int .i64 0) := by rw [bcell hr3]; rfl
  have r5 : w3.cell? ⟨w.heap.size, 5, none⟩ = some (.int .i64 0) := by rw [bcell hr3]; rfl
  have r6 : w3.cell? ⟨w.heap.size, 6, none⟩ = some (.bool false) := by rw [bcell hr3]; rfl
  have r7 : w3.cell? ⟨w.heap.size, 7, none⟩ = some (.int .u64 0) := by rw [bcell hr3]; rfl
  have z0 : ∀ j, w3.frozen? ⟨w.heap.size, j, none⟩ = false := fun j => bfz hr3 j
  have hne : w.heap.size < w2.heap.size := Nat.lt_of_lt_of_le (blt hr1) hb2.size
  clear hv hr3 hr1
  go_wp2_with (first | (go_at_call 42; refine c1.mono ?_; rintro r w' ⟨rfl, rfl⟩) | (go_at_call 43; refine c2.mono ?_; rintro r w' ⟨rfl, rfl⟩) | (go_at_call 44; refine c3.mono ?_; rintro r w' ⟨rfl, rfl⟩) | (go_at_call 45; refine c4.mono ?_; rintro r w' ⟨rfl, rfl⟩))
  clear c1 c2 c3 c4 r0 r1 r2 r3 r4 r5 r6 r7 z0 hc HP HT HV
  generalize hW : World.setCell _ _ _ = W
  have hat : W.heap[w.heap.size]? = some (.cells #[.int .u8 k', .int .i64 i', .string s', .slice A' len' cap', .int .i64 e.start, .int .i64 e.fin, .bool e.pend, .int .u64 e.hv] 32) := by
    rw [← hW]; exact bset (bset (bset (bset (bset (bset (bset (bset HB3.out 0 _) 1 _) 2 _) 3 _) 4 _) 5 _) 6 _) 7 _
  have hbW : Below w.heap.size w W := by
    rw [← hW]; exact (((((((hb3'.setCell (Nat.le_refl _) _).setCell (Nat.le_refl _) _).setCell (Nat.le_refl _) _).setCell (Nat.le_refl _) _).setCell (Nat.le_refl _) _).setCell (Nat.le_refl _) _).setCell (Nat.le_refl _) _).setCell (Nat.le_refl _) _
  have hsz : W.heap.size = w'.heap.size := by rw [← hW]; simp [World.setCell]
  have hblk : ∀ k, k ≠ w.heap.size → W.heap[k]? = w'.heap[k]? := fun k hk => by
    rw [← hW]
    exact (Below.heap_setCell _ _ _ _ hk).trans ((Below.heap_setCell _ _ _ _ hk).trans ((Below.heap_setCell _ _ _ _ hk).trans ((Below.heap_setCell _ _ _ _ hk).trans ((Below.heap_setCell _ _ _ _ hk).trans ((Below.heap_setCell _ _ _ _ hk).trans ((Below.heap_setCell _ _ _ _ hk).trans (Below.heap_setCell _ _ _ _ hk)))))))
  clear hW
  have q0 : W.cell? ⟨w.heap.size, 0, none⟩ = some (.int .u8 k') := by rw [bcell hat]; rfl
  have q1 : W.cell? ⟨w.heap.size, 1, none⟩ = some (.int .i64 i') := by rw [bcell hat]; rfl
  have q2 : W.cell? ⟨w.heap.size, 2, none⟩ = some (.string s') := by rw [bcell hat]; rfl
  have q3 : W.cell? ⟨w.heap.size, 3, none⟩ = some (.slice A' len' cap') := by rw [bcell hat]; rfl
  have q4 : W.cell? ⟨w.heap.size, 4, none⟩ = some (.int .i64 e.start) := by rw [bcell hat]; rfl
  have q5 : W.cell? ⟨w.heap.size, 5, none⟩ = some (.int .i64 e.fin) := by rw [bcell hat]; rfl
  have q6 : W.cell? ⟨w.heap.size, 6, none⟩ = some (.bool e.pend) := by rw [bcell hat]; rfl
  have q7 : W.cell? ⟨w.heap.size, 7, none⟩ = some (.int .u64 e.hv) := by rw [bcell hat]; rfl
  refine bodyPost_ret (v := .agg #[.int .u8 k', .int .i64 i', .string s', .slice A' len' cap', .int .i64 e.start, .int .i64 e.fin, .bool e.pend, .int .u64 e.hv]) (by simp [results, Try.results26, go_sem, q0, q1, q2, q3, q4, q5, q6, q7]) rfl ⟨⟨_, rfl, n, k', i', s', A', len', cap', rfl, ?_⟩, hbW⟩
  exact VIn.frame (fun k hk => hblk k (by omega)) (fun k hk => ⟨by omega, by omega⟩) (fun _ h => h) n _ _ _ HV3.out
end Go.Proofs.Qxb6613283a
