/-
  THE PLAIN LAWS on repairLabel's result: no Go in sight.
-/
import Derived.Test.Qxb6613342aWalkD
namespace Go.Proofs.Qxb6613342a
open Go.RowKit

theorem labS_iff (s : ByteArray) : labS s = true ↔ 0 < s.size ∧ s.size ≤ 63 ∧ s.get! 0 ≠ 45 ∧ s.get! (s.size - 1) ≠ 45 ∧ ∀ i, i < s.size → Lab.okByte (s.get! i) = true := by
  unfold labS
  simp only [Bool.and_eq_true, decide_eq_true_eq, bne_iff_ne, List.all_eq_true, List.mem_range, and_assoc]

theorem fix_ok (s : ByteArray) (i : Nat) : Lab.okByte (fixAt s i) = true := by
  unfold fixAt
  split
  · assumption
  · decide
theorem mid_ok (s : ByteArray) (i : Nat) : Lab.okByte (midAt s i) = true := by
  unfold midAt
  split
  · decide
  · exact fix_ok s i
theorem fin_ok (s : ByteArray) (n i : Nat) : Lab.okByte (finAt s n i) = true := by
  unfold finAt
  split
  · decide
  · exact mid_ok s i
theorem mid_zero (s : ByteArray) : midAt s 0 ≠ 45 := by
  unfold midAt
  split
  · decide
  · rename_i h
    intro e
    exact h ⟨rfl, e⟩
theorem fin_last (s : ByteArray) (n : Nat) : finAt s n (n - 1) ≠ 45 := by
  unfold finAt
  split
  · decide
  · rename_i h
    intro e
    exact h ⟨rfl, e⟩
theorem fin_zero (s : ByteArray) (n : Nat) : finAt s n 0 ≠ 45 := by
  unfold finAt
  split
  · decide
  · exact mid_zero s

theorem rep_get (s : ByteArray) (n i : Nat) (h : i < n) : (repS s n).get! i = finAt s n i := by
  rw [Lab.get_eq _ i (by rw [rep_size]; exact h)]
  exact (show ((List.range n).map (finAt s n)).toArray[i]'(by rw [List.size_toArray, List.length_map, List.length_range]; omega) = finAt s n i by simp)

theorem lab_one : labS ⟨#[97]⟩ = true := by
  rw [labS_eq]; decide

theorem lab_repair (s : ByteArray) : labS (repair s) = true := by
  unfold repair
  split
  · exact lab_one
  · rename_i h
    have hn : 0 < min s.size 63 := by omega
    have hm : min s.size 63 ≤ 63 := Nat.min_le_right _ _
    generalize min s.size 63 = n at *
    rw [labS_iff, rep_size]
    refine ⟨hn, hm, ?_, ?_, fun i hi => ?_⟩
    · rw [rep_get s n 0 hn]; exact fin_zero s n
    · rw [rep_get s n _ (by omega)]; exact fin_last s n
    · rw [rep_get s n i hi]; exact fin_ok s n i

theorem bytes_ext (a b : ByteArray) (hs : a.size = b.size) (h : ∀ i, i < a.size → a.get! i = b.get! i) : a = b := by
  apply ByteArray.ext
  apply Array.toList_inj.1
  apply List.ext_getElem?
  intro i
  by_cases hi : i < a.size
  · rw [get_list a i hi, get_list b i (by omega), h i hi]
  · rw [List.getElem?_eq_none (by rw [len_list]; omega), List.getElem?_eq_none (by rw [len_list]; omega)]

theorem repair_of_lab (s : ByteArray) (h : labS s = true) : repair s = s := by
  obtain ⟨h0, h63, ha, hb, hk⟩ := (labS_iff s).1 h
  have e : repair s = repS s s.size := by unfold repair; rw [if_neg (by omega), Nat.min_eq_left h63]
  rw [e]
  have hf : ∀ i, i < s.size → fixAt s i = s.get! i := fun i hi => by simp [fixAt, hk i hi]
  have hm : ∀ i, i < s.size → midAt s i = s.get! i := fun i hi => by
    unfold midAt
    rw [if_neg (fun c => ha (by rw [← hf 0 h0]; exact c.2))]
    exact hf i hi
  refine bytes_ext _ _ (rep_size _ _) fun i hi => ?_
  rw [rep_size] at hi
  rw [rep_get s _ i hi]
  unfold finAt
  rw [if_neg (fun c => hb (by rw [← hm _ (by omega)]; exact c.2))]
  exact hm i hi

theorem lab_iff_repair (s : ByteArray) : labS s = ((repair s).toList == s.toList) := by
  rw [Bool.eq_iff_iff, beq_iff_eq, ByteArray.toList_eq, ByteArray.toList_eq]
  constructor
  · intro h; rw [repair_of_lab s h]
  · intro h
    have e : repair s = s := by
      apply ByteArray.ext
      exact Array.toList_inj.1 h
    rw [← e]; exact lab_repair s

theorem lab_join (x y : ByteArray) (hx : labS x = true) (hy : labS y = true) : labS (x ++ { data := #[45] } ++ y) = decide (((x ++ { data := #[45] } ++ y).size : Int) ≤ 63) := by
  rw [labS_eq] at hx hy
  have e : (x ++ ({ data := #[45] } : ByteArray) ++ y).data.toList = x.data.toList ++ (45 :: y.data.toList) := by simp [ByteArray.data_append]
  have hl := len_list (x ++ ({ data := #[45] } : ByteArray) ++ y)
  rw [e] at hl
  rw [labS_eq, e, ← hl]
  have h45 : Lab.okByte 45 = true := by decide
  generalize x.data.toList = l at *
  generalize y.data.toList = r at *
  unfold labL at hx hy ⊢
  simp only [Bool.and_eq_true, Bool.not_eq_true', decide_eq_true_eq, bne_iff_ne, and_assoc] at hx hy
  obtain ⟨x1, x2, x3, x4, x5⟩ := hx
  obtain ⟨y1, y2, y3, y4, y5⟩ := hy
  cases l with
  | nil => simp at x1
  | cons a l =>
    have e2 : ((a :: l) ++ 45 :: r).getLast? = r.getLast? := by
      cases r with
      | nil => simp at y1
      | cons b r =>
        rw [List.getLast?_append, List.getLast?_cons_cons]
        cases hg : (b :: r).getLast? with
        | none => simp at hg
        | some z => rfl
    have e3 : ((a :: l) ++ 45 :: r).head? = (a :: l).head? := by simp
    have e4 : ((a :: l) ++ 45 :: r).all Lab.okByte = true := by rw [List.all_append, x5]; simp [h45]; simpa using y5
    rw [e2, e3, e4, bne_iff_ne.2 x3, bne_iff_ne.2 y4]
    rw [Bool.eq_iff_iff]
    simp
    omega
end Go.Proofs.Qxb6613342a
