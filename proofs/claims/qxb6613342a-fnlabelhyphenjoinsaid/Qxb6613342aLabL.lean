import Derived.Test.Qxb6613342aWalkB
namespace Go.Proofs.Qxb6613342a
open Go.RowKit
/-- isLabel on the list of bytes. -/
def labL (l : List UInt8) : Bool := !l.isEmpty && decide (l.length ≤ 63) && (l.head? != some 45) && (l.getLast? != some 45) && l.all Lab.okByte

theorem get_list (s : ByteArray) (i : Nat) (h : i < s.size) : s.data.toList[i]? = some (s.get! i) := by
  rw [Lab.get_eq s i h, Lab.at_list s i h]
  exact List.getElem?_eq_getElem _
theorem len_list (s : ByteArray) : s.data.toList.length = s.size := by
  cases s; simp [ByteArray.size]

theorem all_list (s : ByteArray) (k : Nat) (hk : k ≤ s.size) : (List.range k).all (fun i => Lab.okByte (s.get! i)) = (s.data.toList.take k).all Lab.okByte := by
  induction k with
  | zero => rfl
  | succ k ih =>
    rw [List.range_succ, List.all_append, ih (by omega), List.take_add_one, get_list s k (by omega), List.all_append]
    simp

theorem labS_eq (s : ByteArray) : labS s = labL s.data.toList := by
  have hl := len_list s
  have ha := all_list s s.size (Nat.le_refl _)
  rw [← hl, List.take_length] at ha
  unfold labS labL
  by_cases h0 : 0 < s.size
  · have e1 : s.data.toList.head? = some (s.get! 0) := by rw [List.head?_eq_getElem?]; exact get_list s 0 h0
    have e2 : s.data.toList.getLast? = some (s.get! (s.size - 1)) := by rw [List.getLast?_eq_getElem?, hl]; exact get_list s _ (by omega)
    have e3 : s.data.toList.isEmpty = false := by rw [← ByteArray.toList_eq]; exact isEmpty_of s h0
    rw [e1, e2, e3, ← ha, hl]
    simp only [h0, decide_true, Bool.not_false, Bool.true_and]
    rfl
  · have e3 : s.data.toList.isEmpty = true := by rw [← ByteArray.toList_eq]; exact empty_of s h0
    rw [e3]; simp [h0]

/-- "a" + s + "a". -/
theorem labL_mid (l : List UInt8) : labL (97 :: (l ++ [97])) = (decide (l.length ≤ 61) && l.all Lab.okByte) := by
  have h97 : Lab.okByte 97 = true := by decide
  unfold labL
  have e2 : (97 :: (l ++ [97])).getLast? = some 97 := by
    rw [← List.cons_append, List.getLast?_append]; simp
  have e4 : ((some 97 : Option UInt8) != some 45) = true := by decide
  rw [e2, e4]
  simp [h97, e4]

def okAcc (s : ByteArray) (k : Nat) : Bool := decide ((s.size : Int) ≤ 61) && (s.data.toList.take k).all Lab.okByte
theorem okAcc_zero (s : ByteArray) : decide ((s.size : Int) ≤ 61) = okAcc s 0 := by simp [okAcc]
theorem notLab_wrap (b : UInt8) : Lab.notLabB (wrap32 (b.toNat : Int)) = !Lab.okByte b := by
  have h := b.toNat_lt
  have e : wrap32 (b.toNat : Int) = (b.toNat : Int) := by unfold wrap32; omega
  rw [e]; simp [Lab.okByte]
theorem okAcc_succ (s : ByteArray) (k : Nat) (h : k < s.size) : okAcc s (k + 1) = (okAcc s k && Lab.okByte s[k]) := by
  unfold okAcc
  rw [List.take_add_one, get_list s k h, Lab.get_eq s k h, List.all_append]
  simp [Bool.and_assoc]
theorem okAcc_end (s : ByteArray) : labS ({ data := #[97] } ++ s ++ { data := #[97] }) = okAcc s s.size := by
  rw [labS_eq]
  have e : (({ data := #[97] } : ByteArray) ++ s ++ { data := #[97] }).data.toList = 97 :: (s.data.toList ++ [97]) := by
    simp [ByteArray.data_append]
  rw [e, labL_mid, okAcc, ← len_list s, List.take_length]
  congr 1
  rw [Bool.eq_iff_iff]; simp; omega
end Go.Proofs.Qxb6613342a
