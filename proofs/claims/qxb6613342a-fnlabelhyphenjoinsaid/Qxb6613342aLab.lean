/-
  THE PLAIN LAYER of the seat b6613342a: what isAlnum, isNotLabelChar, isLabel, repairLabel compute, as plain functions; no Go in sight.
-/
import Derived.Lib.TrimU
namespace Go.Proofs.Qxb6613342a.Lab

def alnumB (r : Int) : Bool := (decide (97 ≤ r) && decide (r ≤ 122)) || (decide (65 ≤ r) && decide (r ≤ 90)) || (decide (48 ≤ r) && decide (r ≤ 57))
def notLabB (r : Int) : Bool := !alnumB r && (r != 45)
def okByte (b : UInt8) : Bool := !notLabB (b.toNat : Int)

theorem okByte_lt (b : UInt8) (h : okByte b = true) : b.toNat < 128 := by
  simp [okByte, notLabB, alnumB] at h
  omega

theorem notLabB_big (r : Int) (h : 128 ≤ r) : notLabB r = true := by
  simp [notLabB, alnumB]
  omega

theorem decodeN_big (n b0 b1 b2 b3 : Nat) (h : 128 ≤ b0) : 128 ≤ (Lib.decodeN n b0 b1 b2 b3).1 := by
  unfold Lib.decodeN
  repeat' split
  all_goals (simp only; omega)

theorem get_eq (s : ByteArray) (i : Nat) (h : i < s.size) : s.get! i = s[i] := by
  cases s with
  | mk bs => exact getElem!_pos bs i h
theorem at_list (s : ByteArray) (i : Nat) (h : i < s.size) : s[i] = s.data.toList[i]'(by simpa using h) := rfl

/-- The rune that Go's decoder gives at place i passes for a label character just where the byte there does; then it is one byte wide. -/
theorem decode_big (s : ByteArray) (i : Nat) (h : 128 ≤ (s.get! i).toNat) : 128 ≤ (Utf8.decode s i).1 := by
  rw [Lib.decode_at]; exact decodeN_big _ _ _ _ _ h
theorem decode_small (s : ByteArray) (i : Nat) (h : (s.get! i).toNat < 128) : Utf8.decode s i = ((s.get! i).toNat, 1) := by
  rw [Lib.decode_at]; simp [Lib.decodeN, h]

theorem decode_lab (s : ByteArray) (i : Nat) : notLabB ((Utf8.decode s i).1 : Int) = !okByte (s.get! i) := by
  by_cases h : (s.get! i).toNat < 128
  · rw [decode_small s i h]; simp [okByte]
  · rw [notLabB_big _ (by have := decode_big s i (by omega); omega)]
    cases hk : okByte (s.get! i)
    · rfl
    · exact absurd (okByte_lt _ hk) h
theorem decode_width (s : ByteArray) (i : Nat) (h : okByte (s.get! i) = true) : (Utf8.decode s i).2 = 1 := by
  rw [decode_small s i (okByte_lt _ h)]

/-- A label, said of the bytes. -/
def isLab (l : List UInt8) : Bool := !l.isEmpty && decide (l.length ≤ 63) && (l.head? != some 45) && (l.getLast? != some 45) && l.all okByte

end Go.Proofs.Qxb6613342a.Lab
