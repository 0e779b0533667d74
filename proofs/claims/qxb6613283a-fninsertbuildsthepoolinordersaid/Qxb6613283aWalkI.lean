/-
  THE WALKS of the seat b6613283a over bare numbers and strings: cmpInt, cmp.Compare, addMod, Mul64, mulMod.
-/
import Derived.Test.Qxb6613283aRows
import Derived.Test.Qxb6613283aLex
import Derived.WalkKit
import Derived.WalkSpells
import Derived.WalkLawsBesides
import Derived.Deep.QuietTactic
import Derived.BigQuiet
import Derived.Deep.OwnRows
import Derived.Deep.Draws
import Derived.Lib.Mul64
import Derived.Laws.Bits64b
namespace Go.Proofs.Qxb6613283a
open Go.RowKit

theorem sgn_lt {a b : Int} (h : a < b) : sgn a b = -1 := by unfold sgn; simp [h]
theorem sgn_gt {a b : Int} (h : b < a) : sgn a b = 1 := by unfold sgn; simp [h, show ¬ a < b by omega]
theorem sgn_eq {a b : Int} (h1 : ¬ a < b) (h2 : ¬ b < a) : sgn a b = 0 := by unfold sgn; simp [h1, h2]

set_option maxHeartbeats 1000000 in
theorem cmpInt_30 (a b : Int) (w : World) : Calls Try.prog 30 #[.int .i64 a, .int .i64 b] w fun e w' => e = .returned (.int .i64 (sgn a b)) ∧ w' = w := by
  by_cases h1 : a < b
  · rw [sgn_lt h1]
    go_enter Try.func30, Try.ntmps30
    go_wp2
    go_ret
    exact ⟨rfl, rfl⟩
  · by_cases h2 : b < a
    · rw [sgn_gt h2]
      go_enter Try.func30, Try.ntmps30
      go_wp2
      go_ret
      exact ⟨rfl, rfl⟩
    · rw [sgn_eq h1 h2]
      go_enter Try.func30, Try.ntmps30
      go_wp2
      go_ret
      exact ⟨rfl, rfl⟩

set_option maxHeartbeats 1000000 in
theorem isNaN_52 (a : Int) (w : World) : Calls Try.prog 52 #[.int .i64 a] w fun e w' => e = .returned (.bool false) ∧ w' = w := by
  go_enter Try.func52, Try.ntmps52
  go_wp2
  go_ret
  exact ⟨by simp, rfl⟩

set_option maxHeartbeats 1000000 in
theorem isNaN_56 (a : Int) (w : World) : Calls Try.prog 56 #[.int .u8 a] w fun e w' => e = .returned (.bool false) ∧ w' = w := by
  go_enter Try.func56, Try.ntmps56
  go_wp2
  go_ret
  exact ⟨by simp, rfl⟩

set_option maxHeartbeats 1000000 in
theorem isNaN_57 (a : Int) (w : World) : Calls Try.prog 57 #[.int .i64 a] w fun e w' => e = .returned (.bool false) ∧ w' = w := by
  go_enter Try.func57, Try.ntmps57
  go_wp2
  go_ret
  exact ⟨by simp, rfl⟩

set_option maxHeartbeats 1000000 in
theorem isNaN_58 (a : ByteArray) (w : World) : Calls Try.prog 58 #[.string a] w fun e w' => e = .returned (.bool false) ∧ w' = w := by
  go_enter Try.func58, Try.ntmps58
  go_wp2
  go_ret
  exact ⟨by simp, rfl⟩

set_option maxHeartbeats 1000000 in
theorem cmp_50 (a b : Int) (w : World) : Calls Try.prog 50 #[.int .i64 a, .int .i64 b] w fun e w' => e = .returned (.int .i64 (sgn a b)) ∧ w' = w := by
  by_cases h1 : a < b
  · rw [sgn_lt h1]
    go_enter Try.func50, Try.ntmps50
    go_wp2_with (go_at_call 52; refine (isNaN_52 _ _).mono ?_; rintro e w' ⟨rfl, rfl⟩)
    go_ret
    exact ⟨rfl, rfl⟩
  · by_cases h2 : b < a
    · rw [sgn_gt h2]
      go_enter Try.func50, Try.ntmps50
      go_wp2_with (go_at_call 52; refine (isNaN_52 _ _).mono ?_; rintro e w' ⟨rfl, rfl⟩)
      go_ret
      exact ⟨rfl, rfl⟩
    · rw [sgn_eq h1 h2]
      go_enter Try.func50, Try.ntmps50
      go_wp2_with (go_at_call 52; refine (isNaN_52 _ _).mono ?_; rintro e w' ⟨rfl, rfl⟩)
      go_ret
      exact ⟨rfl, rfl⟩

set_option maxHeartbeats 1000000 in
theorem cmp_53 (a b : Int) (w : World) : Calls Try.prog 53 #[.int .u8 a, .int .u8 b] w fun e w' => e = .returned (.int .i64 (sgn a b)) ∧ w' = w := by
  by_cases h1 : a < b
  · rw [sgn_lt h1]
    go_enter Try.func53, Try.ntmps53
    go_wp2_with (go_at_call 56; refine (isNaN_56 _ _).mono ?_; rintro e w' ⟨rfl, rfl⟩)
    go_ret
    exact ⟨rfl, rfl⟩
  · by_cases h2 : b < a
    · rw [sgn_gt h2]
      go_enter Try.func53, Try.ntmps53
      go_wp2_with (go_at_call 56; refine (isNaN_56 _ _).mono ?_; rintro e w' ⟨rfl, rfl⟩)
      go_ret
      exact ⟨rfl, rfl⟩
    · rw [sgn_eq h1 h2]
      go_enter Try.func53, Try.ntmps53
      go_wp2_with (go_at_call 56; refine (isNaN_56 _ _).mono ?_; rintro e w' ⟨rfl, rfl⟩)
      go_ret
      exact ⟨rfl, rfl⟩

set_option maxHeartbeats 1000000 in
theorem cmp_54 (a b : Int) (w : World) : Calls Try.prog 54 #[.int .i64 a, .int .i64 b] w fun e w' => e = .returned (.int .i64 (sgn a b)) ∧ w' = w := by
  by_cases h1 : a < b
  · rw [sgn_lt h1]
    go_enter Try.func54, Try.ntmps54
    go_wp2_with (go_at_call 57; refine (isNaN_57 _ _).mono ?_; rintro e w' ⟨rfl, rfl⟩)
    go_ret
    exact ⟨rfl, rfl⟩
  · by_cases h2 : b < a
    · rw [sgn_gt h2]
      go_enter Try.func54, Try.ntmps54
      go_wp2_with (go_at_call 57; refine (isNaN_57 _ _).mono ?_; rintro e w' ⟨rfl, rfl⟩)
      go_ret
      exact ⟨rfl, rfl⟩
    · rw [sgn_eq h1 h2]
      go_enter Try.func54, Try.ntmps54
      go_wp2_with (go_at_call 57; refine (isNaN_57 _ _).mono ?_; rintro e w' ⟨rfl, rfl⟩)
      go_ret
      exact ⟨rfl, rfl⟩

/-- The order of strings: -1, 0, 1. -/
def sgnS (a b : List UInt8) : Int := if a < b then -1 else if b < a then 1 else 0
theorem bytesLess_eq : ∀ a b : List UInt8, Op.bytesLess a b = decide (a < b)
  | [], [] => by simp [Op.bytesLess]
  | [], _ :: _ => by simp [Op.bytesLess]
  | _ :: _, [] => by simp [Op.bytesLess]
  | a :: xs, b :: ys => by
    unfold Op.bytesLess
    rw [bytesLess_eq xs ys]
    simp only [List.cons_lt_cons_iff, Bool.decide_or, Bool.decide_and]
    congr 2
theorem sgnS_lt {a b : List UInt8} (h : a < b) : sgnS a b = -1 := by simp [sgnS, h]
theorem sgnS_gt {a b : List UInt8} (h : ¬ a < b) (h2 : b < a) : sgnS a b = 1 := by simp [sgnS, h, h2]
theorem sgnS_eq {a b : List UInt8} (h : ¬ a < b) (h2 : ¬ b < a) : sgnS a b = 0 := by simp [sgnS, h, h2]
/-- The three ways in which two strings lie. -/
theorem str_cases (a b : List UInt8) : (sgnS a b = -1 ∧ Op.bytesLess a b = true) ∨ (sgnS a b = 1 ∧ Op.bytesLess a b = false ∧ (a == b) = false) ∨ (sgnS a b = 0 ∧ Op.bytesLess a b = false ∧ a = b) := by
  by_cases h1 : a < b
  · exact .inl ⟨sgnS_lt h1, by rw [bytesLess_eq]; simpa using h1⟩
  · by_cases h2 : b < a
    · refine .inr (.inl ⟨sgnS_gt h1 h2, by rw [bytesLess_eq]; simpa using h1, ?_⟩)
      have hne : a ≠ b := fun e => by subst e; exact h1 h2
      simpa using hne
    · have := lexS_str a b
      rw [if_neg h1, if_neg h2] at this
      exact .inr (.inr ⟨sgnS_eq h1 h2, by rw [bytesLess_eq]; simpa using h1, strKey_inj a b (lexS_eq _ _ this)⟩)

set_option maxHeartbeats 1000000 in
theorem cmp_55 (a b : ByteArray) (w : World) : Calls Try.prog 55 #[.string a, .string b] w fun e w' => e = .returned (.int .i64 (sgnS a.toList b.toList)) ∧ w' = w := by
  rcases str_cases a.toList b.toList with ⟨h0, h1⟩ | ⟨h0, h1, h2⟩ | ⟨h0, h1, h2⟩
  · rw [h0]
    go_enter Try.func55, Try.ntmps55
    go_wp2_with (go_at_call 58; refine (isNaN_58 _ _).mono ?_; rintro e w' ⟨rfl, rfl⟩)
    go_ret
    exact ⟨rfl, rfl⟩
  · rw [h0]
    go_enter Try.func55, Try.ntmps55
    go_wp2_with (go_at_call 58; refine (isNaN_58 _ _).mono ?_; rintro e w' ⟨rfl, rfl⟩)
    go_ret
    exact ⟨rfl, rfl⟩
  · rw [h0]
    have h3 : (a.toList == b.toList) = true := by simpa using h2
    have h4 : Op.bytesLess b.toList b.toList = false := by rw [← h1, h2]
    go_enter Try.func55, Try.ntmps55
    go_wp2_with (go_at_call 58; refine (isNaN_58 _ _).mono ?_; rintro e w' ⟨rfl, rfl⟩)
    go_ret
    exact ⟨rfl, rfl⟩

/-- The modulus. -/
def MP : Int := 2305843009213693951
def addM (a b : Int) : Int := (a + b) % MP

set_option maxHeartbeats 1000000 in
theorem addMod_21 (a b : Int) (ha : 0 ≤ a ∧ a < MP) (hb : 0 ≤ b ∧ b < MP) (w : World) : Calls Try.prog 21 #[.int .u64 a, .int .u64 b] w fun e w' => e = .returned (.int .u64 (addM a b)) ∧ w' = w := by
  unfold MP at ha hb
  have hw : IntKind.u64.wrap (a + b) = a + b := by rw [IntKind.wrap_u64]; omega
  by_cases h : 2305843009213693951 ≤ a + b
  · have e : addM a b = a + b - 2305843009213693951 := by unfold addM MP; omega
    have hw2 : IntKind.u64.wrap (a + b - 2305843009213693951) = a + b - 2305843009213693951 := by rw [IntKind.wrap_u64]; omega
    rw [e]
    go_enter Try.func21, Try.ntmps21
    go_wp2
    go_ret
    exact ⟨rfl, rfl⟩
  · have e : addM a b = a + b := by unfold addM MP; omega
    rw [e]
    go_enter Try.func21, Try.ntmps21
    go_wp2
    go_ret
    exact ⟨rfl, rfl⟩

set_option maxHeartbeats 1000000 in
theorem addMod_47 (a b : Int) (ha : 0 ≤ a ∧ a < MP) (hb : 0 ≤ b ∧ b < MP) (w : World) : Calls Try.prog 47 #[.int .u64 a, .int .u64 b] w fun e w' => e = .returned (.int .u64 (addM a b)) ∧ w' = w := by
  unfold MP at ha hb
  have hw : IntKind.u64.wrap (a + b) = a + b := by rw [IntKind.wrap_u64]; omega
  by_cases h : 2305843009213693951 ≤ a + b
  · have e : addM a b = a + b - 2305843009213693951 := by unfold addM MP; omega
    have hw2 : IntKind.u64.wrap (a + b - 2305843009213693951) = a + b - 2305843009213693951 := by rw [IntKind.wrap_u64]; omega
    rw [e]
    go_enter Try.func47, Try.ntmps47
    go_wp2
    go_ret
    exact ⟨rfl, rfl⟩
  · have e : addM a b = a + b := by unfold addM MP; omega
    rw [e]
    go_enter Try.func47, Try.ntmps47
    go_wp2
    go_ret
    exact ⟨rfl, rfl⟩

namespace Mul64
theorem maskN (a : Nat) (ha : a < 18446744073709551616) : bits .and .u64 (a : Int) 4294967295 = ((a % 4294967296 : Nat) : Int) := by
  have h := bits_and_u64_nat a 4294967295 ha (by omega)
  rw [Nat.and_two_pow_sub_one_eq_mod a 32] at h
  exact h
theorem divN (a : Nat) : (a : Int) / 4294967296 = ((a / 4294967296 : Nat) : Int) := by omega
theorem mulN (a b : Nat) : (a : Int) * (b : Int) = ((a * b : Nat) : Int) := (Int.natCast_mul a b).symm
theorem addN (a b : Nat) : (a : Int) + (b : Int) = ((a + b : Nat) : Int) := (Int.natCast_add a b).symm
theorem wrapN (a : Nat) (ha : a < 18446744073709551616) : IntKind.u64.wrap (a : Int) = (a : Int) := by rw [IntKind.wrap_u64]; omega
theorem wrapM (a : Nat) : IntKind.u64.wrap (a : Int) = ((a % 18446744073709551616 : Nat) : Int) := by rw [IntKind.wrap_u64]; omega
end Mul64

set_option maxHeartbeats 1000000 in
theorem mul64_49 (x y : Nat) (hx : x < 18446744073709551616) (hy : y < 18446744073709551616) (w : World) :
    Calls Try.prog 49 #[.int .u64 x, .int .u64 y] w fun e w' => e = .returned (.tuple #[.int .u64 ((x * y / 18446744073709551616 : Nat) : Int), .int .u64 ((x * y % 18446744073709551616 : Nat) : Int)]) ∧ w' = w := by
  obtain ⟨bd, bt, bw, hhi⟩ := Lib.mul64_hi x y hx hy
  have ba := Lib.half_mul_le (a := x / 4294967296) (b := y / 4294967296) (by omega) (by omega)
  have bb := Lib.half_mul_le (a := x / 4294967296) (b := y % 4294967296) (by omega) (by omega)
  have bc := Lib.half_mul_le (a := x % 4294967296) (b := y / 4294967296) (by omega) (by omega)
  have ba' : x / 4294967296 * (y / 4294967296) < 18446744073709551616 := by omega
  have bb' : x / 4294967296 * (y % 4294967296) < 18446744073709551616 := by omega
  have bc' : x % 4294967296 * (y / 4294967296) < 18446744073709551616 := by omega
  have bh1 : x / 4294967296 * (y / 4294967296) + (x / 4294967296 * (y % 4294967296) + x % 4294967296 * (y % 4294967296) / 4294967296) / 4294967296 < 18446744073709551616 := by omega
  have bh : x / 4294967296 * (y / 4294967296) + (x / 4294967296 * (y % 4294967296) + x % 4294967296 * (y % 4294967296) / 4294967296) / 4294967296 + ((x / 4294967296 * (y % 4294967296) + x % 4294967296 * (y % 4294967296) / 4294967296) % 4294967296 + x % 4294967296 * (y / 4294967296)) / 4294967296 < 18446744073709551616 := by omega
  go_enter Try.func49, Try.ntmps49
  go_wp2
  simp only [Mul64.maskN x hx, Mul64.maskN y hy, Mul64.divN, Mul64.mulN, Mul64.addN, Mul64.wrapN _ bd, Mul64.wrapN _ bb', Mul64.wrapN _ bt, Mul64.maskN _ bt, Mul64.wrapN _ bc', Mul64.wrapN _ bw, Mul64.wrapN _ ba', Mul64.wrapN _ bh1, Mul64.wrapN _ bh, Mul64.wrapM (x * y)]
  rw [hhi]
  go_ret2
  exact ⟨rfl, rfl⟩
end Go.Proofs.Qxb6613283a
