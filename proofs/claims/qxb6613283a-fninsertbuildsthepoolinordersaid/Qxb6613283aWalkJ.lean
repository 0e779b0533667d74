/-
  mulMod.
-/
import Derived.Test.Qxb6613283aWalkI
import Derived.Deep.Cut
namespace Go.Proofs.Qxb6613283a
open Go.RowKit

theorem MP_pos : 0 < MP := by unfold MP; omega




theorem or8 (H r : Nat) (hH : H < 288230376151711744) (hr : r < 8) : bits .or .u64 ((H * 8 : Nat) : Int) (r : Int) = ((H * 8 + r : Nat) : Int) := by
  rw [bits_or_u64_nat _ _ (by omega) (by omega)]
  have h := Nat.two_pow_add_eq_or_of_lt (i := 3) (b := r) (by omega) H
  have e : 2 ^ 3 * H = H * 8 := by omega
  rw [e] at h
  rw [h]
theorem and61 (L : Nat) (hL : L < 18446744073709551616) : bits .and .u64 (L : Int) 2305843009213693951 = ((L % 2305843009213693952 : Nat) : Int) := by
  have h := bits_and_u64_nat L 2305843009213693951 hL (by omega)
  rw [show L &&& 2305843009213693951 = L % 2305843009213693952 from Nat.and_two_pow_sub_one_eq_mod L 61] at h
  exact h

/-- q + r, once less the modulus where it is not below it. -/
theorem fold61 (n : Nat) (h : n / 2305843009213693952 < 2305843009213693951) :
    (2305843009213693951 ≤ n / 2305843009213693952 + n % 2305843009213693952 → n / 2305843009213693952 + n % 2305843009213693952 - 2305843009213693951 = n % 2305843009213693951) ∧
    (n / 2305843009213693952 + n % 2305843009213693952 < 2305843009213693951 → n / 2305843009213693952 + n % 2305843009213693952 = n % 2305843009213693951) := by
  have := Nat.div_add_mod n 2305843009213693952
  omega

set_option maxHeartbeats 1000000 in
set_option maxRecDepth 100000 in
theorem mulMod_46 (x y : Nat) (hx : x < 2305843009213693951) (hy : y < 2305843009213693951) (w : World) :
    Calls Try.prog 46 #[.int .u64 x, .int .u64 y] w fun e w' => e = .returned (.int .u64 (((x : Int) * y) % MP)) ∧ w' = w := by
  have hx' : x < 18446744073709551616 := by omega
  have hy' : y < 18446744073709551616 := by omega
  have hxy : x * y ≤ 2305843009213693950 * 2305843009213693950 := Nat.mul_le_mul (by omega) (by omega)
  have eR : ((x : Int) * y) % MP = ((x * y % 2305843009213693951 : Nat) : Int) := by unfold MP; rw [← Int.natCast_mul]; omega
  rw [eR]
  clear eR
  obtain ⟨R, eR⟩ : ∃ R, R = x * y % 2305843009213693951 := ⟨_, rfl⟩
  rw [← eR]
  have hf := fold61 (x * y) (by omega)
  have hH : x * y / 18446744073709551616 < 288230376151711744 := by omega
  have hL : x * y % 18446744073709551616 < 18446744073709551616 := by omega
  have hq : x * y / 18446744073709551616 * 8 + x * y % 18446744073709551616 / 2305843009213693952 = x * y / 2305843009213693952 := by omega
  have hr : x * y % 18446744073709551616 % 2305843009213693952 = x * y % 2305843009213693952 := by omega
  have hb : x * y / 2305843009213693952 < 2305843009213693951 := by omega
  clear hx hy
  go_enter Try.func46, Try.ntmps46
  go_wp2_with fail
  refine (mul64_49 x y hx' hy' _).mono ?_
  rintro e w' ⟨rfl, rfl⟩
  clear hx' hy' hxy
  generalize x * y = n at *
  generalize n / 18446744073709551616 = H at *
  generalize n % 18446744073709551616 = L at *
  obtain ⟨q, eq⟩ : ∃ q, q = n / 2305843009213693952 := ⟨_, rfl⟩
  obtain ⟨r, er⟩ : ∃ r, r = n % 2305843009213693952 := ⟨_, rfl⟩
  obtain ⟨H8, e8⟩ : ∃ H8, H8 = H * 8 := ⟨_, rfl⟩
  obtain ⟨L1, eL1⟩ : ∃ L1, L1 = L / 2305843009213693952 := ⟨_, rfl⟩
  have hr' : r < 2305843009213693952 := by omega
  have f1 : Hid (IntKind.u64.wrap ((H : Int) * 8) = (H8 : Int)) := by show _ = _; rw [IntKind.wrap_u64]; omega
  have f2 : Hid ((L : Int) / 2305843009213693952 = (L1 : Int)) := by show _ = _; omega
  have f3 : Hid (bits .or .u64 (H8 : Int) (L1 : Int) = (q : Int)) := by
    have e3 := or8 H (L / 2305843009213693952) hH (by omega)
    rw [← e8, ← eL1] at e3
    show _ = _
    rw [e3]
    omega
  have f4 : Hid (bits .and .u64 (L : Int) 2305843009213693951 = (r : Int)) := by
    have e4 := and61 L hL
    show _ = _
    rw [e4]
    omega
  rw [← eq, ← er, ← eR] at hf
  rw [← eq] at hb
  have f5 : Hid (IntKind.u64.wrap ((q : Int) + r) = ((q + r : Nat) : Int)) := by show _ = _; rw [IntKind.wrap_u64]; omega
  clear eq er eR e8 eL1 hq hr hH hL
  go_upto_region 2 with fail
  refine wp_region_lit ?_
  refine wpList_plain rfl fun K hK => ?_
  go_simp
  refine hK _ _ ?_
  clear hK K
  refine wpList_plain rfl fun K hK => ?_
  go_simp
  rw [f1.out]
  refine hK _ _ ?_
  clear hK K
  refine wpList_plain rfl fun K hK => ?_
  go_simp
  refine hK _ _ ?_
  clear hK K
  refine wpList_plain rfl fun K hK => ?_
  go_simp
  rw [f2.out]
  refine hK _ _ ?_
  clear hK K
  refine wpList_plain rfl fun K hK => ?_
  go_simp
  rw [f3.out]
  refine hK _ _ ?_
  clear hK K
  refine wpList_plain rfl fun K hK => ?_
  go_simp
  refine hK _ _ ?_
  clear hK K
  refine wpList_plain rfl fun K hK => ?_
  go_simp
  rw [f4.out]
  refine hK _ _ ?_
  clear hK K
  refine wpList_plain rfl fun K hK => ?_
  go_simp
  rw [f5.out]
  refine hK _ _ ?_
  clear hK K
  clear f1 f2 f3 f4 f5
  have hs2 : q + r < 4611686018427387904 := by omega
  generalize q + r = s at *
  refine wpList_plain rfl fun K hK => ?_
  go_simp
  refine hK _ _ ?_
  clear hK K
  refine wpList_nil ?_
  by_cases hs : 2305843009213693951 ≤ s
  · have e6 : IntKind.u64.wrap ((s : Int) - 2305843009213693951) = (R : Int) := by rw [IntKind.wrap_u64]; omega
    have hs' : (2305843009213693951 : Int) ≤ s := by omega
    clear hf hs hb hr' hs2
    go_wp2
    go_ret
    exact ⟨rfl, rfl⟩
  · obtain rfl : s = R := by omega
    have hs' : ¬ (2305843009213693951 : Int) ≤ s := by omega
    clear hf hs hb hr' hs2
    go_wp2
    go_ret
    exact ⟨rfl, rfl⟩
end Go.Proofs.Qxb6613283a
