import Derived.Test.Qxb6628768aRows
import Derived.WalkKit
import Derived.WalkSpells
import Derived.WalkLawsBesides
import Derived.Laws.Bits64
namespace Go.Proofs.Qxb6628768a
open Go.RowKit

set_option maxHeartbeats 400000 in
theorem int64_neg (n : Int) (w : World) (h0 : 0 ≤ n) (h1 : n ≤ 9223372036854775807) :
    Calls Try.prog 5 #[.agg #[.bool true, .int .u64 n]] w fun e w' => e = .returned (.tuple #[.int .i64 (-1 - n), .bool true]) ∧ w' = w.alloc (.cells #[.bool true, .int .u64 n] 25) := by
  go_enter Try.func5, Try.ntmps5
  go_wp2
  go_ret2
  exact ⟨rfl, rfl⟩

set_option maxHeartbeats 400000 in
theorem int64_pos (n : Int) (w : World) (h0 : 0 ≤ n) (h1 : n ≤ 9223372036854775807) :
    Calls Try.prog 5 #[.agg #[.bool false, .int .u64 n]] w fun e w' => e = .returned (.tuple #[.int .i64 n, .bool true]) ∧ w' = w.alloc (.cells #[.bool false, .int .u64 n] 25) := by
  go_enter Try.func5, Try.ntmps5
  go_wp2
  go_ret2
  exact ⟨rfl, rfl⟩

set_option maxHeartbeats 400000 in
theorem int64_no (b : Bool) (n : Int) (w : World) (h1 : 9223372036854775807 < n) :
    Calls Try.prog 5 #[.agg #[.bool b, .int .u64 n]] w fun e w' => e = .returned (.tuple #[.int .i64 0, .bool false]) ∧ w' = w.alloc (.cells #[.bool b, .int .u64 n] 25) := by
  go_enter Try.func5, Try.ntmps5
  go_wp2
  go_ret2
  exact ⟨rfl, rfl⟩

theorem xor_all (n : Nat) (h : n < 2 ^ 64) : (2 ^ 64 - (n + 1)) ^^^ (2 ^ 64 - 1) = n := by
  apply Nat.eq_of_testBit_eq
  intro i
  rw [Nat.testBit_xor, Nat.testBit_two_pow_sub_succ h, Nat.testBit_two_pow_sub_one]
  by_cases hi : i < 64
  · simp [hi]
  · have hlt : n < 2 ^ i := Nat.lt_of_lt_of_le h (Nat.pow_le_pow_right (by omega) (by omega))
    simp [hi, Nat.testBit_lt_two_pow hlt]

theorem xor_mask (n : Int) (h0 : 0 ≤ n) (h1 : n ≤ 9223372036854775807) : bits .xor .u64 (IntKind.u64.wrap (-1 - n)) 18446744073709551615 = n := by
  obtain ⟨k, rfl⟩ := Int.eq_ofNat_of_zero_le h0
  have e1 : IntKind.u64.wrap (-1 - (k : Int)) = ((18446744073709551616 - (k + 1) : Nat) : Int) := by rw [IntKind.wrap_u64]; omega
  have e2 : (18446744073709551615 : Int) = ((18446744073709551615 : Nat) : Int) := rfl
  rw [e1, e2, bits_xor_u64_nat _ _ (by omega) (by omega)]
  have e3 := xor_all k (by omega)
  exact congrArg Int.ofNat e3

theorem xor_none (n : Int) (h0 : 0 ≤ n) (h1 : n ≤ 9223372036854775807) : bits .xor .u64 n 0 = n := by
  obtain ⟨k, rfl⟩ := Int.eq_ofNat_of_zero_le h0
  have e2 : (0 : Int) = ((0 : Nat) : Int) := rfl
  rw [e2, bits_xor_u64_nat _ _ (by omega) (by omega), Nat.xor_zero]

theorem u64_bounds {n : Int} (h : (Lit.int .u64 n).wf = true) : 0 ≤ n := by
  simp [Lit.wf, IntKind.min, IntKind.max, IntKind.signed, IntKind.bits] at h
  omega

theorem ret_bool {b : Bool} (h : b = true) : Ending.returned (.bool b) = .returned (.bool true) := by rw [h]

set_option maxHeartbeats 400000 in
theorem pair_neg (n : Int) (w : World) (h0 : 0 ≤ n) (h1 : n ≤ 9223372036854775807) :
    Calls Try.prog 3 #[.bool true, .int .u64 n] w fun e w' => e = .returned (.bool true) ∧ Grown w w' := by
  go_enter Try.func3, Try.ntmps3
  go_wp2_with fail
  refine (int64_neg n w h0 h1).mono ?_
  rintro e w' ⟨rfl, hw⟩
  obtain rfl := hw.symm
  go_wp2_with fail
  refine (int64_pos n _ h0 h1).mono ?_
  rintro e w' ⟨rfl, hw⟩
  obtain rfl := hw.symm
  go_wp2
  · go_ret
    exact ⟨ret_bool (by simp; omega), by repeat (first | exact Grown.refl _ | apply Grown.drew | apply Grown.alloc)⟩
  · exact absurd (xor_mask n h0 h1) (by assumption)

set_option maxHeartbeats 400000 in
theorem pair_pos (n : Int) (w : World) (h0 : 0 ≤ n) (h1 : n ≤ 9223372036854775807) :
    Calls Try.prog 3 #[.bool false, .int .u64 n] w fun e w' => e = .returned (.bool true) ∧ Grown w w' := by
  go_enter Try.func3, Try.ntmps3
  go_wp2_with fail
  refine (int64_pos n w h0 h1).mono ?_
  rintro e w' ⟨rfl, hw⟩
  obtain rfl := hw.symm
  go_wp2_with fail
  refine (int64_neg n _ h0 h1).mono ?_
  rintro e w' ⟨rfl, hw⟩
  obtain rfl := hw.symm
  go_wp2
  · go_ret
    exact ⟨ret_bool (by simp; omega), by repeat (first | exact Grown.refl _ | apply Grown.drew | apply Grown.alloc)⟩
  · exact absurd (xor_none n h0 h1) (by assumption)

set_option maxHeartbeats 400000 in
theorem pair_no (b : Bool) (n : Int) (w : World) (h1 : 9223372036854775807 < n) :
    Calls Try.prog 3 #[.bool b, .int .u64 n] w fun e w' => e = .returned (.bool true) ∧ Grown w w' := by
  go_enter Try.func3, Try.ntmps3
  go_wp2_with fail
  refine (int64_no b n w h1).mono ?_
  rintro e w' ⟨rfl, hw⟩
  obtain rfl := hw.symm
  go_wp2_with fail
  refine (int64_no (!b) n _ h1).mono ?_
  rintro e w' ⟨rfl, hw⟩
  obtain rfl := hw.symm
  go_wp2
  go_ret
  exact ⟨rfl, by repeat (first | exact Grown.refl _ | apply Grown.drew | apply Grown.alloc)⟩

end Go.Proofs.Qxb6628768a
