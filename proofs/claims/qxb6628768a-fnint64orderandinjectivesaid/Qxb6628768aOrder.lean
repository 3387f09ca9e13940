import Derived.Test.Qxb6628768aInt
namespace Go.Proofs.Qxb6628768a
open Go.RowKit

set_option maxHeartbeats 400000 in
theorem less_tt (m n : Int) (w : World) :
    Calls Try.prog 6 #[.bool true, .int .u64 m, .bool true, .int .u64 n] w fun e w' => e = .returned (.bool (decide (n < m))) ∧ w' = w := by
  go_enter Try.func6, Try.ntmps6
  go_wp2
  go_ret
  exact ⟨rfl, rfl⟩

set_option maxHeartbeats 400000 in
theorem less_tf (m n : Int) (w : World) :
    Calls Try.prog 6 #[.bool true, .int .u64 m, .bool false, .int .u64 n] w fun e w' => e = .returned (.bool (true)) ∧ w' = w := by
  go_enter Try.func6, Try.ntmps6
  go_wp2
  go_ret
  exact ⟨rfl, rfl⟩

set_option maxHeartbeats 400000 in
theorem less_ft (m n : Int) (w : World) :
    Calls Try.prog 6 #[.bool false, .int .u64 m, .bool true, .int .u64 n] w fun e w' => e = .returned (.bool (false)) ∧ w' = w := by
  go_enter Try.func6, Try.ntmps6
  go_wp2
  go_ret
  exact ⟨rfl, rfl⟩

set_option maxHeartbeats 400000 in
theorem less_ff (m n : Int) (w : World) :
    Calls Try.prog 6 #[.bool false, .int .u64 m, .bool false, .int .u64 n] w fun e w' => e = .returned (.bool (decide (m < n))) ∧ w' = w := by
  go_enter Try.func6, Try.ntmps6
  go_wp2
  go_ret
  exact ⟨rfl, rfl⟩

theorem eq_tt (m n : Int) : ((-1 - m == -1 - n) == (m == n)) = true := by
  rw [beq_iff_eq, Bool.eq_iff_iff, beq_iff_eq, beq_iff_eq]
  omega

set_option maxHeartbeats 1000000 in
theorem both_tt (m n : Int) (w : World) (h0 : 0 ≤ m) (h1 : m ≤ 9223372036854775807) (k0 : 0 ≤ n) (k1 : n ≤ 9223372036854775807) :
    Calls Try.prog 4 #[.bool true, .int .u64 m, .bool true, .int .u64 n] w fun e w' => e = .returned (.bool true) ∧ Grown w w' := by
  have dm : (m / 9223372036854775808 == 0) = true := by rw [beq_iff_eq]; omega
  have dn : (n / 9223372036854775808 == 0) = true := by rw [beq_iff_eq]; omega
  rcases (show m < n ∨ m = n ∨ n < m by omega) with ho | ho | ho
  · go_enter Try.func4, Try.ntmps4
    go_wp2_with fail
    refine (int64_neg m w h0 h1).mono ?_
    rintro e w' ⟨rfl, hw⟩
    obtain rfl := hw.symm
    go_wp2_with fail
    refine (int64_neg n _ k0 k1).mono ?_
    rintro e w' ⟨rfl, hw⟩
    obtain rfl := hw.symm
    go_wp2_with fail
    refine (less_tt m n _).mono ?_
    rintro e w' ⟨rfl, hw⟩
    obtain rfl := hw.symm
    go_wp2
    go_ret
    exact ⟨ret_bool (by first | rfl | exact eq_tt _ _ | (simp; done) | (simp; omega)), by repeat (first | exact Grown.refl _ | apply Grown.drew | apply Grown.alloc)⟩
  · subst ho
    clear dn k0 k1
    go_enter Try.func4, Try.ntmps4
    go_wp2_with fail
    refine (int64_neg m w h0 h1).mono ?_
    rintro e w' ⟨rfl, hw⟩
    obtain rfl := hw.symm
    go_wp2_with fail
    refine (int64_neg m _ h0 h1).mono ?_
    rintro e w' ⟨rfl, hw⟩
    obtain rfl := hw.symm
    go_wp2_with fail
    refine (less_tt m m _).mono ?_
    rintro e w' ⟨rfl, hw⟩
    obtain rfl := hw.symm
    go_wp2
    go_ret
    exact ⟨ret_bool (by first | rfl | exact eq_tt _ _ | (simp; done) | (simp; omega)), by repeat (first | exact Grown.refl _ | apply Grown.drew | apply Grown.alloc)⟩
  · go_enter Try.func4, Try.ntmps4
    go_wp2_with fail
    refine (int64_neg m w h0 h1).mono ?_
    rintro e w' ⟨rfl, hw⟩
    obtain rfl := hw.symm
    go_wp2_with fail
    refine (int64_neg n _ k0 k1).mono ?_
    rintro e w' ⟨rfl, hw⟩
    obtain rfl := hw.symm
    go_wp2_with fail
    refine (less_tt m n _).mono ?_
    rintro e w' ⟨rfl, hw⟩
    obtain rfl := hw.symm
    go_wp2
    go_ret
    exact ⟨ret_bool (by first | rfl | exact eq_tt _ _ | (simp; done) | (simp; omega)), by repeat (first | exact Grown.refl _ | apply Grown.drew | apply Grown.alloc)⟩

set_option maxHeartbeats 1000000 in
theorem both_tf (m n : Int) (w : World) (h0 : 0 ≤ m) (h1 : m ≤ 9223372036854775807) (k0 : 0 ≤ n) (k1 : n ≤ 9223372036854775807) :
    Calls Try.prog 4 #[.bool true, .int .u64 m, .bool false, .int .u64 n] w fun e w' => e = .returned (.bool true) ∧ Grown w w' := by
  have dm : (m / 9223372036854775808 == 0) = true := by rw [beq_iff_eq]; omega
  have dn : (n / 9223372036854775808 == 0) = true := by rw [beq_iff_eq]; omega
  rcases (show m < n ∨ m = n ∨ n < m by omega) with ho | ho | ho
  · go_enter Try.func4, Try.ntmps4
    go_wp2_with fail
    refine (int64_neg m w h0 h1).mono ?_
    rintro e w' ⟨rfl, hw⟩
    obtain rfl := hw.symm
    go_wp2_with fail
    refine (int64_pos n _ k0 k1).mono ?_
    rintro e w' ⟨rfl, hw⟩
    obtain rfl := hw.symm
    go_wp2_with fail
    refine (less_tf m n _).mono ?_
    rintro e w' ⟨rfl, hw⟩
    obtain rfl := hw.symm
    go_wp2
    go_ret
    exact ⟨ret_bool (by first | rfl | exact eq_tt _ _ | (simp; done) | (simp; omega)), by repeat (first | exact Grown.refl _ | apply Grown.drew | apply Grown.alloc)⟩
  · subst ho
    clear dn k0 k1
    go_enter Try.func4, Try.ntmps4
    go_wp2_with fail
    refine (int64_neg m w h0 h1).mono ?_
    rintro e w' ⟨rfl, hw⟩
    obtain rfl := hw.symm
    go_wp2_with fail
    refine (int64_pos m _ h0 h1).mono ?_
    rintro e w' ⟨rfl, hw⟩
    obtain rfl := hw.symm
    go_wp2_with fail
    refine (less_tf m m _).mono ?_
    rintro e w' ⟨rfl, hw⟩
    obtain rfl := hw.symm
    go_wp2
    go_ret
    exact ⟨ret_bool (by first | rfl | exact eq_tt _ _ | (simp; done) | (simp; omega)), by repeat (first | exact Grown.refl _ | apply Grown.drew | apply Grown.alloc)⟩
  · go_enter Try.func4, Try.ntmps4
    go_wp2_with fail
    refine (int64_neg m w h0 h1).mono ?_
    rintro e w' ⟨rfl, hw⟩
    obtain rfl := hw.symm
    go_wp2_with fail
    refine (int64_pos n _ k0 k1).mono ?_
    rintro e w' ⟨rfl, hw⟩
    obtain rfl := hw.symm
    go_wp2_with fail
    refine (less_tf m n _).mono ?_
    rintro e w' ⟨rfl, hw⟩
    obtain rfl := hw.symm
    go_wp2
    go_ret
    exact ⟨ret_bool (by first | rfl | exact eq_tt _ _ | (simp; done) | (simp; omega)), by repeat (first | exact Grown.refl _ | apply Grown.drew | apply Grown.alloc)⟩

set_option maxHeartbeats 1000000 in
theorem both_ft (m n : Int) (w : World) (h0 : 0 ≤ m) (h1 : m ≤ 9223372036854775807) (k0 : 0 ≤ n) (k1 : n ≤ 9223372036854775807) :
    Calls Try.prog 4 #[.bool false, .int .u64 m, .bool true, .int .u64 n] w fun e w' => e = .returned (.bool true) ∧ Grown w w' := by
  have dm : (m / 9223372036854775808 == 0) = true := by rw [beq_iff_eq]; omega
  have dn : (n / 9223372036854775808 == 0) = true := by rw [beq_iff_eq]; omega
  rcases (show m < n ∨ m = n ∨ n < m by omega) with ho | ho | ho
  · go_enter Try.func4, Try.ntmps4
    go_wp2_with fail
    refine (int64_pos m w h0 h1).mono ?_
    rintro e w' ⟨rfl, hw⟩
    obtain rfl := hw.symm
    go_wp2_with fail
    refine (int64_neg n _ k0 k1).mono ?_
    rintro e w' ⟨rfl, hw⟩
    obtain rfl := hw.symm
    go_wp2_with fail
    refine (less_ft m n _).mono ?_
    rintro e w' ⟨rfl, hw⟩
    obtain rfl := hw.symm
    go_wp2
    go_ret
    exact ⟨ret_bool (by first | rfl | exact eq_tt _ _ | (simp; done) | (simp; omega)), by repeat (first | exact Grown.refl _ | apply Grown.drew | apply Grown.alloc)⟩
  · subst ho
    clear dn k0 k1
    go_enter Try.func4, Try.ntmps4
    go_wp2_with fail
    refine (int64_pos m w h0 h1).mono ?_
    rintro e w' ⟨rfl, hw⟩
    obtain rfl := hw.symm
    go_wp2_with fail
    refine (int64_neg m _ h0 h1).mono ?_
    rintro e w' ⟨rfl, hw⟩
    obtain rfl := hw.symm
    go_wp2_with fail
    refine (less_ft m m _).mono ?_
    rintro e w' ⟨rfl, hw⟩
    obtain rfl := hw.symm
    go_wp2
    go_ret
    exact ⟨ret_bool (by first | rfl | exact eq_tt _ _ | (simp; done) | (simp; omega)), by repeat (first | exact Grown.refl _ | apply Grown.drew | apply Grown.alloc)⟩
  · go_enter Try.func4, Try.ntmps4
    go_wp2_with fail
    refine (int64_pos m w h0 h1).mono ?_
    rintro e w' ⟨rfl, hw⟩
    obtain rfl := hw.symm
    go_wp2_with fail
    refine (int64_neg n _ k0 k1).mono ?_
    rintro e w' ⟨rfl, hw⟩
    obtain rfl := hw.symm
    go_wp2_with fail
    refine (less_ft m n _).mono ?_
    rintro e w' ⟨rfl, hw⟩
    obtain rfl := hw.symm
    go_wp2
    go_ret
    exact ⟨ret_bool (by first | rfl | exact eq_tt _ _ | (simp; done) | (simp; omega)), by repeat (first | exact Grown.refl _ | apply Grown.drew | apply Grown.alloc)⟩

set_option maxHeartbeats 1000000 in
theorem both_ff (m n : Int) (w : World) (h0 : 0 ≤ m) (h1 : m ≤ 9223372036854775807) (k0 : 0 ≤ n) (k1 : n ≤ 9223372036854775807) :
    Calls Try.prog 4 #[.bool false, .int .u64 m, .bool false, .int .u64 n] w fun e w' => e = .returned (.bool true) ∧ Grown w w' := by
  have dm : (m / 9223372036854775808 == 0) = true := by rw [beq_iff_eq]; omega
  have dn : (n / 9223372036854775808 == 0) = true := by rw [beq_iff_eq]; omega
  rcases (show m < n ∨ m = n ∨ n < m by omega) with ho | ho | ho
  · go_enter Try.func4, Try.ntmps4
    go_wp2_with fail
    refine (int64_pos m w h0 h1).mono ?_
    rintro e w' ⟨rfl, hw⟩
    obtain rfl := hw.symm
    go_wp2_with fail
    refine (int64_pos n _ k0 k1).mono ?_
    rintro e w' ⟨rfl, hw⟩
    obtain rfl := hw.symm
    go_wp2_with fail
    refine (less_ff m n _).mono ?_
    rintro e w' ⟨rfl, hw⟩
    obtain rfl := hw.symm
    go_wp2
    go_ret
    exact ⟨ret_bool (by first | rfl | exact eq_tt _ _ | (simp; done) | (simp; omega)), by repeat (first | exact Grown.refl _ | apply Grown.drew | apply Grown.alloc)⟩
  · subst ho
    clear dn k0 k1
    go_enter Try.func4, Try.ntmps4
    go_wp2_with fail
    refine (int64_pos m w h0 h1).mono ?_
    rintro e w' ⟨rfl, hw⟩
    obtain rfl := hw.symm
    go_wp2_with fail
    refine (int64_pos m _ h0 h1).mono ?_
    rintro e w' ⟨rfl, hw⟩
    obtain rfl := hw.symm
    go_wp2_with fail
    refine (less_ff m m _).mono ?_
    rintro e w' ⟨rfl, hw⟩
    obtain rfl := hw.symm
    go_wp2
    go_ret
    exact ⟨ret_bool (by first | rfl | exact eq_tt _ _ | (simp; done) | (simp; omega)), by repeat (first | exact Grown.refl _ | apply Grown.drew | apply Grown.alloc)⟩
  · go_enter Try.func4, Try.ntmps4
    go_wp2_with fail
    refine (int64_pos m w h0 h1).mono ?_
    rintro e w' ⟨rfl, hw⟩
    obtain rfl := hw.symm
    go_wp2_with fail
    refine (int64_pos n _ k0 k1).mono ?_
    rintro e w' ⟨rfl, hw⟩
    obtain rfl := hw.symm
    go_wp2_with fail
    refine (less_ff m n _).mono ?_
    rintro e w' ⟨rfl, hw⟩
    obtain rfl := hw.symm
    go_wp2
    go_ret
    exact ⟨ret_bool (by first | rfl | exact eq_tt _ _ | (simp; done) | (simp; omega)), by repeat (first | exact Grown.refl _ | apply Grown.drew | apply Grown.alloc)⟩

set_option maxHeartbeats 1000000 in
/-- The first does not fit. -/
theorem out_a (p : Bool) (q : Bool) (m n : Int) (w : World) (h1 : 9223372036854775807 < m) (k0 : 0 ≤ n) :
    Calls Try.prog 4 #[.bool p, .int .u64 m, .bool q, .int .u64 n] w fun e w' => e = .returned (.bool true) ∧ Grown w w' := by
  have dm : (m / 9223372036854775808 == 0) = false := by rw [beq_eq_false_iff_ne]; omega
  by_cases hn : n ≤ 9223372036854775807
  · have dn : (n / 9223372036854775808 == 0) = true := by rw [beq_iff_eq]; omega
    cases q with
    | true =>
      go_enter Try.func4, Try.ntmps4
      go_wp2_with fail
      refine (int64_no p m w h1).mono ?_
      rintro e w' ⟨rfl, hw⟩
      obtain rfl := hw.symm
      go_wp2_with fail
      refine (int64_neg n _ k0 hn).mono ?_
      rintro e w' ⟨rfl, hw⟩
      obtain rfl := hw.symm
      go_wp2
      go_ret
      exact ⟨rfl, by repeat (first | exact Grown.refl _ | apply Grown.drew | apply Grown.alloc)⟩
    | false =>
      go_enter Try.func4, Try.ntmps4
      go_wp2_with fail
      refine (int64_no p m w h1).mono ?_
      rintro e w' ⟨rfl, hw⟩
      obtain rfl := hw.symm
      go_wp2_with fail
      refine (int64_pos n _ k0 hn).mono ?_
      rintro e w' ⟨rfl, hw⟩
      obtain rfl := hw.symm
      go_wp2
      go_ret
      exact ⟨rfl, by repeat (first | exact Grown.refl _ | apply Grown.drew | apply Grown.alloc)⟩
  · have dn : (n / 9223372036854775808 == 0) = false := by rw [beq_eq_false_iff_ne]; omega
    go_enter Try.func4, Try.ntmps4
    go_wp2_with fail
    refine (int64_no p m w h1).mono ?_
    rintro e w' ⟨rfl, hw⟩
    obtain rfl := hw.symm
    go_wp2_with fail
    refine (int64_no q n _ (by omega)).mono ?_
    rintro e w' ⟨rfl, hw⟩
    obtain rfl := hw.symm
    go_wp2
    go_ret
    exact ⟨rfl, by repeat (first | exact Grown.refl _ | apply Grown.drew | apply Grown.alloc)⟩

set_option maxHeartbeats 1000000 in
/-- The first fits, the second does not. -/
theorem out_b (p : Bool) (q : Bool) (m n : Int) (w : World) (h0 : 0 ≤ m) (h1 : m ≤ 9223372036854775807) (k1 : 9223372036854775807 < n) :
    Calls Try.prog 4 #[.bool p, .int .u64 m, .bool q, .int .u64 n] w fun e w' => e = .returned (.bool true) ∧ Grown w w' := by
  have dm : (m / 9223372036854775808 == 0) = true := by rw [beq_iff_eq]; omega
  have dn : (n / 9223372036854775808 == 0) = false := by rw [beq_eq_false_iff_ne]; omega
  cases p with
  | true =>
    go_enter Try.func4, Try.ntmps4
    go_wp2_with fail
    refine (int64_neg m w h0 h1).mono ?_
    rintro e w' ⟨rfl, hw⟩
    obtain rfl := hw.symm
    go_wp2_with fail
    refine (int64_no q n _ k1).mono ?_
    rintro e w' ⟨rfl, hw⟩
    obtain rfl := hw.symm
    go_wp2
    go_ret
    exact ⟨rfl, by repeat (first | exact Grown.refl _ | apply Grown.drew | apply Grown.alloc)⟩
  | false =>
    go_enter Try.func4, Try.ntmps4
    go_wp2_with fail
    refine (int64_pos m w h0 h1).mono ?_
    rintro e w' ⟨rfl, hw⟩
    obtain rfl := hw.symm
    go_wp2_with fail
    refine (int64_no q n _ k1).mono ?_
    rintro e w' ⟨rfl, hw⟩
    obtain rfl := hw.symm
    go_wp2
    go_ret
    exact ⟨rfl, by repeat (first | exact Grown.refl _ | apply Grown.drew | apply Grown.alloc)⟩

end Go.Proofs.Qxb6628768a
