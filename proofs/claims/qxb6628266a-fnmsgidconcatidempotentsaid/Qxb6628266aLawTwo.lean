import Derived.Test.Qxb6628266aLawOne
namespace Go.Proofs.Qxb6628266a
open Go.RowKit

theorem br_big {u : ByteArray} (h : brB u = true) : 2 ≤ u.size := by
  by_cases h2 : 2 ≤ u.size
  · exact h2
  · rw [br_small (by omega)] at h
    cases h

theorem form_ne (s : ByteArray) : (form s).toList.isEmpty = false := by
  have h := br_big (form_br s)
  rw [Lib.toList_data]
  cases hl : (form s).data.toList with
  | nil =>
    have := size_len (form s)
    rw [hl] at this
    simp at this
    omega
  | cons c t => rfl

/-- A bracketed text is '<>' just if it has two bytes. -/
theorem br_two {u : ByteArray} (h : brB u = true) : (u.toList == [60, 62]) = decide (u.size = 2) := by
  have h2 := br_big h
  rw [Lib.toList_data]
  have hl := size_len u
  rw [brB, Bool.and_eq_true] at h
  obtain ⟨hp, hs⟩ := h
  rw [prefB] at hp
  rw [sufB] at hs
  rw [Bool.eq_iff_iff]
  simp only [beq_iff_eq, decide_eq_true_eq]
  constructor
  · intro e
    rw [e] at hl
    simpa using hl.symm
  · intro e
    rw [e] at hl hs
    match hm : u.data.toList, hl with
    | [c0, c1], _ =>
      rw [hm] at hp hs
      simp at hp hs
      rw [hp, hs]

theorem okB_br {u : ByteArray} (h : brB u = true) : okB u = (decide (2 < (u.size : Int)) && decide ((u.size : Int) ≤ 986)) := by
  have h2 := br_big h
  rw [okB, br_two h]
  rw [Bool.eq_iff_iff]
  simp
  omega

set_option maxHeartbeats 400000 in
theorem bytes9 (a b : ByteArray) (w : World) (hs : a.size + b.size ≤ 1048576) :
    Calls Try.prog 9 #[.string a, .string b] w fun e w' => e = .returned (.bool true) ∧ w' = w := by
  go_enter Try.func9, Try.ntmps9
  go_wp2
  go_ret
  exact ⟨rfl, rfl⟩

set_option maxHeartbeats 400000 in
theorem bytes9_no (a b : ByteArray) (w : World) (ha : a.size ≤ maxLen) (hb : b.size ≤ maxLen) (hs : 1048576 < a.size + b.size) :
    Calls Try.prog 9 #[.string a, .string b] w fun e w' => e = .returned (.bool false) ∧ w' = w := by
  unfold maxLen at ha hb
  have ho : 1048576 < a.size ∨ (a.size ≤ 1048576 ∧ 1048576 < b.size) ∨ (a.size ≤ 1048576 ∧ b.size ≤ 1048576) := by omega
  rcases ho with ho | ⟨ho, ho1⟩ | ⟨ho, ho1⟩
  all_goals
    go_enter Try.func9, Try.ntmps9
    go_wp2
    go_ret
    exact ⟨rfl, rfl⟩

set_option maxHeartbeats 400000 in
theorem cat_big (a b : ByteArray) (w : World) (ha : a.size ≤ maxLen) (hb : b.size ≤ maxLen) (hs : 1048576 < a.size + b.size) :
    Calls Try.prog 4 #[.string a, .string b] w fun e w' => e = .returned (.bool true) ∧ w' = w := by
  go_enter Try.func4, Try.ntmps4
  go_wp2_with fail
  refine (bytes9_no a b w ha hb hs).mono ?_
  rintro e w' ⟨rfl, hw⟩
  obtain rfl := hw.symm
  go_wp2
  go_ret
  exact ⟨rfl, rfl⟩

set_option maxHeartbeats 1000000 in
set_option maxRecDepth 100000 in
theorem cat_vis (a b : ByteArray) (w : World) (hs : a.size + b.size ≤ 1048576) (hva : visB a = true) (hvb : visB b = true) :
    Calls Try.prog 4 #[.string a, .string b] w fun e w' => e = .returned (.bool true) ∧ w' = w := by
  have HVA := hid hva
  have HVB := hid hvb
  have HVS : Hid (visB (a ++ b) = true) := hid (by rw [visB_app, hva, hvb]; rfl)
  obtain ⟨u, hu⟩ : ∃ u, form (a ++ b) = u := ⟨_, rfl⟩
  obtain ⟨ua, hua⟩ : ∃ u, form a = u := ⟨_, rfl⟩
  obtain ⟨ub, hub⟩ : ∃ u, form b = u := ⟨_, rfl⟩
  have n1 : u.toList.isEmpty = false := by rw [← hu]; exact form_ne _
  have n2 : ua.toList.isEmpty = false := by rw [← hua]; exact form_ne _
  have n3 : ub.toList.isEmpty = false := by rw [← hub]; exact form_ne _
  have HU := hid hu
  have HUA := hid hua
  have HUB := hid hub
  have HFF : Hid (form u = u) := hid (by rw [← hu]; exact form_form _)
  have HVU : Hid (visB u = true) := hid (by rw [← hu, form_vis]; exact HVS.out)
  have HBU : Hid (brB u = true) := hid (by rw [← hu]; exact form_br _)
  have hsa : (a ++ b).size = a.size + b.size := ByteArray.size_append
  have HSA : Hid ((a ++ b).size ≤ 1048576) := hid (by omega)
  have hsz : u.size ≤ 1048578 := by have := form_size (a ++ b); rw [hu] at this; omega
  clear hva hvb hu hua hub hsa
  cases hb : brB (a ++ b) with
  | true =>
    have HUS : Hid (a ++ b = u) := hid ((form_of_br hb).symm.trans HU.out)
    clear hb
    go_enter Try.func4, Try.ntmps4
    go_wp2_with fail
    refine (bytes9 a b w hs).mono ?_
    rintro e w' ⟨rfl, hw⟩
    obtain rfl := hw.symm
    go_wp2_with fail
    rw [HUS.out]
    refine (msg_vis u u w hsz HVU.out HFF.out).mono ?_
    rintro e w' ⟨rfl, hw⟩
    obtain rfl := hw.symm
    go_wp2_with fail
    refine (msg_vis a ua w (by omega) HVA.out HUA.out).mono ?_
    rintro e w' ⟨rfl, hw⟩
    obtain rfl := hw.symm
    go_wp2_with fail
    refine (msg_vis b ub w (by omega) HVB.out HUB.out).mono ?_
    rintro e w' ⟨rfl, hw⟩
    obtain rfl := hw.symm
    go_wp2_with fail
    refine (vis8 a w (by omega)).mono ?_
    rintro e w' ⟨rfl, hw⟩
    obtain rfl := hw.symm
    rw [HVA.out]
    go_wp2_with fail
    refine (vis8 b w (by omega)).mono ?_
    rintro e w' ⟨rfl, hw⟩
    obtain rfl := hw.symm
    rw [HVB.out]
    go_wp2_with fail
    refine (br6 u w (by omega)).mono ?_
    rintro e w' ⟨rfl, hw⟩
    obtain rfl := hw.symm
    rw [HBU.out]
    have hpar : (2 < u.size ∧ u.size ≤ 986) ∨ u.size ≤ 2 ∨ (2 < u.size ∧ 986 < u.size) := by omega
    rcases hpar with ⟨p1, p2⟩ | p1 | ⟨p1, p2⟩
    · have HO : Hid (okB u = true) := hid (by rw [okB_br HBU.out]; simp; omega)
      have d1 : decide (2 < (u.size : Int)) = true := by simp; omega
      have d2 : decide ((u.size : Int) ≤ 986) = true := by simp; omega
      rw [HO.out]
      go_wp2_with fail
      refine (msg_vis u u w hsz HVU.out HFF.out).mono ?_
      rintro e w' ⟨rfl, hw⟩
      obtain rfl := hw.symm
      rw [HO.out]
      go_wp2
      go_ret
      exact ⟨rfl, rfl⟩
    · have HO : Hid (okB u = false) := hid (by rw [okB_br HBU.out]; simp; omega)
      rw [HO.out]
      go_wp2_with fail
      refine (msg_vis u u w hsz HVU.out HFF.out).mono ?_
      rintro e w' ⟨rfl, hw⟩
      obtain rfl := hw.symm
      rw [HO.out]
      go_wp2
      go_ret
      exact ⟨rfl, rfl⟩
    · have HO : Hid (okB u = false) := hid (by rw [okB_br HBU.out]; simp; omega)
      rw [HO.out]
      go_wp2_with fail
      refine (msg_vis u u w hsz HVU.out HFF.out).mono ?_
      rintro e w' ⟨rfl, hw⟩
      obtain rfl := hw.symm
      rw [HO.out]
      go_wp2
      go_ret
      exact ⟨rfl, rfl⟩
  | false =>
    obtain ⟨sb, hsb⟩ : ∃ sb, a ++ b = sb := ⟨_, rfl⟩
    rw [hsb] at hb HU HSA HVS
    have HSB := hid hsb
    have HUS : Hid (brack sb = u) := hid ((form_of_not hb).symm.trans HU.out)
    have hz1 : u.size = sb.size + 2 := by rw [← HUS.out]; exact brack_size sb
    have hsz3 := HSA.out
    have hne : (u.toList == sb.toList) = false := by
      rw [beq_eq_false_iff_ne]
      intro e
      rw [Lib.toList_data, Lib.toList_data] at e
      have := congrArg List.length e
      rw [size_len, size_len] at this
      omega
    have heq : (u.toList == ((⟨#[60]⟩ : ByteArray) ++ sb ++ ⟨#[62]⟩).toList) = true := by
      rw [← HUS.out]
      exact beq_self_eq_true _
    clear hb hsb hz1
    go_enter Try.func4, Try.ntmps4
    go_wp2_with fail
    refine (bytes9 a b w hs).mono ?_
    rintro e w' ⟨rfl, hw⟩
    obtain rfl := hw.symm
    go_wp2_with fail
    rw [HSB.out]
    refine (msg_vis sb u w (by omega) HVS.out HU.out).mono ?_
    rintro e w' ⟨rfl, hw⟩
    obtain rfl := hw.symm
    go_wp2_with fail
    refine (msg_vis a ua w (by omega) HVA.out HUA.out).mono ?_
    rintro e w' ⟨rfl, hw⟩
    obtain rfl := hw.symm
    go_wp2_with fail
    refine (msg_vis b ub w (by omega) HVB.out HUB.out).mono ?_
    rintro e w' ⟨rfl, hw⟩
    obtain rfl := hw.symm
    go_wp2_with fail
    refine (vis8 a w (by omega)).mono ?_
    rintro e w' ⟨rfl, hw⟩
    obtain rfl := hw.symm
    rw [HVA.out]
    go_wp2_with fail
    refine (vis8 b w (by omega)).mono ?_
    rintro e w' ⟨rfl, hw⟩
    obtain rfl := hw.symm
    rw [HVB.out]
    go_wp2_with fail
    refine (br6 u w (by omega)).mono ?_
    rintro e w' ⟨rfl, hw⟩
    obtain rfl := hw.symm
    rw [HBU.out]
    have hpar : (2 < u.size ∧ u.size ≤ 986) ∨ u.size ≤ 2 ∨ (2 < u.size ∧ 986 < u.size) := by omega
    rcases hpar with ⟨p1, p2⟩ | p1 | ⟨p1, p2⟩
    · have HO : Hid (okB u = true) := hid (by rw [okB_br HBU.out]; simp; omega)
      have d1 : decide (2 < (u.size : Int)) = true := by simp; omega
      have d2 : decide ((u.size : Int) ≤ 986) = true := by simp; omega
      rw [HO.out]
      go_wp2_with fail
      refine (msg_vis u u w hsz HVU.out HFF.out).mono ?_
      rintro e w' ⟨rfl, hw⟩
      obtain rfl := hw.symm
      rw [HO.out]
      go_wp2
      go_ret
      exact ⟨rfl, rfl⟩
    · have HO : Hid (okB u = false) := hid (by rw [okB_br HBU.out]; simp; omega)
      rw [HO.out]
      go_wp2_with fail
      refine (msg_vis u u w hsz HVU.out HFF.out).mono ?_
      rintro e w' ⟨rfl, hw⟩
      obtain rfl := hw.symm
      rw [HO.out]
      go_wp2
      go_ret
      exact ⟨rfl, rfl⟩
    · have HO : Hid (okB u = false) := hid (by rw [okB_br HBU.out]; simp; omega)
      rw [HO.out]
      go_wp2_with fail
      refine (msg_vis u u w hsz HVU.out HFF.out).mono ?_
      rintro e w' ⟨rfl, hw⟩
      obtain rfl := hw.symm
      rw [HO.out]
      go_wp2
      go_ret
      exact ⟨rfl, rfl⟩

set_option maxHeartbeats 1000000 in
set_option maxRecDepth 100000 in
theorem cat_inv_ff (a b : ByteArray) (w : World) (hs : a.size + b.size ≤ 1048576) (hva : visB a = false) (hvb : visB b = false) :
    Calls Try.prog 4 #[.string a, .string b] w fun e w' => e = .returned (.bool true) ∧ w' = w := by
  have HVA := hid hva
  have HVB := hid hvb
  have HVS : Hid (visB (a ++ b) = false) := hid (by rw [visB_app, hva, hvb]; rfl)
  have HSA : Hid ((a ++ b).size ≤ 1048578) := hid (by rw [ByteArray.size_append]; omega)
  clear hva hvb
  go_enter Try.func4, Try.ntmps4
  go_wp2_with fail
  refine (bytes9 a b w hs).mono ?_
  rintro e w' ⟨rfl, hw⟩
  obtain rfl := hw.symm
  go_wp2_with fail
  refine (msg_inv (a ++ b) w HSA.out HVS.out).mono ?_
  rintro e w' ⟨rfl, hw⟩
  obtain rfl := hw.symm
  go_wp2_with fail
  refine (msg_inv a w (by omega) HVA.out).mono ?_
  rintro e w' ⟨rfl, hw⟩
  obtain rfl := hw.symm
  go_wp2_with fail
  refine (msg_inv b w (by omega) HVB.out).mono ?_
  rintro e w' ⟨rfl, hw⟩
  obtain rfl := hw.symm
  go_wp2_with fail
  refine (vis8 a w (by omega)).mono ?_
  rintro e w' ⟨rfl, hw⟩
  obtain rfl := hw.symm
  rw [HVA.out]
  go_wp2
  go_ret
  exact ⟨rfl, rfl⟩

set_option maxHeartbeats 1000000 in
set_option maxRecDepth 100000 in
theorem cat_inv_ft (a b : ByteArray) (w : World) (hs : a.size + b.size ≤ 1048576) (hva : visB a = false) (hvb : visB b = true) :
    Calls Try.prog 4 #[.string a, .string b] w fun e w' => e = .returned (.bool true) ∧ w' = w := by
  have HVA := hid hva
  have HVB := hid hvb
  have HVS : Hid (visB (a ++ b) = false) := hid (by rw [visB_app, hva, hvb]; rfl)
  have HSA : Hid ((a ++ b).size ≤ 1048578) := hid (by rw [ByteArray.size_append]; omega)
  obtain ⟨ub, hub⟩ : ∃ u, form b = u := ⟨_, rfl⟩
  have n3 : ub.toList.isEmpty = false := by rw [← hub]; exact form_ne _
  have HUB := hid hub
  clear hub
  clear hva hvb
  go_enter Try.func4, Try.ntmps4
  go_wp2_with fail
  refine (bytes9 a b w hs).mono ?_
  rintro e w' ⟨rfl, hw⟩
  obtain rfl := hw.symm
  go_wp2_with fail
  refine (msg_inv (a ++ b) w HSA.out HVS.out).mono ?_
  rintro e w' ⟨rfl, hw⟩
  obtain rfl := hw.symm
  go_wp2_with fail
  refine (msg_inv a w (by omega) HVA.out).mono ?_
  rintro e w' ⟨rfl, hw⟩
  obtain rfl := hw.symm
  go_wp2_with fail
  refine (msg_vis b ub w (by omega) HVB.out HUB.out).mono ?_
  rintro e w' ⟨rfl, hw⟩
  obtain rfl := hw.symm
  go_wp2_with fail
  refine (vis8 a w (by omega)).mono ?_
  rintro e w' ⟨rfl, hw⟩
  obtain rfl := hw.symm
  rw [HVA.out]
  go_wp2
  go_ret
  exact ⟨rfl, rfl⟩

set_option maxHeartbeats 1000000 in
set_option maxRecDepth 100000 in
theorem cat_inv_tf (a b : ByteArray) (w : World) (hs : a.size + b.size ≤ 1048576) (hva : visB a = true) (hvb : visB b = false) :
    Calls Try.prog 4 #[.string a, .string b] w fun e w' => e = .returned (.bool true) ∧ w' = w := by
  have HVA := hid hva
  have HVB := hid hvb
  have HVS : Hid (visB (a ++ b) = false) := hid (by rw [visB_app, hva, hvb]; rfl)
  have HSA : Hid ((a ++ b).size ≤ 1048578) := hid (by rw [ByteArray.size_append]; omega)
  obtain ⟨ua, hua⟩ : ∃ u, form a = u := ⟨_, rfl⟩
  have n2 : ua.toList.isEmpty = false := by rw [← hua]; exact form_ne _
  have HUA := hid hua
  clear hua
  clear hva hvb
  go_enter Try.func4, Try.ntmps4
  go_wp2_with fail
  refine (bytes9 a b w hs).mono ?_
  rintro e w' ⟨rfl, hw⟩
  obtain rfl := hw.symm
  go_wp2_with fail
  refine (msg_inv (a ++ b) w HSA.out HVS.out).mono ?_
  rintro e w' ⟨rfl, hw⟩
  obtain rfl := hw.symm
  go_wp2_with fail
  refine (msg_vis a ua w (by omega) HVA.out HUA.out).mono ?_
  rintro e w' ⟨rfl, hw⟩
  obtain rfl := hw.symm
  go_wp2_with fail
  refine (msg_inv b w (by omega) HVB.out).mono ?_
  rintro e w' ⟨rfl, hw⟩
  obtain rfl := hw.symm
  go_wp2_with fail
  refine (vis8 a w (by omega)).mono ?_
  rintro e w' ⟨rfl, hw⟩
  obtain rfl := hw.symm
  rw [HVA.out]
  go_wp2_with fail
  refine (vis8 b w (by omega)).mono ?_
  rintro e w' ⟨rfl, hw⟩
  obtain rfl := hw.symm
  rw [HVB.out]
  go_wp2
  go_ret
  exact ⟨rfl, rfl⟩

end Go.Proofs.Qxb6628266a
