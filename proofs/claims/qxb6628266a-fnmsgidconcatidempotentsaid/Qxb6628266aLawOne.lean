import Derived.Test.Qxb6628266aMsg
namespace Go.Proofs.Qxb6628266a
open Go.RowKit

theorem msg_vis (s u : ByteArray) (w : World) (hs : s.size ≤ 1048578) (hv : visB s = true) (hu : form s = u) :
    Calls Try.prog 7 #[.string s] w fun e w' => e = .returned (.tuple #[.string u, .bool (okB u)]) ∧ w' = w := by
  refine (msg7 s w hs).mono ?_
  rintro e w' ⟨⟨_, rfl⟩ | ⟨h, _⟩, hw⟩
  · exact ⟨by rw [hu], hw⟩
  · rw [form_vis, hv] at h
    cases h

theorem msg_inv (s : ByteArray) (w : World) (hs : s.size ≤ 1048578) (hv : visB s = false) :
    Calls Try.prog 7 #[.string s] w fun e w' => e = .returned (.tuple #[.string ⟨#[]⟩, .bool false]) ∧ w' = w := by
  refine (msg7 s w hs).mono ?_
  rintro e w' ⟨⟨h, _⟩ | ⟨_, rfl⟩, hw⟩
  · rw [form_vis, hv] at h
    cases h
  · exact ⟨rfl, hw⟩

set_option maxHeartbeats 400000 in
theorem bytes5 (s : ByteArray) (w : World) (hs : s.size ≤ 1048576) :
    Calls Try.prog 5 #[.string s] w fun e w' => e = .returned (.bool true) ∧ w' = w := by
  go_enter Try.func5, Try.ntmps5
  go_wp2
  go_ret
  exact ⟨rfl, rfl⟩
set_option maxHeartbeats 400000 in
theorem bytes5_no (s : ByteArray) (w : World) (hs : 1048576 < s.size) :
    Calls Try.prog 5 #[.string s] w fun e w' => e = .returned (.bool false) ∧ w' = w := by
  go_enter Try.func5, Try.ntmps5
  go_wp2
  go_ret
  exact ⟨rfl, rfl⟩

set_option maxHeartbeats 400000 in
theorem bare_big (s : ByteArray) (w : World) (hs : 1048576 < s.size) :
    Calls Try.prog 3 #[.string s] w fun e w' => e = .returned (.bool true) ∧ w' = w := by
  go_enter Try.func3, Try.ntmps3
  go_wp2_with fail
  refine (bytes5_no s w hs).mono ?_
  rintro e w' ⟨rfl, hw⟩
  obtain rfl := hw.symm
  go_wp2
  go_ret
  exact ⟨rfl, rfl⟩

theorem ret_bool {b : Bool} (h : b = true) : Ending.returned (.bool b) = .returned (.bool true) := by rw [h]
theorem okB_no {u : ByteArray} (h : u.toList = [60, 62]) : (!okB u) = true := by simp [okB, h]
theorem okB_self (u : ByteArray) : (okB u == (!u.toList == [60, 62] && decide ((u.size : Int) ≤ 986))) = true := by simp [okB]

set_option maxHeartbeats 1000000 in
set_option maxRecDepth 100000 in
theorem bare_vis (s : ByteArray) (w : World) (hs : s.size ≤ 1048576) (hv : visB s = true) :
    Calls Try.prog 3 #[.string s] w fun e w' => e = .returned (.bool true) ∧ w' = w := by
  have HV := hid hv
  clear hv
  cases hb : brB s with
  | true =>
    have HB := hid hb
    have HF := hid (form_of_br hb)
    clear hb
    go_enter Try.func3, Try.ntmps3
    go_wp2_with fail
    refine (bytes5 s w hs).mono ?_
    rintro e w' ⟨rfl, hw⟩
    obtain rfl := hw.symm
    go_wp2_with fail
    refine (br6 s w (by omega)).mono ?_
    rintro e w' ⟨rfl, hw⟩
    obtain rfl := hw.symm
    rw [HB.out]
    go_wp2_with fail
    refine (msg_vis s s w (by omega) HV.out HF.out).mono ?_
    rintro e w' ⟨rfl, hw⟩
    obtain rfl := hw.symm
    go_wp2_with fail
    refine (msg_vis s s w (by omega) HV.out HF.out).mono ?_
    rintro e w' ⟨rfl, hw⟩
    obtain rfl := hw.symm
    go_wp2_with fail
    refine (vis8 s w (by omega)).mono ?_
    rintro e w' ⟨rfl, hw⟩
    obtain rfl := hw.symm
    rw [HV.out]
    go_wp2
    all_goals go_ret
    · exact ⟨ret_bool (okB_no (by assumption)), rfl⟩
    · exact ⟨ret_bool (okB_self _), rfl⟩
  | false =>
    have HB := hid hb
    obtain ⟨u, hu⟩ : ∃ u, form s = u := ⟨_, rfl⟩
    have HF := hid hu
    have HU := hid ((form_of_not hb).symm.trans hu)
    have HFF : Hid (form u = u) := hid (by rw [← hu]; exact form_form s)
    have HVU : Hid (visB u = true) := hid (by rw [← hu, form_vis]; exact HV.out)
    have hsz : u.size ≤ 1048578 := by have := form_size s; rw [hu] at this; omega
    clear hb hu
    go_enter Try.func3, Try.ntmps3
    go_wp2_with fail
    refine (bytes5 s w hs).mono ?_
    rintro e w' ⟨rfl, hw⟩
    obtain rfl := hw.symm
    go_wp2_with fail
    refine (br6 s w (by omega)).mono ?_
    rintro e w' ⟨rfl, hw⟩
    obtain rfl := hw.symm
    rw [HB.out]
    go_wp2_with fail
    rw [show ((⟨#[60]⟩ : ByteArray) ++ s ++ ⟨#[62]⟩) = u from HU.out]
    refine (msg_vis s u w (by omega) HV.out HF.out).mono ?_
    rintro e w' ⟨rfl, hw⟩
    obtain rfl := hw.symm
    go_wp2_with fail
    refine (msg_vis u u w (by omega) HVU.out HFF.out).mono ?_
    rintro e w' ⟨rfl, hw⟩
    obtain rfl := hw.symm
    go_wp2_with fail
    refine (vis8 s w (by omega)).mono ?_
    rintro e w' ⟨rfl, hw⟩
    obtain rfl := hw.symm
    rw [HV.out]
    go_wp2
    all_goals go_ret
    · exact ⟨ret_bool (okB_no (by assumption)), rfl⟩
    · exact ⟨ret_bool (okB_self _), rfl⟩

set_option maxHeartbeats 1000000 in
set_option maxRecDepth 100000 in
theorem bare_inv (s : ByteArray) (w : World) (hs : s.size ≤ 1048576) (hv : visB s = false) :
    Calls Try.prog 3 #[.string s] w fun e w' => e = .returned (.bool true) ∧ w' = w := by
  have HV := hid hv
  clear hv
  cases hb : brB s with
  | true =>
    have HB := hid hb
    clear hb
    go_enter Try.func3, Try.ntmps3
    go_wp2_with fail
    refine (bytes5 s w hs).mono ?_
    rintro e w' ⟨rfl, hw⟩
    obtain rfl := hw.symm
    go_wp2_with fail
    refine (br6 s w (by omega)).mono ?_
    rintro e w' ⟨rfl, hw⟩
    obtain rfl := hw.symm
    rw [HB.out]
    go_wp2_with fail
    refine (msg_inv s w (by omega) HV.out).mono ?_
    rintro e w' ⟨rfl, hw⟩
    obtain rfl := hw.symm
    go_wp2_with fail
    refine (msg_inv s w (by omega) HV.out).mono ?_
    rintro e w' ⟨rfl, hw⟩
    obtain rfl := hw.symm
    go_wp2_with fail
    refine (vis8 s w (by omega)).mono ?_
    rintro e w' ⟨rfl, hw⟩
    obtain rfl := hw.symm
    rw [HV.out]
    go_wp2
    go_ret
    exact ⟨rfl, rfl⟩
  | false =>
    have HB := hid hb
    have HU := hid (form_of_not hb)
    have HVU : Hid (visB (brack s) = false) := hid (by rw [brack_vis]; exact HV.out)
    have hsz : (brack s).size ≤ 1048578 := by have := brack_size s; omega
    have HSZ := hid hsz
    clear hb hsz
    go_enter Try.func3, Try.ntmps3
    go_wp2_with fail
    refine (bytes5 s w hs).mono ?_
    rintro e w' ⟨rfl, hw⟩
    obtain rfl := hw.symm
    go_wp2_with fail
    refine (br6 s w (by omega)).mono ?_
    rintro e w' ⟨rfl, hw⟩
    obtain rfl := hw.symm
    rw [HB.out]
    go_wp2_with fail
    rw [show ((⟨#[60]⟩ : ByteArray) ++ s ++ ⟨#[62]⟩) = brack s from rfl]
    refine (msg_inv s w (by omega) HV.out).mono ?_
    rintro e w' ⟨rfl, hw⟩
    obtain rfl := hw.symm
    go_wp2_with fail
    refine (msg_inv (brack s) w HSZ.out HVU.out).mono ?_
    rintro e w' ⟨rfl, hw⟩
    obtain rfl := hw.symm
    go_wp2_with fail
    refine (vis8 s w (by omega)).mono ?_
    rintro e w' ⟨rfl, hw⟩
    obtain rfl := hw.symm
    rw [HV.out]
    go_wp2
    go_ret
    exact ⟨rfl, rfl⟩

end Go.Proofs.Qxb6628266a
