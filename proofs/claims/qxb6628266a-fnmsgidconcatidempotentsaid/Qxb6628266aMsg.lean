import Derived.Test.Qxb6628266aPlain
namespace Go.Proofs.Qxb6628266a
open Go.RowKit

theorem hid {p : Prop} (h : p) : Hid p := h

set_option maxHeartbeats 400000 in
theorem pre11 (s : ByteArray) (w : World) (hs : s.size ≤ 1048580) :
    Calls Try.prog 11 #[.string s, .string ⟨#[60]⟩] w fun e w' => e = .returned (.bool (prefB s)) ∧ w' = w := by
  by_cases h : 1 ≤ s.size
  · have HP := hid (pref_ext s)
    go_enter Try.func11, Try.ntmps11
    go_wp2
    go_ret
    exact ⟨by rw [← HP.out]; rfl, rfl⟩
  · have HP := hid (pref_empty (show s.size < 1 by omega))
    go_enter Try.func11, Try.ntmps11
    go_wp2
    go_ret
    exact ⟨by rw [HP.out]; rfl, rfl⟩

set_option maxHeartbeats 400000 in
theorem suf12 (s : ByteArray) (w : World) (hs : s.size ≤ 1048580) :
    Calls Try.prog 12 #[.string s, .string ⟨#[62]⟩] w fun e w' => e = .returned (.bool (sufB s)) ∧ w' = w := by
  by_cases h : 1 ≤ s.size
  · have HP := hid (suf_ext s h)
    go_enter Try.func12, Try.ntmps12
    go_wp2
    go_ret
    exact ⟨by rw [← HP.out]; rfl, rfl⟩
  · have HP := hid (suf_empty (show s.size < 1 by omega))
    go_enter Try.func12, Try.ntmps12
    go_wp2
    go_ret
    exact ⟨by rw [HP.out]; rfl, rfl⟩

theorem br_yes {s : ByteArray} (h0 : 0 < s.size) (h1 : (s[0].toNat : Int) = 60) (hl : s.size - 1 < s.size) : (((s[s.size - 1]'hl).toNat : Int) == 62) = brB s := by
  rw [brB, pref_get h0, suf_get hl, Bool.eq_iff_iff]
  simp
  omega
theorem br_no {s : ByteArray} (h0 : 0 < s.size) (h1 : ¬ (s[0].toNat : Int) = 60) : brB s = false := by
  rw [brB, pref_get h0]
  simp
  intro h
  omega

set_option maxHeartbeats 400000 in
theorem br6 (s : ByteArray) (w : World) (hs : s.size ≤ 1048580) :
    Calls Try.prog 6 #[.string s] w fun e w' => e = .returned (.bool (brB s)) ∧ w' = w := by
  by_cases h : 2 ≤ s.size
  · go_enter Try.func6, Try.ntmps6
    go_wp2
    all_goals go_ret
    · exact ⟨by rw [← br_yes (by assumption) (by assumption) (by omega)]; rfl, rfl⟩
    · exact ⟨by rw [br_no (by assumption) (by assumption)]; rfl, rfl⟩
  · have HP := hid (br_small (show s.size < 2 by omega))
    go_enter Try.func6, Try.ntmps6
    go_wp2
    go_ret
    exact ⟨by rw [HP.out]; rfl, rfl⟩

theorem vis_not {s : ByteArray} {k : Nat} (hlt : k < s.size) (h : (s[k].toNat : Int) < 33 ∨ 126 < (s[k].toNat : Int)) : visB s = false := by
  cases hv : visB s
  · rfl
  · have := (visB_iff s).1 hv k hlt
    omega
theorem vis_step {s : ByteArray} {k : Nat} (hI : ∀ (j : Nat) (h : j < s.size), j < k → 33 ≤ s[j].toNat ∧ s[j].toNat ≤ 126) (hlt : k < s.size) (h : 33 ≤ (s[k].toNat : Int) ∧ (s[k].toNat : Int) ≤ 126) : ∀ (j : Nat) (h : j < s.size), j < k + 1 → 33 ≤ s[j].toNat ∧ s[j].toNat ≤ 126 := by
  intro j hj hk
  by_cases e : j = k
  · subst e; omega
  · exact hI j hj (by omega)

set_option maxHeartbeats 400000 in
theorem vis8 (s : ByteArray) (w : World) (hs : s.size ≤ 1048580) :
    Calls Try.prog 8 #[.string s] w fun e w' => e = .returned (.bool (visB s)) ∧ w' = w := by
  go_enter Try.func8, Try.ntmps8
  go_wp2
  go_loop [3] (fun i => ∃ k : Nat, k ≤ s.size ∧ i = .int .i64 k ∧ Hid (∀ (j : Nat) (h : j < s.size), j < k → 33 ≤ s[j].toNat ∧ s[j].toNat ≤ 126)) (fun i => s.size - (intOf i).toNat)
  case atStart => exact ⟨0, Nat.zero_le _, rfl, fun j _ h => absurd h (Nat.not_lt_zero _)⟩
  case round =>
    obtain ⟨k, hk, rfl, HI⟩ := hrel
    by_cases hlt : k < s.size
    · go_wp2
      · go_ret
        exact ⟨by rw [vis_not hlt (by assumption)]; rfl, rfl⟩
      · go_round
        case rel => exact ⟨k + 1, by omega, by go_num, vis_step HI.out hlt (by assumption)⟩
        case measure => simp [intOf]; omega
      · go_ret
        exact ⟨by rw [vis_not hlt (Or.inl (by assumption))]; rfl, rfl⟩
    · go_wp2
      go_ret
      have hv : visB s = true := (visB_iff s).2 (fun j h => HI.out j h (by omega))
      exact ⟨by rw [hv]; rfl, rfl⟩

theorem vis_or {n : Nat} (h : (n : Int) ≤ 32 ∨ 126 < (n : Int)) : (n : Int) < 33 ∨ 126 < (n : Int) := by omega
theorem vis_and {n : Nat} (h : 32 < (n : Int) ∧ (n : Int) ≤ 126) : 33 ≤ (n : Int) ∧ (n : Int) ≤ 126 := by omega

set_option maxHeartbeats 1000000 in
theorem msg10 (s : ByteArray) (w : World) (hs : s.size ≤ 1048578) :
    Calls Try.prog 10 #[.string s] w fun e w' => MsgPost (form s) e ∧ w' = w := by
  obtain ⟨u, hu⟩ : ∃ u, u = form s := ⟨_, rfl⟩
  have hz2 : u.size ≤ 1048580 := by have := form_size s; rw [← hu] at this; omega
  rw [← hu]
  cases hp : prefB s with
  | false =>
    have HU : Hid (u = brack s) := hid (hu.trans (form_of_not (show brB s = false by simp [brB, hp])))
    have HP := hid hp
    clear hp hu
    go_enter Try.func10, Try.ntmps10
    go_wp2_with fail
    refine (pre11 s w (by omega)).mono ?_
    rintro e w' ⟨rfl, hw⟩
    obtain rfl := hw.symm
    rw [HP.out]
    go_wp2
    rw [show (1 + (s.size : Int) + 1) = (u.size : Int) by have := brack_size s; rw [← HU.out] at this; omega, show ((⟨#[60]⟩ : ByteArray) ++ s ++ ⟨#[62]⟩) = u from HU.out.symm]
    go_loop [18] (fun i => ∃ k : Nat, k ≤ u.size ∧ i = .int .i64 k ∧ Hid (∀ (j : Nat) (h : j < u.size), j < k → 33 ≤ u[j].toNat ∧ u[j].toNat ≤ 126)) (fun i => u.size - (intOf i).toNat)
    case atStart => exact ⟨0, Nat.zero_le _, rfl, fun j _ h => absurd h (Nat.not_lt_zero _)⟩
    case round =>
      obtain ⟨k, hk, rfl, HI⟩ := hrel
      by_cases hlt : k < u.size
      · go_wp2
        · go_ret2
          exact ⟨Or.inr ⟨vis_not hlt (vis_or (by assumption)), rfl⟩, rfl⟩
        · go_round
          case rel => exact ⟨k + 1, by omega, by go_num, vis_step HI.out hlt (vis_and (by assumption))⟩
          case measure => simp [intOf]; omega
        · go_ret2
          exact ⟨Or.inr ⟨vis_not hlt (vis_or (Or.inl (by assumption))), rfl⟩, rfl⟩
      · have hv : visB u = true := (visB_iff u).2 (fun j h => HI.out j h (by omega))
        have HV := hid hv
        clear hv HI
        cases hq : (u.toList == [60, 62]) with
        | true =>
          have HO : Hid (okB u = false) := by show okB u = false; simp only [okB, hq]; rfl
          go_wp2
          go_ret2
          exact ⟨Or.inl ⟨HV.out, by rw [HO.out]; rfl⟩, rfl⟩
        | false =>
          have HO : Hid (okB u = decide (12 + (u.size : Int) ≤ 998)) := by
            show okB u = decide (12 + (u.size : Int) ≤ 998)
            simp only [okB, hq]
            rw [Bool.eq_iff_iff]
            simp
            omega
          go_wp2
          go_ret2
          exact ⟨Or.inl ⟨HV.out, by rw [HO.out]; rfl⟩, rfl⟩
  | true =>
    have HP := hid hp
    cases hq : sufB s with
    | false =>
      have HU : Hid (u = brack s) := hid (hu.trans (form_of_not (show brB s = false by simp [brB, hq])))
      have HQ := hid hq
      clear hp hq hu
      go_enter Try.func10, Try.ntmps10
      go_wp2_with fail
      refine (pre11 s w (by omega)).mono ?_
      rintro e w' ⟨rfl, hw⟩
      obtain rfl := hw.symm
      rw [HP.out]
      go_wp2_with fail
      refine (suf12 s w (by omega)).mono ?_
      rintro e w' ⟨rfl, hw⟩
      obtain rfl := hw.symm
      rw [HQ.out]
      go_wp2
      rw [show (1 + (s.size : Int) + 1) = (u.size : Int) by have := brack_size s; rw [← HU.out] at this; omega, show ((⟨#[60]⟩ : ByteArray) ++ s ++ ⟨#[62]⟩) = u from HU.out.symm]
      go_loop [18] (fun i => ∃ k : Nat, k ≤ u.size ∧ i = .int .i64 k ∧ Hid (∀ (j : Nat) (h : j < u.size), j < k → 33 ≤ u[j].toNat ∧ u[j].toNat ≤ 126)) (fun i => u.size - (intOf i).toNat)
      case atStart => exact ⟨0, Nat.zero_le _, rfl, fun j _ h => absurd h (Nat.not_lt_zero _)⟩
      case round =>
        obtain ⟨k, hk, rfl, HI⟩ := hrel
        by_cases hlt : k < u.size
        · go_wp2
          · go_ret2
            exact ⟨Or.inr ⟨vis_not hlt (vis_or (by assumption)), rfl⟩, rfl⟩
          · go_round
            case rel => exact ⟨k + 1, by omega, by go_num, vis_step HI.out hlt (vis_and (by assumption))⟩
            case measure => simp [intOf]; omega
          · go_ret2
            exact ⟨Or.inr ⟨vis_not hlt (vis_or (Or.inl (by assumption))), rfl⟩, rfl⟩
        · have hv : visB u = true := (visB_iff u).2 (fun j h => HI.out j h (by omega))
          have HV := hid hv
          clear hv HI
          cases hq : (u.toList == [60, 62]) with
          | true =>
            have HO : Hid (okB u = false) := by show okB u = false; simp only [okB, hq]; rfl
            go_wp2
            go_ret2
            exact ⟨Or.inl ⟨HV.out, by rw [HO.out]; rfl⟩, rfl⟩
          | false =>
            have HO : Hid (okB u = decide (12 + (u.size : Int) ≤ 998)) := by
              show okB u = decide (12 + (u.size : Int) ≤ 998)
              simp only [okB, hq]
              rw [Bool.eq_iff_iff]
              simp
              omega
            go_wp2
            go_ret2
            exact ⟨Or.inl ⟨HV.out, by rw [HO.out]; rfl⟩, rfl⟩
    | true =>
      have HU : u = s := hu.trans (form_of_br (by simp [brB, hp, hq]))
      have HQ := hid hq
      clear hp hq hu
      subst HU
      go_enter Try.func10, Try.ntmps10
      go_wp2_with fail
      refine (pre11 u w (by omega)).mono ?_
      rintro e w' ⟨rfl, hw⟩
      obtain rfl := hw.symm
      rw [HP.out]
      go_wp2_with fail
      refine (suf12 u w (by omega)).mono ?_
      rintro e w' ⟨rfl, hw⟩
      obtain rfl := hw.symm
      rw [HQ.out]
      go_wp2
      go_loop [18] (fun i => ∃ k : Nat, k ≤ u.size ∧ i = .int .i64 k ∧ Hid (∀ (j : Nat) (h : j < u.size), j < k → 33 ≤ u[j].toNat ∧ u[j].toNat ≤ 126)) (fun i => u.size - (intOf i).toNat)
      case atStart => exact ⟨0, Nat.zero_le _, rfl, fun j _ h => absurd h (Nat.not_lt_zero _)⟩
      case round =>
        obtain ⟨k, hk, rfl, HI⟩ := hrel
        by_cases hlt : k < u.size
        · go_wp2
          · go_ret2
            exact ⟨Or.inr ⟨vis_not hlt (vis_or (by assumption)), rfl⟩, rfl⟩
          · go_round
            case rel => exact ⟨k + 1, by omega, by go_num, vis_step HI.out hlt (vis_and (by assumption))⟩
            case measure => simp [intOf]; omega
          · go_ret2
            exact ⟨Or.inr ⟨vis_not hlt (vis_or (Or.inl (by assumption))), rfl⟩, rfl⟩
        · have hv : visB u = true := (visB_iff u).2 (fun j h => HI.out j h (by omega))
          have HV := hid hv
          clear hv HI
          cases hq : (u.toList == [60, 62]) with
          | true =>
            have HO : Hid (okB u = false) := by show okB u = false; simp only [okB, hq]; rfl
            go_wp2
            go_ret2
            exact ⟨Or.inl ⟨HV.out, by rw [HO.out]; rfl⟩, rfl⟩
          | false =>
            have HO : Hid (okB u = decide (12 + (u.size : Int) ≤ 998)) := by
              show okB u = decide (12 + (u.size : Int) ≤ 998)
              simp only [okB, hq]
              rw [Bool.eq_iff_iff]
              simp
              omega
            go_wp2
            go_ret2
            exact ⟨Or.inl ⟨HV.out, by rw [HO.out]; rfl⟩, rfl⟩

set_option maxHeartbeats 400000 in
theorem msg7 (s : ByteArray) (w : World) (hs : s.size ≤ 1048578) :
    Calls Try.prog 7 #[.string s] w fun e w' => MsgPost (form s) e ∧ w' = w := by
  go_enter Try.func7, Try.ntmps7
  go_wp2_with fail
  refine (msg10 s w hs).mono ?_
  rintro e w' ⟨⟨hv, rfl⟩ | ⟨hv, rfl⟩, hw⟩
  · obtain rfl := hw.symm
    have HV := hid hv
    clear hv
    go_wp2
    go_ret2
    exact ⟨Or.inl ⟨HV.out, rfl⟩, rfl⟩
  · obtain rfl := hw.symm
    have HV := hid hv
    clear hv
    go_wp2
    go_ret2
    exact ⟨Or.inr ⟨HV.out, rfl⟩, rfl⟩

end Go.Proofs.Qxb6628266a
