import Derived.Test.Qxb6628234aIns
import Derived.Deep.QuietTactic
import Derived.BigQuiet
namespace Go.Proofs.Qxb6628234a
open Go.RowKit

theorem hid4 {p : Prop} (h : p) : Hid p := h
theorem row_below4 {w w' : World} {b t n : Nat} {f : Nat → Value} (h : w.rowIs b t n f) (hb : Below w.heap.size w w') : w'.rowIs b t n f := h.of_block (hb.block b h.lt)

set_option maxHeartbeats 1000000 in
set_option maxRecDepth 100000 in
theorem insert_in (ao pa : Option Addr) (n nc k lp cp : Nat) (A : Nat → Option Addr) (L C : Nat → Nat) (AD : Nat → Addr) (w : World) (hn : n ≤ 140737488351232) (hk : k ≤ n) (hA : Came w ao n nc A L C AD) :
    Calls Try.prog 4 #[.slice ao n nc, .int .i64 (k : Int), .slice pa lp cp] w fun e w' => e = .returned (.bool true) ∧ Below w.heap.size w w' := by
  have HA : Hid (Came w ao n nc A L C AD) := hA
  clear hA
  go_enter Try.func4, Try.ntmps4
  go_wp2_with fail
  refine (bytes8 k ao pa n nc lp cp A L C AD w hn HA.out.sees).mono ?_
  rintro e w' ⟨rfl | ⟨rfl, hb⟩, hw⟩
  · obtain rfl := hw.symm
    go_wp2
    go_ret
    exact ⟨rfl, Below.refl _ _⟩
  · obtain rfl := hw.symm
    go_wp2
    go_loop [7, 32] (fun v i => ∃ j : Nat, j ≤ n ∧ i = .int .i64 j ∧ v = .int .i64 ((n + lp + ps L j : Nat) : Int)) (fun _ i => n - (intOf i).toNat)
    case atStart => exact ⟨0, Nat.zero_le _, rfl, by simp [ps]⟩
    case round =>
      obtain ⟨j, hj, rfl, rfl⟩ := hrel
      by_cases hlt : j < n
      · have h1 := HA.out.sees.ix j hlt
        have h2 := HA.out.sees.cell j hlt
        have h4 := ps_mono L (show j + 1 ≤ n by omega)
        have h5 : n + ps L j + L j + lp ≤ 1048576 := by simp only [ps] at h4; omega
        clear h4
        go_wp2
        go_round
        case rel => exact ⟨j + 1, by omega, by go_num, by simp only [ps]; go_num⟩
        case measure => simp [intOf]; omega
      · obtain rfl : j = n := by omega
        obtain ⟨W1, W2, W4, W5, ao2, m1, m2, m4, htl, m5, hB5, hS5⟩ := inserted w ao j nc k A L C AD pa lp cp (by omega) hk HA.out
        obtain ⟨hhd, hsH⟩ := HA.out.head hk
        have HH : Hid (Sees w ao k nc A L C AD) := hsH
        have HB5 : Hid (Below w.heap.size w W5) := hB5
        have HS5 : Hid (Sees W5 (some ⟨w.heap.size, 0, none⟩) (j + 1) (j + 1) (ins A k pa) (ins L k lp) (ins C k cp) (fun j => ⟨w.heap.size, j, none⟩)) := hS5
        clear hB5 hS5 hsH
        have M2 := hid4 m2
        have M4 := hid4 m4
        have M5 := hid4 m5
        clear m2 m4 m5
        go_wp2_with (first | (at_builtin; refine wpList_append_run _ rfl (.tmp 56) (.tmp 59) 22 rfl 22 rfl M2.out rfl rfl ?_) | (at_builtin; refine wpList_append_run _ rfl (.tmp 61) (.tmp 63) 22 rfl 22 rfl M4.out rfl rfl ?_) | (at_builtin; refine wpList_append_run _ rfl (.tmp 65) (.tmp 68) 22 rfl 22 rfl M5.out rfl rfl ?_) | fail)
        clear M2 M4 M5 m1 htl
        have hpi := ps_ins_gt L k lp j hk
        have hpk := ps_mono L hk
        refine (offsets6 ao j nc A L C AD W5 (by omega) (HA.out.sees.below HB5.out)).mono ?_
        rintro e w6 ⟨rfl, hr6, hb6⟩
        have HR6 := hid4 hr6
        have HB6 := hid4 hb6
        clear hr6 hb6
        go_wp2_with fail
        refine (offsets6 (some ⟨w.heap.size, 0, none⟩) (j + 1) (j + 1) (ins A k pa) (ins L k lp) (ins C k cp) _ w6 (by rw [hpi]; omega) (HS5.out.below HB6.out)).mono ?_
        clear hpi
        rintro e w7 ⟨rfl, hr7, hb7⟩
        have HB7 := hid4 hb7
        have HR7 := hid4 hr7
        have HR6' := hid4 (row_below4 HR6.out hb7)
        have HBB : Hid (Below w.heap.size w w7) := hid4 ((HB5.out.trans (HB6.out.mono HB5.out.size)).trans (HB7.out.mono (Nat.le_trans HB5.out.size HB6.out.size)))
        have HQ : Hid (∀ u : Nat, Calls Try.prog 7 #[.slice ao k nc] (w7.drewN u) fun e w' => e = .returned (.int .i64 (ps L k : Int)) ∧ w' = w7.drewN u) := fun u => sumLens7 ao k nc A L C AD _ (by omega) (HH.out.below (below_drewN HBB.out u))
        clear hr7 hb7 HR6 HB5 HB6 HB7 HS5
        rw [off_ins_gt L k lp j hk]
        have e1 : off L k ≤ 4 + 4 * k + ps L k := Nat.le_refl _
        have e2 : 4 + 4 * k + ps L k ≤ off L k := Nat.le_refl _
        have e3 : off L j ≤ 4 + 4 * j + ps L j := Nat.le_refl _
        have hkk : k < j + 1 := by omega
        have x1 := ix_own w6.heap.size (j + 1) (j + 1) k hkk
        have c1 := HR7.out.cell hkk
        rw [off_ins_le L k lp k (Nat.le_refl _)] at c1
        go_wp2_with fail
        go_quiet ((go_at_call 7; exact Calls.quiet_of_same (HQ.out _)))
        have HE : Hid (∀ t, t ≤ k → ∀ wr, Below w7.heap.size w7 wr → wr.cell? ⟨w6.heap.size, t, none⟩ = some (.int .i64 (off L t : Int))) := fun t ht wr hb => by
          rw [(row_below4 HR7.out hb).cell (show t < j + 1 by omega), off_ins_le L k lp t ht]
        have HG : Hid (∀ t, k ≤ t → t < j → ∀ wr, Below w7.heap.size w7 wr → wr.cell? ⟨w6.heap.size, t + 1, none⟩ = some (.int .i64 ((off L t + 4 + lp : Nat) : Int))) := fun t ht1 ht2 wr hb => by
          rw [(row_below4 HR7.out hb).cell (show t + 1 < j + 1 by omega), off_ins_gt L k lp t ht1]
        have HO : Hid (∀ t, t < j → ∀ wr, Below w7.heap.size w7 wr → wr.cell? ⟨W5.heap.size, t, none⟩ = some (.int .i64 (off L t : Int))) := fun t ht wr hb => (row_below4 HR6'.out hb).cell ht
        clear c1 HQ HH hhd
        have hpar : k < j ∨ k = j := by omega
        rcases hpar with hkj | hkj
        · have c1 := HE.out k (Nat.le_refl _) w7 (Below.refl _ _)
          have c2 := HO.out k hkj w7 (Below.refl _ _)
          have x2 := ix_own W5.heap.size j j k hkj
          go_wp2_with fail
          go_quiet (fail)
          go_wp2
          clear c1 c2 x1 x2
          go_loopw [16] (fun v wr => ∃ t : Nat, t ≤ k ∧ v = .int .i64 t ∧ Hid (Below w7.heap.size w7 wr)) (fun v _ => k - (intOf v).toNat)
          case atStart => exact ⟨0, Nat.zero_le _, rfl, below_drewN (below_drewN (Below.refl _ _) _) _⟩
          case round =>
            obtain ⟨t, ht, rfl, HI⟩ := hrel
            by_cases hlt : t < k
            · have x1 := ix_own w6.heap.size (j + 1) (j + 1) t (by omega)
              have x2 := ix_own W5.heap.size j j t (by omega)
              have c1 := HE.out t ht wr HI.out
              have c2 := HO.out t (by omega) wr HI.out
              go_wp2_with fail
              go_quiet (fail)
              go_wp2
              go_roundw
              case rel => exact ⟨t + 1, by omega, by go_num, below_drewN HI.out _⟩
              case measure => simp [intOf]; omega
            · go_wp2
              clear hlt
              obtain ⟨wo, rfl⟩ : ∃ wo : World, wo = wr := ⟨_, rfl⟩
              go_loopw [17] (fun v wr => ∃ r : Nat, k ≤ r ∧ r ≤ j ∧ v = .int .i64 ((r : Int) + 1) ∧ Hid (Below w7.heap.size w7 wr)) (fun v _ => j + 1 - (intOf v).toNat)
              case atStart => exact ⟨k, Nat.le_refl _, hk, rfl, HI⟩
              case round =>
                obtain ⟨r, hr1, hr2, rfl, HJ⟩ := hrel
                by_cases hlt : r < j
                · have x1 := ix_own w6.heap.size (j + 1) (j + 1) (r + 1) (by omega)
                  rw [Int.natCast_add] at x1
                  have x2 := ix_own W5.heap.size j j r hlt
                  have c1 := HG.out r hr1 hlt wr HJ.out
                  have c2 := HO.out r hlt wr HJ.out
                  have e8 := off_le L (show r ≤ j by omega)
                  go_wp2_with fail
                  go_quiet (fail)
                  go_wp2
                  go_roundw
                  case rel => exact ⟨r + 1, by omega, by omega, by go_num, below_drewN HJ.out _⟩
                  case measure => simp [intOf]; omega
                · go_wp2
                  go_ret
                  exact ⟨rfl, HBB.out.trans (HJ.out.mono HBB.out.size)⟩
        · have c1 := HE.out k (Nat.le_refl _) w7 (Below.refl _ _)
          have e5 : off L k ≤ off L j := by rw [hkj]; exact Nat.le_refl _
          have e6 : off L j ≤ off L k := by rw [hkj]; exact Nat.le_refl _
          have e7 : j ≤ k := by omega
          clear hkj
          go_wp2
          clear c1 x1
          go_loopw [16] (fun v wr => ∃ t : Nat, t ≤ k ∧ v = .int .i64 t ∧ Hid (Below w7.heap.size w7 wr)) (fun v _ => k - (intOf v).toNat)
          case atStart => exact ⟨0, Nat.zero_le _, rfl, below_drewN (Below.refl _ _) _⟩
          case round =>
            obtain ⟨t, ht, rfl, HI⟩ := hrel
            by_cases hlt : t < k
            · have x1 := ix_own w6.heap.size (j + 1) (j + 1) t (by omega)
              have x2 := ix_own W5.heap.size j j t (by omega)
              have c1 := HE.out t ht wr HI.out
              have c2 := HO.out t (by omega) wr HI.out
              go_wp2_with fail
              go_quiet (fail)
              go_wp2
              go_roundw
              case rel => exact ⟨t + 1, by omega, by go_num, below_drewN HI.out _⟩
              case measure => simp [intOf]; omega
            · go_wp2
              clear hlt
              obtain ⟨wo, rfl⟩ : ∃ wo : World, wo = wr := ⟨_, rfl⟩
              go_loopw [17] (fun v wr => ∃ r : Nat, k ≤ r ∧ r ≤ j ∧ v = .int .i64 ((r : Int) + 1) ∧ Hid (Below w7.heap.size w7 wr)) (fun v _ => j + 1 - (intOf v).toNat)
              case atStart => exact ⟨k, Nat.le_refl _, hk, rfl, HI⟩
              case round =>
                obtain ⟨r, hr1, hr2, rfl, HJ⟩ := hrel
                by_cases hlt : r < j
                · exact absurd hlt (by omega)
                · go_wp2
                  go_ret
                  exact ⟨rfl, HBB.out.trans (HJ.out.mono HBB.out.size)⟩

set_option maxHeartbeats 1000000 in
set_option maxRecDepth 100000 in
/-- No such place: the law is not asked. -/
theorem insert_out (ao pa : Option Addr) (n nc lp cp : Nat) (q : Int) (A : Nat → Option Addr) (L C : Nat → Nat) (AD : Nat → Addr) (w : World) (hn : n ≤ 140737488351232) (hq : q < 0 ∨ (0 ≤ q ∧ (n : Int) < q)) (hA : Came w ao n nc A L C AD) :
    Calls Try.prog 4 #[.slice ao n nc, .int .i64 q, .slice pa lp cp] w fun e w' => e = .returned (.bool true) ∧ Below w.heap.size w w' := by
  have HA : Hid (Came w ao n nc A L C AD) := hA
  have HQ : Hid (q < 0 ∨ (0 ≤ q ∧ (n : Int) < q)) := hq
  clear hA hq
  go_enter Try.func4, Try.ntmps4
  go_wp2_with fail
  refine (bytes8 q ao pa n nc lp cp A L C AD w hn HA.out.sees).mono ?_
  rintro e w' ⟨rfl | ⟨rfl, hb⟩, hw⟩
  · obtain rfl := hw.symm
    go_wp2
    go_ret
    exact ⟨rfl, Below.refl _ _⟩
  · obtain rfl := hw.symm
    go_wp2
    go_loop [7, 32] (fun v i => ∃ j : Nat, j ≤ n ∧ i = .int .i64 j ∧ v = .int .i64 ((n + lp + ps L j : Nat) : Int)) (fun _ i => n - (intOf i).toNat)
    case atStart => exact ⟨0, Nat.zero_le _, rfl, by simp [ps]⟩
    case round =>
      obtain ⟨j, hj, rfl, rfl⟩ := hrel
      by_cases hlt : j < n
      · have h1 := HA.out.sees.ix j hlt
        have h2 := HA.out.sees.cell j hlt
        have h4 := ps_mono L (show j + 1 ≤ n by omega)
        have h5 : n + ps L j + L j + lp ≤ 1048576 := by simp only [ps] at h4; omega
        clear h4
        go_wp2
        go_round
        case rel => exact ⟨j + 1, by omega, by go_num, by simp only [ps]; go_num⟩
        case measure => simp [intOf]; omega
      · obtain rfl : j = n := by omega
        rcases HQ.out with ho | ⟨ho, ho1⟩
        all_goals
          go_wp2
          go_ret
          exact ⟨rfl, Below.refl _ _⟩

end Go.Proofs.Qxb6628234a
