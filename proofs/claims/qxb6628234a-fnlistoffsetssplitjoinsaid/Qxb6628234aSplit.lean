import Derived.Test.Qxb6628234aOffs
import Derived.Deep.QuietTactic
import Derived.BigQuiet
namespace Go.Proofs.Qxb6628234a
open Go.RowKit

theorem hid {p : Prop} (h : p) : Hid p := h

theorem off_split (L : Nat → Nat) (k j : Nat) : off L (k + j) + 4 = off L k + off (fun i => L (k + i)) j := by
  simp only [off, ps_add]; omega

theorem row_below {w w' : World} {b t n : Nat} {f : Nat → Value} (h : w.rowIs b t n f) (hb : Below w.heap.size w w') : w'.rowIs b t n f := h.of_block (hb.block b h.lt)

set_option maxHeartbeats 1000000 in
set_option maxRecDepth 100000 in
theorem split_in (ao : Option Addr) (n nc k : Nat) (A : Nat → Option Addr) (L C : Nat → Nat) (AD : Nat → Addr) (w : World) (hn : n ≤ 140737488351232) (hk : k ≤ n) (hA : Came w ao n nc A L C AD) :
    Calls Try.prog 3 #[.slice ao n nc, .int .i64 (k : Int)] w fun e w' => e = .returned (.bool true) ∧ Below w.heap.size w w' := by
  have HA : Hid (Came w ao n nc A L C AD) := hA
  clear hA
  go_enter Try.func3, Try.ntmps3
  go_wp2_with fail
  refine (bytes5 k ao n nc A L C AD w hn HA.out.sees).mono ?_
  rintro e w' ⟨rfl | ⟨rfl, hb⟩, hw⟩
  · obtain rfl := hw.symm
    go_wp2
    go_ret
    exact ⟨rfl, Below.refl _ _⟩
  · obtain rfl := hw.symm
    go_wp2
    go_loop [5, 27] (fun v i => ∃ j : Nat, j ≤ n ∧ i = .int .i64 j ∧ v = .int .i64 ((n + ps L j : Nat) : Int)) (fun _ i => n - (intOf i).toNat)
    case atStart => exact ⟨0, Nat.zero_le _, rfl, by simp [ps]⟩
    case round =>
      obtain ⟨j, hj, rfl, rfl⟩ := hrel
      by_cases hlt : j < n
      · have h1 := HA.out.sees.ix j hlt
        have h2 := HA.out.sees.cell j hlt
        have h4 := ps_mono L (show j + 1 ≤ n by omega)
        have h5 : n + ps L j + L j ≤ 1048576 := by simp only [ps] at h4; omega
        clear h4
        go_wp2
        go_round
        case rel => exact ⟨j + 1, by omega, by go_num, by simp only [ps]; go_num⟩
        case measure => simp [intOf]; omega
      · obtain rfl : j = n := by omega
        have hhd := HA.out.head hk
        obtain ⟨ao2, htl, hseesT⟩ := HA.out.tail hk
        obtain ⟨hhd, hseesH⟩ := hhd
        have HH : Hid (Sees w ao k nc A L C AD) := hseesH
        have HT : Hid (Sees w ao2 (j - k) (nc - k) (fun i => A (k + i)) (fun i => L (k + i)) (fun i => C (k + i)) (fun i => AD (k + i))) := hseesT
        clear hseesH hseesT
        have hpk := ps_mono L hk
        have hpt := ps_add L k (j - k)
        rw [show k + (j - k) = j by omega] at hpt
        have hpt2 : ps (fun i => L (k + i)) (j - k) ≤ ps L j := by omega
        clear hpt
        go_wp2_with fail
        refine (offsets6 ao j nc A L C AD w (by omega) HA.out.sees).mono ?_
        rintro e w1 ⟨rfl, hr1, hb1⟩
        have HR1 := hid hr1
        have HB1 := hid hb1
        clear hr1 hb1
        go_wp2_with fail
        refine (offsets6 ao k nc A L C AD w1 (by omega) (HH.out.below HB1.out)).mono ?_
        rintro e w2 ⟨rfl, hr2, hb2⟩
        have HR2 := hid hr2
        have HB2 := hid hb2
        clear hr2 hb2
        go_wp2_with fail
        refine (offsets6 ao2 (j - k) (nc - k) _ _ _ _ w2 (by omega) ((HT.out.below HB1.out).below HB2.out)).mono ?_
        rintro e w3 ⟨rfl, hr3, hb3⟩
        have HR3 := hid hr3
        have HB3 := hid hb3
        clear hr3 hb3 hhd htl
        go_wp2_with fail
        refine (sumLens7 ao j nc A L C AD w3 (by omega) (((HA.out.sees.below HB1.out).below HB2.out).below HB3.out)).mono ?_
        rintro e w' ⟨rfl, hw⟩
        obtain rfl := hw.symm
        have hs := off_split L k (j - k)
        rw [show k + (j - k) = j by omega] at hs
        have hz : off L j = 4 + 4 * j + ps L j := rfl
        have e1 : off L j ≤ 4 + 4 * j + ps L j := by omega
        have e2 : 4 + 4 * j + ps L j ≤ off L j := by omega
        have e3 : off L j + 4 ≤ off L k + off (fun i => L (k + i)) (j - k) := by omega
        have e4 : off L k + off (fun i => L (k + i)) (j - k) ≤ off L j + 4 := by omega
        clear hs hz
        have HRA : Hid (w3.rowIs w.heap.size 3 j (fun i => .int .i64 (off L i : Int))) := hid (row_below (row_below HR1.out HB2.out) HB3.out)
        have HRB : Hid (w3.rowIs w1.heap.size 3 k (fun i => .int .i64 (off L i : Int))) := hid (row_below HR2.out HB3.out)
        have HBB : Hid (Below w.heap.size w w3) := hid ((HB1.out.trans (HB2.out.mono HB1.out.size)).trans (HB3.out.mono (Nat.le_trans HB1.out.size HB2.out.size)))
        clear HR1 HR2 HB1 HB2 HB3 HH HT
        go_wp2_with fail
        go_loopw [15] (fun v wr => ∃ i : Nat, i ≤ k ∧ v = .int .i64 i ∧ Hid (Below w3.heap.size w3 wr)) (fun v _ => k - (intOf v).toNat)
        case atStart => exact ⟨0, Nat.zero_le _, rfl, Below.refl _ _⟩
        case round =>
          obtain ⟨i, hi, rfl, HI⟩ := hrel
          by_cases hlt : i < k
          · have x1 := ix_own w.heap.size j j i (by omega)
            have x2 := ix_own w1.heap.size k k i hlt
            have c1 := (row_below HRA.out HI.out).cell (show i < j by omega)
            have c2 := (row_below HRB.out HI.out).cell hlt
            go_wp2_with fail
            go_quiet (fail)
            go_wp2
            go_roundw
            case rel => exact ⟨i + 1, by omega, by go_num, below_drewN HI.out _⟩
            case measure => simp [intOf]; omega
          · obtain rfl : i = k := by omega
            go_wp2
            clear hlt
            obtain ⟨wo, rfl⟩ : ∃ wo : World, wo = wr := ⟨_, rfl⟩
            go_loopw [16] (fun v wr => ∃ t : Nat, t ≤ j - i ∧ v = .int .i64 t ∧ Hid (Below w3.heap.size w3 wr)) (fun v _ => j - i - (intOf v).toNat)
            case atStart => exact ⟨0, Nat.zero_le _, rfl, HI⟩
            case round =>
              obtain ⟨t, ht, rfl, HJ⟩ := hrel
              by_cases hlt : t < j - i
              · have x1 := ix_own w.heap.size j j (i + t) (by omega)
                rw [Int.natCast_add] at x1
                have x2 := ix_own w2.heap.size (j - i) (j - i) t hlt
                have c1 := (row_below HRA.out HJ.out).cell (show i + t < j by omega)
                have c2 := (row_below HR3.out HJ.out).cell hlt
                have e5 := off_split L i t
                have e6 := off_le L (show i + t ≤ j by omega)
                have e7 : off L (i + t) + 4 ≤ off L i + off (fun u => L (i + u)) t := by omega
                have e8 : off L i + off (fun u => L (i + u)) t ≤ off L (i + t) + 4 := by omega
                clear e5
                go_wp2_with fail
                go_quiet (fail)
                go_wp2
                go_roundw
                case rel => exact ⟨t + 1, by omega, by go_num, below_drewN HJ.out _⟩
                case measure => simp [intOf]; omega
              · go_wp2
                go_ret
                exact ⟨rfl, HBB.out.trans (HJ.out.mono HBB.out.size)⟩

set_option maxHeartbeats 1000000 in
set_option maxRecDepth 100000 in
/-- No such place: the law is not asked. -/
theorem split_out (ao : Option Addr) (n nc : Nat) (q : Int) (A : Nat → Option Addr) (L C : Nat → Nat) (AD : Nat → Addr) (w : World) (hn : n ≤ 140737488351232) (hq : q < 0 ∨ (0 ≤ q ∧ (n : Int) < q)) (hA : Came w ao n nc A L C AD) :
    Calls Try.prog 3 #[.slice ao n nc, .int .i64 q] w fun e w' => e = .returned (.bool true) ∧ Below w.heap.size w w' := by
  have HA : Hid (Came w ao n nc A L C AD) := hA
  have HQ : Hid (q < 0 ∨ (0 ≤ q ∧ (n : Int) < q)) := hq
  clear hA hq
  go_enter Try.func3, Try.ntmps3
  go_wp2_with fail
  refine (bytes5 q ao n nc A L C AD w hn HA.out.sees).mono ?_
  rintro e w' ⟨rfl | ⟨rfl, hb⟩, hw⟩
  · obtain rfl := hw.symm
    go_wp2
    go_ret
    exact ⟨rfl, Below.refl _ _⟩
  · obtain rfl := hw.symm
    go_wp2
    go_loop [5, 27] (fun v i => ∃ j : Nat, j ≤ n ∧ i = .int .i64 j ∧ v = .int .i64 ((n + ps L j : Nat) : Int)) (fun _ i => n - (intOf i).toNat)
    case atStart => exact ⟨0, Nat.zero_le _, rfl, by simp [ps]⟩
    case round =>
      obtain ⟨j, hj, rfl, rfl⟩ := hrel
      by_cases hlt : j < n
      · have h1 := HA.out.sees.ix j hlt
        have h2 := HA.out.sees.cell j hlt
        have h4 := ps_mono L (show j + 1 ≤ n by omega)
        have h5 : n + ps L j + L j ≤ 1048576 := by simp only [ps] at h4; omega
        clear h4
        go_wp2
        go_round
        case rel => exact ⟨j + 1, by omega, by go_num, by simp only [ps]; go_num⟩
        case measure => simp [intOf]; omega
      · obtain rfl : j = n := by omega
        rcases HQ.out with ho | ⟨ho, ho1⟩
        all_goals
          go_wp2
          go_ret
          exact ⟨rfl, Below.refl _ _⟩

end Go.Proofs.Qxb6628234a
