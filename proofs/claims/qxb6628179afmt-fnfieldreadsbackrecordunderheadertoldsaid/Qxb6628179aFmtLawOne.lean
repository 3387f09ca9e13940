import Derived.Test.Qxb6628179aFmtStand
namespace Go.Proofs.Qxb6628179aFmt
open Go.RowKit Go.Maps

set_option maxHeartbeats 400000 in
theorem law1_some (line : Int) (path : ByteArray) (ao : Option Addr) (fa : Addr) (n nc m mc : Nat) (S T : Nat → ByteArray) (AD : Nat → Addr) (w : World)
    (hn : n * 16 ≤ 140737488351232) (hm : m * 16 ≤ 140737488351232) (hp : path.size ≤ maxLen) (hS : ∀ k, k < n → (S k).size ≤ maxLen)
    (hA : Sees w ao n nc S AD) (hB : Sees w (some fa) m mc T (fun k => fa.add k)) :
    Calls Tryf.prog 3 #[.int .i64 line, .string path, .slice ao n nc, .slice (some fa) m mc] w fun e w' => e = .returned (.bool true) ∧ Below w.heap.size w w' := by
  have HA : Hid (Sees w ao n nc S AD) := hA
  have HB : Hid (Sees w (some fa) m mc T (fun k => fa.add k)) := hB
  have HS : Hid (∀ k, k < n → (S k).size ≤ maxLen) := hS
  clear hA hB hS
  have hne := fun (w : World) (a : Option Addr) (n c : Nat) => run_neq_slice_nil_any (P := Tryf.prog) w 22 9 a n c 0 0 Tryf.underlying22
  go_enter Tryf.func3, Tryf.ntmps3
  go_wp2_with fail
  refine (bytes5 line path ao (some fa) n nc m mc S T AD _ w (by omega) (by omega) hp HA.out HB.out).mono ?_
  rintro e w' ⟨⟨β, rfl⟩, hw⟩
  obtain rfl := hw.symm
  cases β with
  | false =>
    go_wp2
    go_ret
    exact ⟨rfl, Below.refl _ _⟩
  | true =>
    by_cases hsm : n ≤ 65536 ∧ m ≤ 65536 ∧ path.size ≤ 1048576
    · obtain ⟨s1, s2, s3⟩ := hsm
      go_wp2_with fail
      refine (bytes6 path _ ao (some fa) n nc m mc S T AD _ w (by omega) (by omega) HA.out HB.out).mono ?_
      rintro e w' ⟨⟨z, rfl⟩, hw⟩
      obtain rfl := hw.symm
      by_cases hz : z ≤ 1048576
      · by_cases hmn : m = n
        · subst hmn
          obtain ⟨W2, hcopy, hB2, hW2, hc2⟩ := copied w fa m mc T HB.out.cell HB.out.old
          have hmk := fun w => run_make_row' (P := Tryf.prog) 22 9 (.string ByteArray.empty) 16 Tryf.underlying22 info9 rfl .i64 .i64 m (by omega) (by omega) w
          have HB2 : Hid (Below w.heap.size w W2) := hB2
          have HW2 : Hid (W2.heap.size = w.heap.size + 1) := hW2
          have HC2 : Hid (∀ k, k < m → W2.cell? ⟨w.heap.size, k, none⟩ = some (.string (T k))) := hc2
          clear hB2 hW2 hc2
          go_wp2_with fail
          clear hcopy hmk hne
          refine (index_any ao m nc S AD W2 (by omega) HS.out (HA.out.below HB2.out)).mono ?_
          rintro e w3 ⟨hb3, rfl | ⟨rfl, D, hown, hall⟩⟩
          · go_wp2
            go_ret
            exact ⟨rfl, HB2.out.trans (hb3.mono (by have := HW2.out; omega))⟩
          · go_wp2_with fail
            refine (newRow line path _ m m _ w3).mono ?_
            rintro e w4 ⟨rfl, hw⟩
            obtain rfl := hw.symm
            go_wp2
            have HST : Hid (Stand w ((w3.alloc (.cells #[.int .i64 line, .string path, .slice (some ⟨w.heap.size, 0, none⟩) m m, .map (some W2.heap.size)] 29)).alloc (.cells #[.int .i64 line, .string path, .slice (some ⟨w.heap.size, 0, none⟩) m m, .map (some W2.heap.size)] 29)) ao m nc S AD T w.heap.size W2.heap.size D ∧
                RowAt ((w3.alloc (.cells #[.int .i64 line, .string path, .slice (some ⟨w.heap.size, 0, none⟩) m m, .map (some W2.heap.size)] 29)).alloc (.cells #[.int .i64 line, .string path, .slice (some ⟨w.heap.size, 0, none⟩) m m, .map (some W2.heap.size)] 29)) (w3.heap.size + 1) line path w.heap.size m W2.heap.size) :=
              ⟨(stand_index HB2.out HW2.out HC2.out hb3 hown hall HA.out HS.out).next (((Below.refl _ _).alloc (Nat.le_refl _) _).alloc (by simp) _), rowAt_new _ _ _ _ _ _ _⟩
            generalize hg : w.heap.size = g at *
            generalize hbm : W2.heap.size = bm at *
            generalize hbr : w3.heap.size + 1 = br at *
            clear hg hbm hbr
            go_loopw [13] (fun i wr => ∃ k : Nat, k ≤ m ∧ i = .int .i64 k ∧ Hid (Stand w wr ao m nc S AD T g bm D ∧ RowAt wr br line path g m bm)) (fun i _ => m - (intOf i).toNat)
            case atStart => exact ⟨0, Nat.zero_le _, rfl, HST⟩
            case round =>
              obtain ⟨k, hk, rfl, HI⟩ := hrel
              by_cases hlt : k < m
              · have hix := HI.out.1.hdr.ix k hlt
                have hfx := HI.out.1.fld.ix k hlt
                have MK := MKfield HI.out.1 HI.out.2 hlt
                have hst := HI.out.1
                have HF : Hid (∀ w', Below wr.heap.size wr w' → Calls Tryf.prog 9 #[.agg #[.int .i64 line, .string path, .slice (some ⟨g, 0, none⟩) m m, .map (some bm)], .string (S k)] w' fun e w'' =>
                    e = .returned (.string (T k)) ∧ w'' = w'.alloc (.cells #[.int .i64 line, .string path, .slice (some ⟨g, 0, none⟩) m m, .map (some bm)] 29)) := fun w' hb => callField hst hlt hb
                clear hst
                go_wp2
                go_region_held3 (fun w' => w'.cell? ⟨br, 0, none⟩ = some (.int .i64 line) ∧ w'.cell? ⟨br, 1, none⟩ = some (.string path) ∧ w'.cell? ⟨br, 2, none⟩ = some (.slice (some ⟨g, 0, none⟩) m m) ∧ w'.cell? ⟨br, 3, none⟩ = some (.map (some bm)) ∧ w'.cell? (AD k) = some (.string (S k)) ∧ w'.cell? ⟨g, k, none⟩ = some (.string (T k)) ∧ Hid (Below wr.heap.size wr w')) (exact MK.out _ (by first | exact (Below.refl _ _).drew | exact ((Below.refl _ _).alloc (Nat.le_refl _) _).drew)) (first | (go_at_call 9; refine (HF.out _ ?_).mono ?_; exact (Below.refl _ _).drew; rintro e w' ⟨rfl, hw⟩; obtain rfl := hw.symm))
                go_wp2
                go_roundw
                case rel => exact ⟨k + 1, by omega, by go_num, HI.out.1.next ((Below.refl _ _).alloc (Nat.le_refl _) _).drew, HI.out.2.below ((Below.refl _ _).alloc (Nat.le_refl _) _).drew⟩
                case measure => simp [intOf]; omega
              · go_wp2
                go_ret
                exact ⟨rfl, HI.out.1.below⟩
        · go_wp2
          go_ret
          exact ⟨rfl, Below.refl _ _⟩
      · go_wp2
        go_ret
        exact ⟨rfl, Below.refl _ _⟩
    · have ho : 65536 < n ∨ (n ≤ 65536 ∧ 65536 < m) ∨ (n ≤ 65536 ∧ m ≤ 65536 ∧ 1048576 < path.size) := by omega
      rcases ho with ho | ⟨ho, ho1⟩ | ⟨ho, ho1, ho2⟩
      all_goals
        go_wp2
        go_ret
        exact ⟨rfl, Below.refl _ _⟩

set_option maxHeartbeats 400000 in
theorem law1_nil (line : Int) (path : ByteArray) (ao : Option Addr) (n nc : Nat) (S : Nat → ByteArray) (AD : Nat → Addr) (w : World)
    (hn : n * 16 ≤ 140737488351232) (hp : path.size ≤ maxLen) (hS : ∀ k, k < n → (S k).size ≤ maxLen)
    (hA : Sees w ao n nc S AD) :
    Calls Tryf.prog 3 #[.int .i64 line, .string path, .slice ao n nc, .slice none 0 0] w fun e w' => e = .returned (.bool true) ∧ Below w.heap.size w w' := by
  have HA : Hid (Sees w ao n nc S AD) := hA
  have HB : Hid (Sees w none 0 0 S AD) := sees_nil w S AD
  have HS : Hid (∀ k, k < n → (S k).size ≤ maxLen) := hS
  clear hA hS
  have hne := fun (w : World) (a : Option Addr) (n c : Nat) => run_neq_slice_nil_any (P := Tryf.prog) w 22 9 a n c 0 0 Tryf.underlying22
  go_enter Tryf.func3, Tryf.ntmps3
  go_wp2_with fail
  refine (bytes5 line path ao none n nc 0 0 S S AD AD w (by omega) (by omega) hp HA.out HB.out).mono ?_
  rintro e w' ⟨⟨β, rfl⟩, hw⟩
  obtain rfl := hw.symm
  cases β with
  | false =>
    go_wp2
    go_ret
    exact ⟨rfl, Below.refl _ _⟩
  | true =>
    by_cases hsm : n ≤ 65536 ∧ path.size ≤ 1048576
    · obtain ⟨s1, s3⟩ := hsm
      go_wp2_with fail
      refine (bytes6 path _ ao none n nc 0 0 S S AD AD w (by omega) (by omega) HA.out HB.out).mono ?_
      rintro e w' ⟨⟨z, rfl⟩, hw⟩
      obtain rfl := hw.symm
      by_cases hz : z ≤ 1048576
      · by_cases hmn : n = 0
        · subst hmn
          go_wp2_with fail
          clear hne
          refine (index_any ao 0 nc S AD w (by omega) HS.out HA.out).mono ?_
          rintro e w3 ⟨hb3, rfl | ⟨rfl, D, hown, hall⟩⟩
          · go_wp2
            go_ret
            exact ⟨rfl, hb3⟩
          · go_wp2_with fail
            refine (newRow line path _ 0 0 _ w3).mono ?_
            rintro e w4 ⟨rfl, hw⟩
            obtain rfl := hw.symm
            go_wp2
            refine wp_loop_rounds 1 ?_
            rw [rounds_succ]
            go_wp2
            go_ret
            exact ⟨rfl, (hb3.alloc hb3.size _).alloc (by have := hb3.size; simp; omega) _⟩
        · go_wp2
          go_ret
          exact ⟨rfl, Below.refl _ _⟩
      · go_wp2
        go_ret
        exact ⟨rfl, Below.refl _ _⟩
    · have ho : 65536 < n ∨ (n ≤ 65536 ∧ 1048576 < path.size) := by omega
      rcases ho with ho | ⟨ho, ho1⟩
      all_goals
        go_wp2
        go_ret
        exact ⟨rfl, Below.refl _ _⟩

end Go.Proofs.Qxb6628179aFmt
