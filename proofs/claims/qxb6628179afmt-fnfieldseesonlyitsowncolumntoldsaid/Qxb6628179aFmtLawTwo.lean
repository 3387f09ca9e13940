import Derived.Test.Qxb6628179aFmtFill
import Derived.Deep.QuietTactic
import Derived.BigQuiet
namespace Go.Proofs.Qxb6628179aFmt
open Go.RowKit Go.Maps

set_option maxHeartbeats 1000000 in
set_option maxRecDepth 100000 in
theorem law2_in (line : Int) (path v : ByteArray) (ao : Option Addr) (fa : Addr) (n nc mc q : Nat) (S T : Nat → ByteArray) (AD : Nat → Addr) (w : World)
    (hn : n * 16 ≤ 140737488351232) (hp : path.size ≤ maxLen) (hS : ∀ k, k < n → (S k).size ≤ maxLen) (hq : q < n)
    (hA : Sees w ao n nc S AD) (hB : Sees w (some fa) n mc T (fun k => fa.add k)) :
    Calls Tryf.prog 4 #[.int .i64 line, .string path, .slice ao n nc, .slice (some fa) n mc, .int .i64 (q : Int), .string v] w fun e w' => e = .returned (.bool true) ∧ Below w.heap.size w w' := by
  have HA : Hid (Sees w ao n nc S AD) := hA
  have HB : Hid (Sees w (some fa) n mc T (fun k => fa.add k)) := hB
  have HS : Hid (∀ k, k < n → (S k).size ≤ maxLen) := hS
  clear hA hB hS
  have hne := fun (w : World) (a : Option Addr) (n c : Nat) => run_neq_slice_nil_any (P := Tryf.prog) w 22 9 a n c 0 0 Tryf.underlying22
  go_enter Tryf.func4, Tryf.ntmps4
  go_wp2_with fail
  refine (bytes10 line path ao (some fa) n nc n mc q v S T AD _ w (by omega) (by omega) hp HA.out HB.out).mono ?_
  rintro e w' ⟨⟨β, rfl⟩, hw⟩
  obtain rfl := hw.symm
  cases β with
  | false =>
    go_wp2
    go_ret
    exact ⟨rfl, Below.refl _ _⟩
  | true =>
    by_cases hsm : n ≤ 65536 ∧ path.size ≤ 1048576 ∧ v.size ≤ 1048576
    · obtain ⟨s1, s3, s4⟩ := hsm
      go_wp2_with fail
      refine (bytes6 path v ao (some fa) n nc n mc S T AD _ w (by omega) (by omega) HA.out HB.out).mono ?_
      rintro e w' ⟨⟨z, rfl⟩, hw⟩
      obtain rfl := hw.symm
      by_cases hz : z ≤ 1048576
      · obtain ⟨W2, hcopy, hB2, hW2, hc2⟩ := copied w fa n mc T HB.out.cell HB.out.old
        have hmk := fun w => run_make_row' (P := Tryf.prog) 22 9 (.string ByteArray.empty) 16 Tryf.underlying22 info9 rfl .i64 .i64 n (by omega) (by omega) w
        have HB2 : Hid (Below w.heap.size w W2) := hB2
        have HW2 : Hid (W2.heap.size = w.heap.size + 1) := hW2
        have HC2 : Hid (∀ k, k < n → W2.cell? ⟨w.heap.size, k, none⟩ = some (.string (T k))) := hc2
        clear hB2 hW2 hc2
        go_wp2_with fail
        clear hcopy hne
        refine (index_any ao n nc S AD W2 (by omega) HS.out (HA.out.below HB2.out)).mono ?_
        rintro e w3 ⟨hb3, rfl | ⟨rfl, D, hown, hall⟩⟩
        · go_wp2
          go_ret
          exact ⟨rfl, HB2.out.trans (hb3.mono (by have := HW2.out; omega))⟩
        · have HST : Hid (Stand w w3 ao n nc S AD T w.heap.size W2.heap.size D) := stand_index HB2.out HW2.out HC2.out hb3 hown hall HA.out HS.out
          clear hb3 hown hall
          go_wp2
          clear hmk
          have HF0 := fill_start w3 n T
          generalize hg : w.heap.size = g at *
          generalize hbm : W2.heap.size = bm at *
          generalize hgc : w3.heap.size = gc at *
          have HF1 : Hid (Fill w3 (w3.alloc (.cells (madeCells #[.string ByteArray.empty] n) 9)) gc n T 0) := HF0
          have HGC : Hid (w3.heap.size = gc) := hgc
          clear HF0 hg hbm hgc
          go_loopw [17] (fun i wr => ∃ k : Nat, k ≤ n ∧ i = .int .i64 k ∧ Hid (Fill w3 wr gc n T k)) (fun i _ => n - (intOf i).toNat)
          case atStart => exact ⟨0, Nat.zero_le _, rfl, HF1⟩
          case round =>
            obtain ⟨k, hk, rfl, HI⟩ := hrel
            by_cases hlt : k < n
            · have hst := (HST.out.next (HGC.out ▸ HI.out.2)).fld
              have hfx := hst.ix k hlt
              have hfc := hst.cell k hlt
              clear hst
              have hgx := ix_own gc n n k hlt
              have hgl := HI.out.cell hlt
              have hgf := HI.out.1.frozen k
              go_wp2
              go_roundw
              case rel => exact ⟨k + 1, by omega, by go_num, fill_step HI.out⟩
              case measure => simp [intOf]; omega
            · obtain rfl : k = n := by omega
              have hgx := ix_own gc k k q hq
              have hgl := HI.out.1.cell hq
              have hgf := HI.out.1.frozen q
              go_wp2_with fail
              clear hgx hgl hgf
              have HS5 : Hid (Stand w (wr.setCell ⟨gc, q, none⟩ (.string v)) ao k nc S AD T g bm D ∧ Stand w (wr.setCell ⟨gc, q, none⟩ (.string v)) ao k nc S AD (put T q v) gc bm D) := by
                have hgc := HGC.out
                subst hgc
                exact stand_fill q v HST.out HI.out
              clear HF1 HGC HI HST
              generalize wr.setCell ⟨gc, q, none⟩ (.string v) = W5 at *
              refine (newRow line path _ k k _ W5).mono ?_
              rintro e w4 ⟨rfl, hw⟩
              obtain rfl := hw.symm
              go_wp2_with fail
              refine (newRow line path _ k k _ _).mono ?_
              rintro e w4 ⟨rfl, hw⟩
              obtain rfl := hw.symm
              go_wp2_with fail
              have HB9 : Hid (Both w ((((W5.alloc (.cells #[.int .i64 line, .string path, .slice (some ⟨g, 0, none⟩) k k, .map (some bm)] 29)).alloc (.cells #[.int .i64 line, .string path, .slice (some ⟨g, 0, none⟩) k k, .map (some bm)] 29)).alloc (.cells #[.int .i64 line, .string path, .slice (some ⟨gc, 0, none⟩) k k, .map (some bm)] 29)).alloc (.cells #[.int .i64 line, .string path, .slice (some ⟨gc, 0, none⟩) k k, .map (some bm)] 29))
                  ao k nc S AD T (put T q v) g gc bm (W5.heap.size + 1) (W5.heap.size + 1 + 1 + 1) D line path) := both_new line path HS5.out.1 HS5.out.2
              clear HS5
              generalize (((W5.alloc (.cells #[.int .i64 line, .string path, .slice (some ⟨g, 0, none⟩) k k, .map (some bm)] 29)).alloc (.cells #[.int .i64 line, .string path, .slice (some ⟨g, 0, none⟩) k k, .map (some bm)] 29)).alloc (.cells #[.int .i64 line, .string path, .slice (some ⟨gc, 0, none⟩) k k, .map (some bm)] 29)).alloc (.cells #[.int .i64 line, .string path, .slice (some ⟨gc, 0, none⟩) k k, .map (some bm)] 29) = V at *
              generalize W5.heap.size + 1 + 1 + 1 = bc at *
              generalize W5.heap.size + 1 = br at *
              have hix := HB9.out.s1.hdr.ix q hq
              have hfx := HB9.out.s1.fld.ix q hq
              have HF : Hid (∀ w', Below V.heap.size V w' → Calls Tryf.prog 9 #[.agg #[.int .i64 line, .string path, .slice (some ⟨gc, 0, none⟩) k k, .map (some bm)], .string (S q)] w' fun e w'' =>
                  e = .returned (.string v) ∧ w'' = w'.alloc (.cells #[.int .i64 line, .string path, .slice (some ⟨gc, 0, none⟩) k k, .map (some bm)] 29)) := fun w' hb => by
                have h := callField (line := line) (path := path) HB9.out.s2 hq hb
                rw [put_same] at h
                exact h
              have MK := MKfield HB9.out.s2 HB9.out.r2 hq
              rw [put_same] at MK
              go_region_held3 (fun w' => w'.cell? ⟨bc, 0, none⟩ = some (.int .i64 line) ∧ w'.cell? ⟨bc, 1, none⟩ = some (.string path) ∧ w'.cell? ⟨bc, 2, none⟩ = some (.slice (some ⟨gc, 0, none⟩) k k) ∧ w'.cell? ⟨bc, 3, none⟩ = some (.map (some bm)) ∧ w'.cell? (AD q) = some (.string (S q)) ∧ w'.cell? ⟨gc, q, none⟩ = some (.string v) ∧ Hid (Below V.heap.size V w')) (exact MK.out _ (by first | exact (Below.refl _ _).drew | exact ((Below.refl _ _).alloc (Nat.le_refl _) _).drew)) (first | (go_at_call 9; refine (HF.out _ ?_).mono ?_; exact (Below.refl _ _).drew; rintro e w' ⟨rfl, hw⟩; obtain rfl := hw.symm))
              go_wp2_with fail
              clear MK HF hix hfx
              have HB10 : Hid (Both w (V.alloc (.cells #[.int .i64 line, .string path, .slice (some ⟨gc, 0, none⟩) k k, .map (some bm)] 29)).drew ao k nc S AD T (put T q v) g gc bm br bc D line path) := HB9.out.next ((Below.refl _ _).alloc (Nat.le_refl _) _).drew
              clear HB9
              generalize (V.alloc (.cells #[.int .i64 line, .string path, .slice (some ⟨gc, 0, none⟩) k k, .map (some bm)] 29)).drew = V2 at *
              have hix := HB10.out.s1.hdr.ix q hq
              have hfx := HB10.out.s1.fld.ix q hq
              have HF : Hid (∀ w', Below V2.heap.size V2 w' → Calls Tryf.prog 9 #[.agg #[.int .i64 line, .string path, .slice (some ⟨g, 0, none⟩) k k, .map (some bm)], .string (S q)] w' fun e w'' =>
                  e = .returned (.string (T q)) ∧ w'' = w'.alloc (.cells #[.int .i64 line, .string path, .slice (some ⟨g, 0, none⟩) k k, .map (some bm)] 29)) := fun w' hb => callField (line := line) (path := path) HB10.out.s1 hq hb
              have MK := MKfield HB10.out.s1 HB10.out.r1 hq
              go_region_held3 (fun w' => w'.cell? ⟨br, 0, none⟩ = some (.int .i64 line) ∧ w'.cell? ⟨br, 1, none⟩ = some (.string path) ∧ w'.cell? ⟨br, 2, none⟩ = some (.slice (some ⟨g, 0, none⟩) k k) ∧ w'.cell? ⟨br, 3, none⟩ = some (.map (some bm)) ∧ w'.cell? (AD q) = some (.string (S q)) ∧ w'.cell? ⟨g, q, none⟩ = some (.string (T q)) ∧ Hid (Below V2.heap.size V2 w')) (exact MK.out _ (by first | exact (Below.refl _ _).drew | exact ((Below.refl _ _).alloc (Nat.le_refl _) _).drew)) (first | (go_at_call 9; refine (HF.out _ ?_).mono ?_; exact (Below.refl _ _).drew; rintro e w' ⟨rfl, hw⟩; obtain rfl := hw.symm))
              go_wp2_with fail
              clear MK HF hix hfx
              have HB11 : Hid (Both w (V2.alloc (.cells #[.int .i64 line, .string path, .slice (some ⟨g, 0, none⟩) k k, .map (some bm)] 29)).drew ao k nc S AD T (put T q v) g gc bm br bc D line path) := HB10.out.next ((Below.refl _ _).alloc (Nat.le_refl _) _).drew
              clear HB10
              generalize (V2.alloc (.cells #[.int .i64 line, .string path, .slice (some ⟨g, 0, none⟩) k k, .map (some bm)] 29)).drew = V3 at *
              go_loopw [20] (fun i wr => ∃ j : Nat, j ≤ k ∧ i = .int .i64 j ∧ Hid (Both w wr ao k nc S AD T (put T q v) g gc bm br bc D line path)) (fun i _ => k - (intOf i).toNat)
              case atStart => exact ⟨0, Nat.zero_le _, rfl, HB11⟩
              case round =>
                clear HB11
                obtain ⟨j, hj, rfl, HI⟩ := hrel
                by_cases hlt : j < k
                · have hix := HI.out.s1.hdr.ix j hlt
                  by_cases hjq : j = q
                  · subst hjq
                    go_wp2_with fail
                    go_quiet (fail)
                    go_wp2
                    go_roundw
                    case rel => exact ⟨j + 1, by omega, by go_num, HI.out.next (below_drewN (Below.refl _ _) _)⟩
                    case measure => simp [intOf]; omega
                  · have hd : ((j : Int) != (q : Int)) = true := by rw [bne_iff_ne]; omega
                    have HF1 : Hid (∀ w', Below wr.heap.size wr w' → Calls Tryf.prog 9 #[.agg #[.int .i64 line, .string path, .slice (some ⟨g, 0, none⟩) k k, .map (some bm)], .string (S j)] w' fun e w'' =>
                      e = .returned (.string (T j)) ∧ w'' = w'.alloc (.cells #[.int .i64 line, .string path, .slice (some ⟨g, 0, none⟩) k k, .map (some bm)] 29)) := fun w' hb => callField (line := line) (path := path) HI.out.s1 hlt hb
                    have HF2 : Hid (∀ w', Below wr.heap.size wr w' → Calls Tryf.prog 9 #[.agg #[.int .i64 line, .string path, .slice (some ⟨gc, 0, none⟩) k k, .map (some bm)], .string (S j)] w' fun e w'' =>
                      e = .returned (.string (T j)) ∧ w'' = w'.alloc (.cells #[.int .i64 line, .string path, .slice (some ⟨gc, 0, none⟩) k k, .map (some bm)] 29)) := fun w' hb => by
                      have h := callField (line := line) (path := path) HI.out.s2 hlt hb
                      rw [put_other _ _ _ _ hjq] at h
                      exact h
                    have MK := MKtwo HI.out.s1 HI.out.r1 HI.out.r2 hlt
                    clear hjq
                    go_wp2_with fail
                    go_region_held3 (fun w' => w'.cell? ⟨br, 0, none⟩ = some (.int .i64 line) ∧ w'.cell? ⟨br, 1, none⟩ = some (.string path) ∧ w'.cell? ⟨br, 2, none⟩ = some (.slice (some ⟨g, 0, none⟩) k k) ∧ w'.cell? ⟨br, 3, none⟩ = some (.map (some bm)) ∧ w'.cell? ⟨bc, 0, none⟩ = some (.int .i64 line) ∧ w'.cell? ⟨bc, 1, none⟩ = some (.string path) ∧ w'.cell? ⟨bc, 2, none⟩ = some (.slice (some ⟨gc, 0, none⟩) k k) ∧ w'.cell? ⟨bc, 3, none⟩ = some (.map (some bm)) ∧ w'.cell? (AD j) = some (.string (S j)) ∧ Hid (Below wr.heap.size wr w')) (exact MK.out _ (by first | exact (Below.refl _ _).drew | exact ((Below.refl _ _).alloc (Nat.le_refl _) _).drew | exact (((Below.refl _ _).alloc (Nat.le_refl _) _).alloc (by simp) _).drew)) (first | (go_at_call_of 9 gc; refine (HF2.out _ ?_).mono ?_; (first | exact (Below.refl _ _).drew | exact ((Below.refl _ _).alloc (Nat.le_refl _) _).drew); rintro e w' ⟨rfl, hw⟩; obtain rfl := hw.symm) | (go_at_call_of 9 g; refine (HF1.out _ ?_).mono ?_; (first | exact (Below.refl _ _).drew | exact ((Below.refl _ _).alloc (Nat.le_refl _) _).drew); rintro e w' ⟨rfl, hw⟩; obtain rfl := hw.symm))
                    go_wp2
                    go_roundw
                    case rel => exact ⟨j + 1, by omega, by go_num, HI.out.next (((Below.refl _ _).alloc (Nat.le_refl _) _).alloc (by simp) _).drew⟩
                    case measure => simp [intOf]; omega
                · go_wp2
                  go_ret
                  exact ⟨rfl, HI.out.s1.below⟩
      · go_wp2
        go_ret
        exact ⟨rfl, Below.refl _ _⟩
    · have ho : 65536 < n ∨ (n ≤ 65536 ∧ 1048576 < path.size) ∨ (n ≤ 65536 ∧ path.size ≤ 1048576 ∧ 1048576 < v.size) := by omega
      rcases ho with ho | ⟨ho, ho1⟩ | ⟨ho, ho1, ho2⟩
      all_goals
        go_wp2
        go_ret
        exact ⟨rfl, Below.refl _ _⟩

set_option maxHeartbeats 1000000 in
set_option maxRecDepth 100000 in
/-- The ways on which the law is not asked: another number of fields, or no such place. -/
theorem law2_out (line : Int) (path v : ByteArray) (ao bo : Option Addr) (n nc m mc : Nat) (q : Int) (S T : Nat → ByteArray) (AD BD : Nat → Addr) (w : World)
    (hn : n * 16 ≤ 140737488351232) (hm : m * 16 ≤ 140737488351232) (hp : path.size ≤ maxLen) (ho : m ≠ n ∨ q < 0 ∨ (n : Int) ≤ q)
    (hA : Sees w ao n nc S AD) (hB : Sees w bo m mc T BD) :
    Calls Tryf.prog 4 #[.int .i64 line, .string path, .slice ao n nc, .slice bo m mc, .int .i64 q, .string v] w fun e w' => e = .returned (.bool true) ∧ Below w.heap.size w w' := by
  have HA : Hid (Sees w ao n nc S AD) := hA
  have HB : Hid (Sees w bo m mc T BD) := hB
  clear hA hB
  go_enter Tryf.func4, Tryf.ntmps4
  go_wp2_with fail
  refine (bytes10 line path ao bo n nc m mc q v S T AD BD w (by omega) (by omega) hp HA.out HB.out).mono ?_
  rintro e w' ⟨⟨β, rfl⟩, hw⟩
  obtain rfl := hw.symm
  cases β with
  | false =>
    go_wp2
    go_ret
    exact ⟨rfl, Below.refl _ _⟩
  | true =>
    by_cases hsm : n ≤ 65536 ∧ m ≤ 65536 ∧ path.size ≤ 1048576 ∧ v.size ≤ 1048576
    · obtain ⟨s1, s2, s3, s4⟩ := hsm
      go_wp2_with fail
      refine (bytes6 path v ao bo n nc m mc S T AD BD w (by omega) (by omega) HA.out HB.out).mono ?_
      rintro e w' ⟨⟨z, rfl⟩, hw⟩
      obtain rfl := hw.symm
      by_cases hz : z ≤ 1048576
      · have ho2 : m ≠ n ∨ (m = n ∧ q < 0) ∨ (m = n ∧ 0 ≤ q ∧ (n : Int) ≤ q) := by omega
        clear ho
        rcases ho2 with ho | ⟨rfl, ho⟩ | ⟨rfl, ho, ho1⟩
        all_goals
          go_wp2
          go_ret
          exact ⟨rfl, Below.refl _ _⟩
      · clear ho
        go_wp2
        go_ret
        exact ⟨rfl, Below.refl _ _⟩
    · clear ho
      have ho : 65536 < n ∨ (n ≤ 65536 ∧ 65536 < m) ∨ (n ≤ 65536 ∧ m ≤ 65536 ∧ 1048576 < path.size) ∨ (n ≤ 65536 ∧ m ≤ 65536 ∧ path.size ≤ 1048576 ∧ 1048576 < v.size) := by omega
      rcases ho with ho | ⟨ho, ho1⟩ | ⟨ho, ho1, ho2⟩ | ⟨ho, ho1, ho2, ho3⟩
      all_goals
        go_wp2
        go_ret
        exact ⟨rfl, Below.refl _ _⟩

end Go.Proofs.Qxb6628179aFmt
