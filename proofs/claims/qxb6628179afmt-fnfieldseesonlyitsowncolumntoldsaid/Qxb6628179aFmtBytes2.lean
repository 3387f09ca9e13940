import Derived.Test.Qxb6628179aFmtBytes
namespace Go.Proofs.Qxb6628179aFmt
open Go.RowKit

set_option maxHeartbeats 1000000 in
theorem bytes10 (line : Int) (path : ByteArray) (ao bo : Option Addr) (n nc m mc : Nat) (q : Int) (v : ByteArray) (S T : Nat → ByteArray) (AD BD : Nat → Addr) (w : World)
    (hn : n ≤ 140737488351232) (hm : m ≤ 140737488351232) (hp : path.size ≤ maxLen)
    (hA : Sees w ao n nc S AD) (hB : Sees w bo m mc T BD) :
    Calls Tryf.prog 10 #[.int .i64 line, .string path, .slice ao n nc, .slice bo m mc, .int .i64 q, .string v] w fun e w' => AnyBool e ∧ w' = w := by
  unfold maxLen at hp
  have HA : Hid (Sees w ao n nc S AD) := hA
  have HB : Hid (Sees w bo m mc T BD) := hB
  clear hA hB
  go_enter Tryf.func10, Tryf.ntmps10
  go_wp2
  all_goals try (go_ret; exact ⟨anyBool _, rfl⟩)
  go_loop [13, 14] (fun v i => ∃ k : Nat, ∃ z : Int, k ≤ n ∧ i = .int .i64 k ∧ v = .int .i64 z) (fun _ i => n - (intOf i).toNat)
  case atStart => exact ⟨0, _, Nat.zero_le _, rfl, rfl⟩
  case round =>
    obtain ⟨k, z, hk, rfl, rfl⟩ := hrel
    by_cases hlt : k < n
    · have h1 := HA.out.ix k hlt
      have h2 := HA.out.cell k hlt
      go_wp2
      all_goals try (go_ret; exact ⟨anyBool _, rfl⟩)
      go_round
      case rel => exact ⟨k + 1, _, by omega, by go_num, rfl⟩
      case measure => simp [intOf]; omega
    · go_wp2
      all_goals try (go_ret; exact ⟨anyBool _, rfl⟩)
      go_loop [13, 15] (fun v i => ∃ k : Nat, ∃ z : Int, k ≤ m ∧ i = .int .i64 k ∧ v = .int .i64 z) (fun _ i => m - (intOf i).toNat)
      case atStart => exact ⟨0, _, Nat.zero_le _, rfl, rfl⟩
      case round =>
        obtain ⟨k, z, hk, rfl, rfl⟩ := hrel
        by_cases hlt : k < m
        · have h1 := HB.out.ix k hlt
          have h2 := HB.out.cell k hlt
          go_wp2
          all_goals try (go_ret; exact ⟨anyBool _, rfl⟩)
          go_round
          case rel => exact ⟨k + 1, _, by omega, by go_num, rfl⟩
          case measure => simp [intOf]; omega
        · go_wp2
          all_goals (go_ret; exact ⟨anyBool _, rfl⟩)

set_option maxHeartbeats 1000000 in
theorem bytes6 (path v : ByteArray) (ao bo : Option Addr) (n nc m mc : Nat) (S T : Nat → ByteArray) (AD BD : Nat → Addr) (w : World)
    (hn : n ≤ 140737488351232) (hm : m ≤ 140737488351232)
    (hA : Sees w ao n nc S AD) (hB : Sees w bo m mc T BD) :
    Calls Tryf.prog 6 #[.string path, .string v, .slice ao n nc, .slice bo m mc] w fun e w' => AnyInt e ∧ w' = w := by
  have HA : Hid (Sees w ao n nc S AD) := hA
  have HB : Hid (Sees w bo m mc T BD) := hB
  clear hA hB
  go_enter Tryf.func6, Tryf.ntmps6
  go_wp2
  go_loop [9, 10] (fun v i => ∃ k : Nat, ∃ z : Int, k ≤ n ∧ i = .int .i64 k ∧ v = .int .i64 z) (fun _ i => n - (intOf i).toNat)
  case atStart => exact ⟨0, _, Nat.zero_le _, rfl, rfl⟩
  case round =>
    obtain ⟨k, z, hk, rfl, rfl⟩ := hrel
    by_cases hlt : k < n ∧ z ≤ 1048576
    · obtain ⟨hlt, hz⟩ := hlt
      have h1 := HA.out.ix k hlt
      have h2 := HA.out.cell k hlt
      go_wp2
      all_goals try (go_ret; exact ⟨anyInt _, rfl⟩)
      go_round
      case rel => exact ⟨k + 1, _, by omega, by go_num, rfl⟩
      case measure => simp [intOf]; omega
    · have ho : n ≤ k ∨ (k < n ∧ 1048576 < z) := by omega
      rcases ho with ho | ⟨ho, ho2⟩
      all_goals
        go_wp2
        go_loop [9, 11] (fun v i => ∃ k : Nat, ∃ z : Int, k ≤ m ∧ i = .int .i64 k ∧ v = .int .i64 z) (fun _ i => m - (intOf i).toNat)
        case atStart => exact ⟨0, _, Nat.zero_le _, rfl, rfl⟩
        case round =>
          obtain ⟨k, z, hk, rfl, rfl⟩ := hrel
          by_cases hlt : k < m ∧ z ≤ 1048576
          · obtain ⟨hlt, hz⟩ := hlt
            have h1 := HB.out.ix k hlt
            have h2 := HB.out.cell k hlt
            go_wp2
            all_goals try (go_ret; exact ⟨anyInt _, rfl⟩)
            go_round
            case rel => exact ⟨k + 1, _, by omega, by go_num, rfl⟩
            case measure => simp [intOf]; omega
          · have ho : m ≤ k ∨ (k < m ∧ 1048576 < z) := by omega
            rcases ho with ho | ⟨ho, ho2⟩
            all_goals
              go_wp2
              go_ret
              exact ⟨anyInt _, rfl⟩

end Go.Proofs.Qxb6628179aFmt
