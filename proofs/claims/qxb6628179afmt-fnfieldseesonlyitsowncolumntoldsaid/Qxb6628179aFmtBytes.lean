import Derived.Test.Qxb6628179aFmtRows
import Derived.WalkKit
import Derived.WalkSpells
import Derived.WalkLawsBesides
namespace Go.Proofs.Qxb6628179aFmt
open Go.RowKit

/-- A slice of strings as the walk sees it: where element k lies, and what it holds. Nil, empty and filled in one form. -/
structure Sees (w : World) (ao : Option Addr) (len cap : Nat) (S : Nat → ByteArray) (AD : Nat → Addr) : Prop where
  ix : ∀ k : Nat, k < len → ∀ w1 : World, (Instr.indexAt 22 (.slice ao len cap) (.int .i64 (k : Int))).run Tryf.prog w1 = .ok (.pointer (some (AD k))) w1
  cell : ∀ k : Nat, k < len → w.cell? (AD k) = some (.string (S k))
  old : ∀ k : Nat, k < len → (AD k).block < w.heap.size

/-- The call gives some bool. -/
def AnyBool (e : Ending) : Prop := ∃ β : Bool, e = .returned (.bool β)
theorem anyBool (β : Bool) : AnyBool (.returned (.bool β)) := ⟨β, rfl⟩
/-- The call gives some int. -/
def AnyInt (e : Ending) : Prop := ∃ z : Int, e = .returned (.int .i64 z)
theorem anyInt (z : Int) : AnyInt (.returned (.int .i64 z)) := ⟨z, rfl⟩

set_option maxHeartbeats 1000000 in
theorem bytes5 (line : Int) (path : ByteArray) (ao bo : Option Addr) (n nc m mc : Nat) (S T : Nat → ByteArray) (AD BD : Nat → Addr) (w : World)
    (hn : n ≤ 140737488351232) (hm : m ≤ 140737488351232) (hp : path.size ≤ maxLen)
    (hA : Sees w ao n nc S AD) (hB : Sees w bo m mc T BD) :
    Calls Tryf.prog 5 #[.int .i64 line, .string path, .slice ao n nc, .slice bo m mc] w fun e w' => AnyBool e ∧ w' = w := by
  unfold maxLen at hp
  have HA : Hid (Sees w ao n nc S AD) := hA
  have HB : Hid (Sees w bo m mc T BD) := hB
  clear hA hB
  go_enter Tryf.func5, Tryf.ntmps5
  go_wp2
  all_goals try (go_ret; exact ⟨anyBool _, rfl⟩)
  go_loop [9, 10] (fun v i => ∃ k : Nat, ∃ z : Int, k ≤ n ∧ i = .int .i64 k ∧ v = .int .i64 z) (fun _ i => n - (intOf i).toNat)
  case atStart => exact ⟨0, _, Nat.zero_le _, rfl, rfl⟩
  case round =>
    obtain ⟨k, z, hk, rfl, rfl⟩ := hrel
    by_cases hlt : k < n
    · have h1 := HA.out.ix k hlt
      have h2 := HA.out.cell k hlt
      go_wp2
      all_goals try (go_ret; exact ⟨anyBool _, rfl⟩)
      go_round
      case rel => exact ⟨k + 1, _, by omega, by go_num, rfl⟩
      case measure => simp [intOf]; omega
    · go_wp2
      all_goals try (go_ret; exact ⟨anyBool _, rfl⟩)
      go_loop [9, 11] (fun v i => ∃ k : Nat, ∃ z : Int, k ≤ m ∧ i = .int .i64 k ∧ v = .int .i64 z) (fun _ i => m - (intOf i).toNat)
      case atStart => exact ⟨0, _, Nat.zero_le _, rfl, rfl⟩
      case round =>
        obtain ⟨k, z, hk, rfl, rfl⟩ := hrel
        by_cases hlt : k < m
        · have h1 := HB.out.ix k hlt
          have h2 := HB.out.cell k hlt
          go_wp2
          all_goals try (go_ret; exact ⟨anyBool _, rfl⟩)
          go_round
          case rel => exact ⟨k + 1, _, by omega, by go_num, rfl⟩
          case measure => simp [intOf]; omega
        · go_wp2
          go_ret
          exact ⟨anyBool _, rfl⟩

end Go.Proofs.Qxb6628179aFmt
