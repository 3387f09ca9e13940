import Derived.Test.Qxb6628234aRows
import Derived.WalkKit
import Derived.WalkSpells
import Derived.WalkLawsBesides
import Derived.Deep.OwnRows
import Derived.Deep.Slices
namespace Go.Proofs.Qxb6628234a
open Go.RowKit

/-- The sum of the first k lengths. -/
def ps (L : Nat → Nat) : Nat → Nat
  | 0 => 0
  | k + 1 => ps L k + L k

theorem ps_mono (L : Nat → Nat) {i j : Nat} (h : i ≤ j) : ps L i ≤ ps L j := by
  induction j with
  | zero => obtain rfl : i = 0 := by omega
            exact Nat.le_refl _
  | succ j ih =>
    by_cases e : i = j + 1
    · subst e; exact Nat.le_refl _
    · have := ih (by omega)
      show ps L i ≤ ps L j + L j
      omega

theorem ps_add (L : Nat → Nat) (k j : Nat) : ps L (k + j) = ps L k + ps (fun i => L (k + i)) j := by
  induction j with
  | zero => simp [ps]
  | succ j ih => rw [← Nat.add_assoc]; show ps L (k + j) + L (k + j) = _; rw [ih]; simp only [ps]; omega

theorem ps_congr {L M : Nat → Nat} {k : Nat} (h : ∀ i, i < k → L i = M i) : ps L k = ps M k := by
  induction k with
  | zero => rfl
  | succ k ih => show ps L k + L k = ps M k + M k; rw [ih (fun i hi => h i (by omega)), h k (by omega)]

/-- Where item j begins; at j = n the whole size. -/
def off (L : Nat → Nat) (j : Nat) : Nat := 4 + 4 * j + ps L j

theorem off_succ (L : Nat → Nat) (j : Nat) : off L (j + 1) = off L j + (4 + L j) := by simp only [off, ps]; omega
theorem off_zero (L : Nat → Nat) : off L 0 = 4 := rfl
theorem off_le (L : Nat → Nat) {i n : Nat} (h : i ≤ n) : off L i ≤ off L n := by have := ps_mono L h; simp only [off]; omega

/-- A slice of slices of bytes as the walk sees it: where element k lies, and its length. Nil, empty and filled in one form. -/
structure Sees (w : World) (ao : Option Addr) (n nc : Nat) (A : Nat → Option Addr) (L C : Nat → Nat) (AD : Nat → Addr) : Prop where
  ix : ∀ k : Nat, k < n → ∀ w1 : World, (Instr.indexAt 22 (.slice ao n nc) (.int .i64 (k : Int))).run Try.prog w1 = .ok (.pointer (some (AD k))) w1
  cell : ∀ k : Nat, k < n → w.cell? (AD k) = some (.slice (A k) (L k) (C k))
  old : ∀ k : Nat, k < n → (AD k).block < w.heap.size

theorem Sees.below {w w' : World} {ao : Option Addr} {n nc : Nat} {A : Nat → Option Addr} {L C : Nat → Nat} {AD : Nat → Addr} (h : Sees w ao n nc A L C AD) (hb : Below w.heap.size w w') : Sees w' ao n nc A L C AD :=
  ⟨h.ix, fun k hk => (hb.cell (h.old k hk)).trans (h.cell k hk), fun k hk => Nat.lt_of_lt_of_le (h.old k hk) hb.size⟩

theorem sees_nil (w : World) (A : Nat → Option Addr) (L C : Nat → Nat) (AD : Nat → Addr) : Sees w none 0 0 A L C AD := ⟨fun _ h => absurd h (Nat.not_lt_zero _), fun _ h => absurd h (Nat.not_lt_zero _), fun _ h => absurd h (Nat.not_lt_zero _)⟩

theorem elem22 : Try.prog.elem 22 = 24 := by kernel_rfl
theorem t24size : Try.t24.size = 1 := by kernel_rfl
theorem elem25 : Try.prog.elem 25 = 3 := by kernel_rfl
theorem t3size : Try.t3.size = 1 := by kernel_rfl
theorem info3 : (Try.prog.info? 3).map (fun i => (i.zero, i.size, i.bytes)) = some (some (.int .i64 0), 1, 8) := by kernel_rfl

theorem ix_some (a : Addr) (len cap k : Nat) (hk : k < len) (w1 : World) : (Instr.indexAt 22 (.slice (some a) len cap) (.int .i64 (k : Int))).run Try.prog w1 = .ok (.pointer (some (a.add k))) w1 := by
  rw [run_indexAt_slice w1 22 a len cap .i64 k (by rw [elem22]; exact Try.underlying22), if_pos (by omega), elem22]
  simp [sizeOf, go_sem, t24size]

theorem ix_own (g len cap k : Nat) (hk : k < len) (w1 : World) : (Instr.indexAt 25 (.slice (some ⟨g, 0, none⟩) len cap) (.int .i64 (k : Int))).run Try.prog w1 = .ok (.pointer (some ⟨g, k, none⟩)) w1 := by
  rw [run_indexAt_slice w1 25 ⟨g, 0, none⟩ len cap .i64 k (by rw [elem25]; exact Try.underlying25), if_pos (by omega), elem25]
  simp [sizeOf, go_sem, t3size, Addr.add]
  intro h
  exact h.symm

/-- The bound's answer: true only if the lengths add up to at most 2^20. -/
def BytesPost (L : Nat → Nat) (n x : Nat) (e : Ending) : Prop := e = .returned (.bool false) ∨ (e = .returned (.bool true) ∧ n + ps L n + x ≤ 1048576)

set_option maxHeartbeats 1000000 in
theorem bytes5 (q : Int) (ao : Option Addr) (n nc : Nat) (A : Nat → Option Addr) (L C : Nat → Nat) (AD : Nat → Addr) (w : World) (hn : n ≤ 140737488351232) (hA : Sees w ao n nc A L C AD) :
    Calls Try.prog 5 #[.slice ao n nc, .int .i64 q] w fun e w' => BytesPost L n 0 e ∧ w' = w := by
  have HA : Hid (Sees w ao n nc A L C AD) := hA
  clear hA
  go_enter Try.func5, Try.ntmps5
  go_wp2
  all_goals try (go_ret; exact ⟨Or.inl rfl, rfl⟩)
  go_loop [5, 6] (fun v i => ∃ k : Nat, k ≤ n ∧ i = .int .i64 k ∧ v = .int .i64 ((n + ps L k : Nat) : Int) ∧ n + ps L k ≤ 1048576) (fun _ i => n - (intOf i).toNat)
  case atStart => exact ⟨0, Nat.zero_le _, rfl, by simp [ps], by simp only [ps]; omega⟩
  case round =>
    obtain ⟨k, hk, rfl, rfl, hz⟩ := hrel
    by_cases hlt : k < n
    · have h1 := HA.out.ix k hlt
      have h2 := HA.out.cell k hlt
      go_wp2
      all_goals try (go_ret; exact ⟨Or.inl rfl, rfl⟩)
      go_round
      case rel => exact ⟨k + 1, by omega, by go_num, by simp only [ps]; go_num, by simp only [ps]; omega⟩
      case measure => simp [intOf]; omega
    · obtain rfl : k = n := by omega
      go_wp2
      go_ret
      exact ⟨Or.inr ⟨rfl, hz⟩, rfl⟩

set_option maxHeartbeats 1000000 in
theorem sumLens7 (ao : Option Addr) (n nc : Nat) (A : Nat → Option Addr) (L C : Nat → Nat) (AD : Nat → Addr) (w : World) (hn : n + ps L n ≤ 1048576) (hA : Sees w ao n nc A L C AD) :
    Calls Try.prog 7 #[.slice ao n nc] w fun e w' => e = .returned (.int .i64 (ps L n : Int)) ∧ w' = w := by
  have HA : Hid (Sees w ao n nc A L C AD) := hA
  clear hA
  go_enter Try.func7, Try.ntmps7
  go_wp2
  go_loop [3, 8] (fun v i => ∃ k : Nat, k ≤ n ∧ i = .int .i64 k ∧ v = .int .i64 (ps L k : Int)) (fun _ i => n - (intOf i).toNat)
  case atStart => exact ⟨0, Nat.zero_le _, rfl, rfl⟩
  case round =>
    obtain ⟨k, hk, rfl, rfl⟩ := hrel
    by_cases hlt : k < n
    · have h1 := HA.out.ix k hlt
      have h2 := HA.out.cell k hlt
      have h3 := ps_mono L hk
      have h4 := ps_mono L (show k + 1 ≤ n by omega)
      have h5 : ps L k + L k ≤ 1048576 := by simp only [ps] at h4; omega
      clear h4
      go_wp2
      go_round
      case rel => exact ⟨k + 1, by omega, by go_num, by simp only [ps]; go_num⟩
      case measure => simp [intOf]; omega
    · obtain rfl : k = n := by omega
      go_wp2
      go_ret
      exact ⟨rfl, rfl⟩

/-! ### cuts -/

theorem lt_of_cell {w : World} {a : Addr} {v : Value} (h : w.cell? a = some v) : a.block < w.heap.size := by
  unfold World.cell? at h
  split at h
  · rename_i c e f hb
    exact (Array.getElem?_eq_some_iff.1 hb).1
  · cases h

/-- A slice that came in: nil, or its elements lie behind its address. -/
def Came (w : World) (ao : Option Addr) (n nc : Nat) (A : Nat → Option Addr) (L C : Nat → Nat) (AD : Nat → Addr) : Prop :=
  n ≤ nc ∧ ((ao = none ∧ n = 0 ∧ nc = 0) ∨ ∃ a : Addr, ao = some a ∧ AD = (fun k => a.add k) ∧ ∀ k, k < n → w.cell? (a.add k) = some (.slice (A k) (L k) (C k)))

theorem Came.sees {w : World} {ao : Option Addr} {n nc : Nat} {A : Nat → Option Addr} {L C : Nat → Nat} {AD : Nat → Addr} (h : Came w ao n nc A L C AD) : Sees w ao n nc A L C AD := by
  obtain ⟨_, ⟨rfl, rfl, rfl⟩ | ⟨a, rfl, rfl, hc⟩⟩ := h
  · exact sees_nil _ _ _ _ _
  · exact ⟨fun k hk w1 => ix_some a n nc k hk w1, hc, fun k hk => lt_of_cell (hc k hk)⟩

theorem run_size24 (w : World) : (sizeOf 24).run Try.prog w = .ok 1 w := by simp [sizeOf, go_sem, t24size]

theorem Came.head {w : World} {ao : Option Addr} {n nc : Nat} {A : Nat → Option Addr} {L C : Nat → Nat} {AD : Nat → Addr} (h : Came w ao n nc A L C AD) {k : Nat} (hk : k ≤ n) :
    (∀ w1 : World, (Instr.sliceAt 22 (.slice ao n nc) none (some (.int .i64 (k : Int))) none).run Try.prog w1 = .ok (.slice ao k nc) w1) ∧ Sees w ao k nc A L C AD := by
  have hu : Try.prog.underlying 22 = some (.slice (Try.prog.elem 22)) := by rw [elem22]; exact Try.underlying22
  have hle := h.1
  refine ⟨fun w1 => ?_, ?_⟩
  · rw [run_sliceAt_slice w1 22 _ _ _ _ hu, run_slice_h w1 22 ao n nc hu .i64 k (by omega) (by omega), elem22, run_size24]
    simp [Result.andThen, sliced, Addr.add]
  · obtain ⟨_, ⟨rfl, rfl, rfl⟩ | ⟨a, rfl, rfl, hc⟩⟩ := h
    · obtain rfl : k = 0 := by omega
      exact sees_nil _ _ _ _ _
    · exact ⟨fun j hj w1 => ix_some a k nc j hj w1, fun j hj => hc j (by omega), fun j hj => lt_of_cell (hc j (by omega))⟩

theorem Came.tail {w : World} {ao : Option Addr} {n nc : Nat} {A : Nat → Option Addr} {L C : Nat → Nat} {AD : Nat → Addr} (h : Came w ao n nc A L C AD) {k : Nat} (hk : k ≤ n) :
    ∃ ao2 : Option Addr, (∀ w1 : World, (Instr.sliceAt 22 (.slice ao n nc) (some (.int .i64 (k : Int))) none none).run Try.prog w1 = .ok (.slice ao2 (n - k) (nc - k)) w1) ∧ Sees w ao2 (n - k) (nc - k) (fun i => A (k + i)) (fun i => L (k + i)) (fun i => C (k + i)) (fun i => AD (k + i)) := by
  have hu : Try.prog.underlying 22 = some (.slice (Try.prog.elem 22)) := by rw [elem22]; exact Try.underlying22
  have hle := h.1
  refine ⟨if nc = k then ao else ao.map (·.add k), fun w1 => ?_, ?_⟩
  · rw [run_sliceAt_slice w1 22 _ _ _ _ hu, run_slice_l w1 22 ao n nc hu .i64 k (by omega) (by omega), elem22, run_size24]
    simp [Result.andThen, sliced]
  · obtain ⟨_, ⟨rfl, rfl, rfl⟩ | ⟨a, rfl, rfl, hc⟩⟩ := h
    · obtain rfl : k = 0 := by omega
      exact ⟨fun j hj => absurd hj (by omega), fun j hj => absurd hj (by omega), fun j hj => absurd hj (by omega)⟩
    · by_cases e : nc = k
      · exact ⟨fun j hj => absurd hj (by omega), fun j hj => absurd hj (by omega), fun j hj => absurd hj (by omega)⟩
      · rw [if_neg e]
        refine ⟨fun j hj w1 => ?_, fun j hj => hc (k + j) (by omega), fun j hj => lt_of_cell (hc (k + j) (by omega))⟩
        have := ix_some (a.add k) (n - k) (nc - k) j hj w1
        rw [Deep.add_add] at this
        exact this

end Go.Proofs.Qxb6628234a
