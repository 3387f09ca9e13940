import Derived.Test.Qxb6628234aPlain
namespace Go.Proofs.Qxb6628234a
open Go.RowKit

/-- The offsets behind k rounds. -/
def Fill (w wr : World) (g n : Nat) (L : Nat → Nat) (k : Nat) : Prop :=
  wr.rowIs g 3 n (fun j => if j < k then .int .i64 (off L j : Int) else .int .i64 0) ∧ Below g w wr

theorem fill_start (w : World) (n : Nat) (L : Nat → Nat) : Fill w (w.alloc (.cells (madeCells #[.int .i64 0] n) 3)) w.heap.size n L 0 :=
  ⟨(World.rowIs_made w (.int .i64 0) n 3).congr (fun i _ => by simp), (Below.refl _ _).alloc (Nat.le_refl _) _⟩

theorem fill_step {w wr : World} {g n : Nat} {L : Nat → Nat} {k : Nat} (h : Fill w wr g n L k) : Fill w (wr.setCell ⟨g, k, none⟩ (.int .i64 (off L k : Int))) g n L (k + 1) := by
  refine ⟨(h.1.set k (.int .i64 (off L k : Int))).congr (fun i _ => ?_), h.2.setCell (Nat.le_refl _) _⟩
  by_cases e : i = k
  · subst e; simp
  · by_cases e2 : i < k
    · simp [e, e2, Nat.lt_succ_of_lt e2]
    · have : ¬ i < k + 1 := by omega
      simp [e, e2, this]

theorem Fill.cell {w wr : World} {g n : Nat} {L : Nat → Nat} {k : Nat} (h : Fill w wr g n L k) (hk : k < n) : wr.cell? ⟨g, k, none⟩ = some (.int .i64 0) := by
  rw [h.1.cell hk]; simp

/-- What ListOffsets leaves: the offsets in a new row, the size. -/
def OffPost (w : World) (L : Nat → Nat) (n : Nat) (e : Ending) (w' : World) : Prop :=
  e = .returned (.tuple #[.slice (some ⟨w.heap.size, 0, none⟩) n n, .int .i64 (off L n : Int)]) ∧ w'.rowIs w.heap.size 3 n (fun j => .int .i64 (off L j : Int)) ∧ Below w.heap.size w w'

set_option maxHeartbeats 1000000 in
theorem offsets6 (ao : Option Addr) (n nc : Nat) (A : Nat → Option Addr) (L C : Nat → Nat) (AD : Nat → Addr) (w : World) (hn : n + ps L n ≤ 2097152) (hA : Sees w ao n nc A L C AD) :
    Calls Try.prog 6 #[.slice ao n nc] w fun e w' => OffPost w L n e w' := by
  have HA : Hid (Sees w ao n nc A L C AD) := hA
  clear hA
  have hmk := fun w => run_make_row' (P := Try.prog) 25 3 (.int .i64 0) 8 Try.underlying25 info3 rfl .i64 .i64 n (by omega) (by omega) w
  go_enter Try.func6, Try.ntmps6
  go_wp2
  clear hmk
  have HF : Hid (Fill w (w.alloc (.cells (madeCells #[.int .i64 0] n) 3)) w.heap.size n L 0) := fill_start w n L
  obtain ⟨g, hg⟩ : ∃ g, g = w.heap.size := ⟨_, rfl⟩
  rw [← hg] at HF ⊢
  have HG : Hid (g = w.heap.size) := hg
  clear hg
  go_loopw [3, 11] (fun v i wr => ∃ k : Nat, k ≤ n ∧ i = .int .i64 k ∧ v = .int .i64 (off L k : Int) ∧ Hid (Fill w wr g n L k)) (fun _ i _ => n - (intOf i).toNat)
  case atStart => exact ⟨0, Nat.zero_le _, rfl, rfl, HF⟩
  case round =>
    obtain ⟨k, hk, rfl, rfl, HI⟩ := hrel
    by_cases hlt : k < n
    · have h1 := HA.out.ix k hlt
      have h2 : wr.cell? (AD k) = some (.slice (A k) (L k) (C k)) := (HI.out.2.cell (by rw [HG.out]; exact HA.out.old k hlt)).trans (HA.out.cell k hlt)
      have h3 := off_le L hk
      have h4 := off_le L (show k + 1 ≤ n by omega)
      rw [off_succ] at h4
      have h6 : off L n ≤ 8388612 := by simp only [off]; omega
      have h5 : off L k + (4 + L k) ≤ 8388612 := by omega
      clear h4 h3 h6
      have hgx := ix_own g n n k hlt
      have hgl := HI.out.cell hlt
      have hgf := HI.out.1.frozen k
      go_wp2
      go_roundw
      case rel => exact ⟨k + 1, by omega, by go_num, by rw [off_succ]; go_num, fill_step HI.out⟩
      case measure => simp [intOf]; omega
    · obtain rfl : k = n := by omega
      go_wp2
      go_ret2
      have hg := HG.out
      subst hg
      exact ⟨rfl, HI.out.1.congr (fun i hi => by simp [hi]), HI.out.2⟩

end Go.Proofs.Qxb6628234a
