import Derived.Test.Qxb6628234aPlain
import Derived.ProofKit
import Derived.SizedLaws
import Derived.Deep.Matrix
namespace Go.Proofs.Qxb6628234a
open Go.RowKit Go.ChangeShapes Go.WideShapes

theorem cells24 : Try.prog.cellsOf 24 = 1 := by kernel_rfl
theorem cells5 : Try.prog.cellsOf 5 = 1 := by kernel_rfl
theorem bytes24 : Try.prog.bytesOf 24 = 24 := by kernel_rfl
theorem own : ownKnob Try.prog.godebug = none := by kernel_rfl
theorem laidOut : laidOutB Try.pinned.checked.prog = true := by kernel_rfl

/-- A '[][]byte' that came in, as the walks see it. -/
theorem open_came {H : Type} {enc : TypeId × Value → H} {W : World} {held : Bool} {fuel : Nat} {ao : Option Addr} {n nc : Nat} {d : DataW H} {p : List MemPlace}
    (h : DataW.trod enc Try.prog W 0 (fun _ => true) held fuel 22 [.slice ao n nc] = some (d, p)) :
    (∃ (A : Nat → Option Addr) (L C : Nat → Nat) (AD : Nat → Addr), Came W ao n nc A L C AD) ∧ ((n = 0) ∨ ∃ es rest : List (DataW H), d = .slice es rest ∧ es.length = n) := by
  rcases Deep.open_int_rows Try.underlying22 Try.underlying24 Try.underlying5 cells24 cells5 h with ⟨hcs, hx⟩ | ⟨a, len, cap, A, L, C, Z, hcs, _, hl, hm, hx, hall⟩
  · simp at hcs hx
    obtain ⟨rfl, rfl, rfl⟩ := hcs
    exact ⟨⟨fun _ => none, fun _ => 0, fun _ => 0, fun _ => ⟨0, 0, none⟩, Nat.le_refl _, Or.inl ⟨rfl, rfl, rfl⟩⟩, Or.inl rfl⟩
  · simp at hcs
    obtain ⟨rfl, rfl, rfl⟩ := hcs
    simp only [Prod.mk.injEq] at hx
    exact ⟨⟨A, L, C, fun k => a.add k, hl, Or.inr ⟨a, rfl, rfl, fun k hk => (hall k (by omega)).1⟩⟩, Or.inr ⟨_, _, hx.1, by simp⟩⟩

end Go.Proofs.Qxb6628234a
