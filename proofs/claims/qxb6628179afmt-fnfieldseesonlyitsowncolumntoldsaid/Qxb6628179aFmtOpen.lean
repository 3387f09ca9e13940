import Derived.Test.Qxb6628179aFmtStand
import Derived.ProofKit
import Derived.SliceStrings
import Derived.SizedLaws
import Derived.SevenToldRow
namespace Go.Proofs.Qxb6628179aFmt
open Go.RowKit Go.ChangeShapes Go.WideShapes

theorem cells9 : Tryf.prog.cellsOf 9 = 1 := by kernel_rfl
theorem bytes9 : Tryf.prog.bytesOf 9 = 16 := by kernel_rfl
theorem own : ownKnob Tryf.prog.godebug = none := by kernel_rfl
theorem laidOut : laidOutB Tryf.pinned.checked.prog = true := by kernel_rfl
theorem stops : Tryf.pinned.checked.prog.stops = ["fmt.Sprintf"] := by kernel_rfl
theorem stopKnobs : Tryf.pinned.checked.prog.stopKnobs = [] := by kernel_rfl
theorem quiet (os : Os) : Stop.quiet Tryf.pinned.checked.prog os := by
  intro k hk
  rw [stopKnobs] at hk
  cases hk

/-- A '[]string' that came in, as the walks see it. -/
theorem open_sees {H : Type} {enc : TypeId × Value → H} {W : World} {sp : Nat → Bool} {held : Bool} {fuel : Nat} {ao : Option Addr} {len cap : Nat} {d : DataW H} {p : List MemPlace}
    (h : DataW.trod enc Tryf.prog W 0 sp held fuel 22 [.slice ao len cap] = some (d, p)) :
    ((ao = none ∧ len = 0 ∧ cap = 0 ∧ d = .nil) ∨ ∃ (a : Addr) (S : Nat → ByteArray) (es rest : List (DataW H)), ao = some a ∧ Sees W (some a) len cap S (fun k => a.add k) ∧ (∀ k, k < len → (S k).size ≤ maxLen) ∧ d = .slice es rest ∧ es.length = len) := by
  rcases open_strings Tryf.underlying22 Tryf.underlying9 cells9 h with ⟨hcs, hx⟩ | ⟨a, len', cap', ss, hcs, _, hl, hm, hz, hx, hcell, hsz⟩
  · left
    simp at hcs hx
    obtain ⟨rfl, rfl, rfl⟩ := hcs
    exact ⟨rfl, rfl, rfl, hx.1⟩
  · right
    simp at hcs
    obtain ⟨rfl, rfl, rfl⟩ := hcs
    simp only [Prod.mk.injEq] at hx
    have hle : len ≤ ss.length := by rw [hz]; split <;> omega
    have hc : ∀ k, k < len → W.cell? (a.add k) = some (.string (ss.getD k ByteArray.empty)) := fun k hk => hcell k (by omega)
    refine ⟨a, fun k => ss.getD k ByteArray.empty, _, _, rfl, ⟨fun k hk w1 => ix_some a len cap k hk w1, hc, fun k hk => ?_⟩, fun k hk => ?_, hx.1, ?_⟩
    · have h1 := hc k hk
      unfold World.cell? at h1
      split at h1
      · rename_i c e f hb
        exact (Array.getElem?_eq_some_iff.1 hb).1
      · cases h1
    · have hk' : k < ss.length := by omega
      simp only [List.getD_eq_getElem?_getD, List.getElem?_eq_getElem hk', Option.getD_some]
      exact hsz _ (List.getElem_mem hk')
    · simp [strs]; omega

end Go.Proofs.Qxb6628179aFmt
