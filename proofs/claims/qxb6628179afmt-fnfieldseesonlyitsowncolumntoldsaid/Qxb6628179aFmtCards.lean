/-
  DERIVED. GIVEN WITH THE SEED: THE CARDS: each row of Qxb6628179aFmtRows.lean that lists a variable, with what it lists TIED to the program's text (the seventh form; the later family's looks); each row that meets fmt, with fmt's text TOLD by the authors' own Lean function (tested against real Go, not proved from fmt's source: count such statements apart). THE CARD IS WHAT COUNTS. Prove the row's statement (the work); the ties are given (Qxb6628179aFmtTie.lean); close each card by the builder's one call (the guide's Derived/Test/ToyasCard.lean, 'card_holds'). Laid BY PROGRAM, IN A SANDBOX (cutbox-door.mjs). By AI agents, Wed Nov 11 2026. No macro, syntax, notation, axiom, sorry.
-/
import Derived.Test.Qxb6628179aFmtRows
import GoSem.ClaimSeven
namespace Go.Proofs.Qxb6628179aFmt
namespace Rows

/-- THE TOLD CARD OF 'zzlaws_pkg_csvfile_b1.FnFieldReadsBackRecordUnderHeader'. -/
def fnFieldReadsBackRecordUnderHeaderCard : Claim7 := { stood := { row := fnFieldReadsBackRecordUnderHeaderRow, standIns := [], harness := (true, "31ed871624e7ddf174427c83dbf7087bffa640da532beee7f7b43011aa78471b"), looks := false }, told := true, goes := false }
def FnFieldReadsBackRecordUnderHeaderToldSaid : Prop := Claim7.holds Tryf.pinned (.plain (OpenSpec.ofChange fnFieldReadsBackRecordUnderHeaderSpec)) fnFieldReadsBackRecordUnderHeaderCard
/-- ITS FALSE NEIGHBOUR. Refute it at one input. -/
def FnFieldReadsBackRecordUnderHeaderToldWrongFalsely : Prop := Claim7.holds Tryf.pinned (.plain (OpenSpec.ofChange fnFieldReadsBackRecordUnderHeaderWrong)) fnFieldReadsBackRecordUnderHeaderCard

/-- THE TOLD CARD OF 'zzlaws_pkg_csvfile_b1.FnFieldSeesOnlyItsOwnColumn'. -/
def fnFieldSeesOnlyItsOwnColumnCard : Claim7 := { stood := { row := fnFieldSeesOnlyItsOwnColumnRow, standIns := [], harness := (true, "31ed871624e7ddf174427c83dbf7087bffa640da532beee7f7b43011aa78471b"), looks := false }, told := true, goes := false }
def FnFieldSeesOnlyItsOwnColumnToldSaid : Prop := Claim7.holds Tryf.pinned (.plain (OpenSpec.ofChange fnFieldSeesOnlyItsOwnColumnSpec)) fnFieldSeesOnlyItsOwnColumnCard
/-- ITS FALSE NEIGHBOUR. Refute it at one input. -/
def FnFieldSeesOnlyItsOwnColumnToldWrongFalsely : Prop := Claim7.holds Tryf.pinned (.plain (OpenSpec.ofChange fnFieldSeesOnlyItsOwnColumnWrong)) fnFieldSeesOnlyItsOwnColumnCard
end Rows
end Go.Proofs.Qxb6628179aFmt
