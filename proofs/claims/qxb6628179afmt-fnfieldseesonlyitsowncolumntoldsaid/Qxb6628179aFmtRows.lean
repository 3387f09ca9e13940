/-
  No cell of these rows narrows 'for every input' (looked for: loops, veiled, ifaces, maps, wideKeys, modest, calm, conditions, laid).
  DERIVED. THE GIVEN ROWS OF THIS SEAT. 2 by the template 'for every input the law returns true; each argument reads behind the call as it read before'; 0 by the template 'total and deterministic' (their statements: Qxb6628179aFmtTotals.lean).
  GIVEN WITH THE SEED: the statements are not yours to turn. If you find one false, say at which input.
  Laid BY PROGRAM, IN A SANDBOX (cutbox-rows.mjs): the forced cells as the released guide's own fill.sh prints them over the translation 78dd0cc102f139a1… (all of the seat's roots in one cut). By AI agents, Wed Nov 11 2026. No macro, syntax, notation, axiom, sorry.
-/
import Derived.Test.Qxb6628179aFmtChecked
import GoSem.Claim
import GoSem.ClaimJoined
import GoSem.ClaimMapViews
import Derived.JoinedTies
import Derived.KernelRfl
namespace Go.Proofs.Qxb6628179aFmt
/- THE CELL 'sum', in the pinned program and in every row, IS THE sha256 OF THE DUMP (.gsa) THAT Qxb6628179aFmtProg.lean LOADS. Nothing in Lean hashes anything: it is a label: what it is worth is what the hold of that sum in a sandbox is worth. -/
noncomputable def Tryf.pinned : Pinned := { name := "qxb6628179afmt", sum := "78dd0cc102f139a119c5edd389bea3f22cbc340664c8e0e47f6d655ef1832a82", checked := Tryf.checked }
namespace Rows
def none {H : Type} : Left H := { results := [], args := [] }

/-- 'zzlaws_pkg_csvfile_b1.FnFieldReadsBackRecordUnderHeader': WHATEVER THE INPUT: true; the input reads as it did. -/
def fnFieldReadsBackRecordUnderHeaderSpec : ChangeSpec := { name := "fnFieldReadsBackRecordUnderHeader", fn := fun _ => fun
  | [d1, d2, d3, d4] => { results := [.lit (.bool true)], args := [d1, d2, d3, d4] }
  | _ => none }
def fnFieldReadsBackRecordUnderHeaderRow : OpenClaim := { program := "qxb6628179afmt", sum := "78dd0cc102f139a119c5edd389bea3f22cbc340664c8e0e47f6d655ef1832a82", func := "example.com/emergence/emergence/zzlaws_pkg_csvfile_b1.FnFieldReadsBackRecordUnderHeader", spec := "fnFieldReadsBackRecordUnderHeader", stops := ["fmt.Sprintf"], inPlace := ["fmt.Sprintf"], apart := false }
/-- NO THEOREM (fmt's text is open here; it may be false): for the released tool's asking of the row's closed facts alone. THE STATEMENT IS 'FnFieldReadsBackRecordUnderHeaderToldSaid' (Qxb6628179aFmtCards.lean). -/
def FnFieldReadsBackRecordUnderHeaderFormAsk : Prop := fnFieldReadsBackRecordUnderHeaderRow.holds Tryf.pinned (OpenSpec.ofChange fnFieldReadsBackRecordUnderHeaderSpec)

/-- ITS FALSE NEIGHBOUR: 'it returns false'. Refute it at one input. -/
def fnFieldReadsBackRecordUnderHeaderWrong : ChangeSpec := { name := "fnFieldReadsBackRecordUnderHeader", fn := fun _ => fun
  | [d1, d2, d3, d4] => { results := [.lit (.bool false)], args := [d1, d2, d3, d4] }
  | _ => none }
def FnFieldReadsBackRecordUnderHeaderWrongFormAsk : Prop := fnFieldReadsBackRecordUnderHeaderRow.holds Tryf.pinned (OpenSpec.ofChange fnFieldReadsBackRecordUnderHeaderWrong)

/-- 'zzlaws_pkg_csvfile_b1.FnFieldSeesOnlyItsOwnColumn': WHATEVER THE INPUT: true; the input reads as it did. -/
def fnFieldSeesOnlyItsOwnColumnSpec : ChangeSpec := { name := "fnFieldSeesOnlyItsOwnColumn", fn := fun _ => fun
  | [d1, d2, d3, d4, d5, d6] => { results := [.lit (.bool true)], args := [d1, d2, d3, d4, d5, d6] }
  | _ => none }
def fnFieldSeesOnlyItsOwnColumnRow : OpenClaim := { program := "qxb6628179afmt", sum := "78dd0cc102f139a119c5edd389bea3f22cbc340664c8e0e47f6d655ef1832a82", func := "example.com/emergence/emergence/zzlaws_pkg_csvfile_b1.FnFieldSeesOnlyItsOwnColumn", spec := "fnFieldSeesOnlyItsOwnColumn", stops := ["fmt.Sprintf"], inPlace := ["fmt.Sprintf"], apart := false }
/-- NO THEOREM (fmt's text is open here; it may be false): for the released tool's asking of the row's closed facts alone. THE STATEMENT IS 'FnFieldSeesOnlyItsOwnColumnToldSaid' (Qxb6628179aFmtCards.lean). -/
def FnFieldSeesOnlyItsOwnColumnFormAsk : Prop := fnFieldSeesOnlyItsOwnColumnRow.holds Tryf.pinned (OpenSpec.ofChange fnFieldSeesOnlyItsOwnColumnSpec)

/-- ITS FALSE NEIGHBOUR: 'it returns false'. Refute it at one input. -/
def fnFieldSeesOnlyItsOwnColumnWrong : ChangeSpec := { name := "fnFieldSeesOnlyItsOwnColumn", fn := fun _ => fun
  | [d1, d2, d3, d4, d5, d6] => { results := [.lit (.bool false)], args := [d1, d2, d3, d4, d5, d6] }
  | _ => none }
def FnFieldSeesOnlyItsOwnColumnWrongFormAsk : Prop := fnFieldSeesOnlyItsOwnColumnRow.holds Tryf.pinned (OpenSpec.ofChange fnFieldSeesOnlyItsOwnColumnWrong)

end Rows
end Go.Proofs.Qxb6628179aFmt
