/-
  No cell of these rows narrows 'for every input' (looked for: loops, veiled, ifaces, maps, wideKeys, modest, calm, conditions, laid).
  DERIVED. THE GIVEN ROWS OF THIS SEAT. 2 by the template 'for every input the law returns true; each argument reads behind the call as it read before'; 0 by the template 'total and deterministic' (their statements: Qxb6628266aTotals.lean).
  GIVEN WITH THE SEED: the statements are not yours to turn. If you find one false, say at which input.
  Laid BY PROGRAM, IN A SANDBOX (cutbox-rows.mjs): the forced cells as the released guide's own fill.sh prints them over the translation afcae9fe447fcde1… (all of the seat's roots in one cut). By AI agents, Wed Nov 11 2026. No macro, syntax, notation, axiom, sorry.
-/
import Derived.Test.Qxb6628266aChecked
import GoSem.Claim
import GoSem.ClaimJoined
import GoSem.ClaimMapViews
import Derived.JoinedTies
import Derived.KernelRfl
namespace Go.Proofs.Qxb6628266a
/- THE CELL 'sum', in the pinned program and in every row, IS THE sha256 OF THE DUMP (.gsa) THAT Qxb6628266aProg.lean LOADS. Nothing in Lean hashes anything: it is a label: what it is worth is what the hold of that sum in a sandbox is worth. -/
noncomputable def Try.pinned : Pinned := { name := "qxb6628266a", sum := "afcae9fe447fcde19208de227ef0f637e6ee8aaada069791b53397992fcf0d11", checked := Try.checked }
namespace Rows
def none {H : Type} : Left H := { results := [], args := [] }

/-- 'zzlaws_internal_eml_b1.FnMsgIDBareAgreesWithBracketed': WHATEVER THE INPUT: true; the input reads as it did. -/
def fnMsgIDBareAgreesWithBracketedSpec : ChangeSpec := { name := "fnMsgIDBareAgreesWithBracketed", fn := fun _ => fun
  | [d] => { results := [.lit (.bool true)], args := [d] }
  | _ => none }
def fnMsgIDBareAgreesWithBracketedRow : OpenClaim := { program := "qxb6628266a", sum := "afcae9fe447fcde19208de227ef0f637e6ee8aaada069791b53397992fcf0d11", func := "example.com/mailstone/mailstone/zzlaws_internal_eml_b1.FnMsgIDBareAgreesWithBracketed", spec := "fnMsgIDBareAgreesWithBracketed", apart := false }
def FnMsgIDBareAgreesWithBracketedSaid : Prop := fnMsgIDBareAgreesWithBracketedRow.holds Try.pinned (OpenSpec.ofChange fnMsgIDBareAgreesWithBracketedSpec)

/-- ITS FALSE NEIGHBOUR: 'it returns false'. Refute it at one input. -/
def fnMsgIDBareAgreesWithBracketedWrong : ChangeSpec := { name := "fnMsgIDBareAgreesWithBracketed", fn := fun _ => fun
  | [d] => { results := [.lit (.bool false)], args := [d] }
  | _ => none }
def FnMsgIDBareAgreesWithBracketedWrongFalsely : Prop := fnMsgIDBareAgreesWithBracketedRow.holds Try.pinned (OpenSpec.ofChange fnMsgIDBareAgreesWithBracketedWrong)

/-- 'zzlaws_internal_eml_b1.FnMsgIDConcatIdempotent': WHATEVER THE INPUT: true; the input reads as it did. -/
def fnMsgIDConcatIdempotentSpec : ChangeSpec := { name := "fnMsgIDConcatIdempotent", fn := fun _ => fun
  | [d1, d2] => { results := [.lit (.bool true)], args := [d1, d2] }
  | _ => none }
def fnMsgIDConcatIdempotentRow : OpenClaim := { program := "qxb6628266a", sum := "afcae9fe447fcde19208de227ef0f637e6ee8aaada069791b53397992fcf0d11", func := "example.com/mailstone/mailstone/zzlaws_internal_eml_b1.FnMsgIDConcatIdempotent", spec := "fnMsgIDConcatIdempotent", apart := false }
def FnMsgIDConcatIdempotentSaid : Prop := fnMsgIDConcatIdempotentRow.holds Try.pinned (OpenSpec.ofChange fnMsgIDConcatIdempotentSpec)

/-- ITS FALSE NEIGHBOUR: 'it returns false'. Refute it at one input. -/
def fnMsgIDConcatIdempotentWrong : ChangeSpec := { name := "fnMsgIDConcatIdempotent", fn := fun _ => fun
  | [d1, d2] => { results := [.lit (.bool false)], args := [d1, d2] }
  | _ => none }
def FnMsgIDConcatIdempotentWrongFalsely : Prop := fnMsgIDConcatIdempotentRow.holds Try.pinned (OpenSpec.ofChange fnMsgIDConcatIdempotentWrong)

end Rows
end Go.Proofs.Qxb6628266a
