/-
  No cell of these rows narrows 'for every input' (looked for: loops, veiled, ifaces, maps, wideKeys, modest, calm, conditions, laid).
  DERIVED. THE GIVEN ROWS OF THIS SEAT. 2 by the template 'for every input the law returns true; each argument reads behind the call as it read before'; 0 by the template 'total and deterministic' (their statements: Qxb6628768aTotals.lean).
  GIVEN WITH THE SEED: the statements are not yours to turn. If you find one false, say at which input.
  Laid BY PROGRAM, IN A SANDBOX (cutbox-rows.mjs): the forced cells as the released guide's own fill.sh prints them over the translation 59cf53e255ffc5ab… (all of the seat's roots in one cut). By AI agents, Wed Nov 11 2026. No macro, syntax, notation, axiom, sorry.
-/
import Derived.Test.Qxb6628768aChecked
import GoSem.Claim
import GoSem.ClaimJoined
import GoSem.ClaimMapViews
import Derived.JoinedTies
import Derived.KernelRfl
namespace Go.Proofs.Qxb6628768a
/- THE CELL 'sum', in the pinned program and in every row, IS THE sha256 OF THE DUMP (.gsa) THAT Qxb6628768aProg.lean LOADS. Nothing in Lean hashes anything: it is a label: what it is worth is what the hold of that sum in a sandbox is worth. -/
noncomputable def Try.pinned : Pinned := { name := "qxb6628768a", sum := "59cf53e255ffc5ab3a228ca98923b056d58858ca2d8db25925d8b41fac81ec06", checked := Try.checked }
namespace Rows
def none {H : Type} : Left H := { results := [], args := [] }

/-- 'zzlaws_internal_rawcbor_b1.FnInt64NegationPair': WHATEVER THE INPUT: true; the input reads as it did. -/
def fnInt64NegationPairSpec : ChangeSpec := { name := "fnInt64NegationPair", fn := fun _ => fun
  | [d1, d2] => { results := [.lit (.bool true)], args := [d1, d2] }
  | _ => none }
def fnInt64NegationPairRow : OpenClaim := { program := "qxb6628768a", sum := "59cf53e255ffc5ab3a228ca98923b056d58858ca2d8db25925d8b41fac81ec06", func := "example.com/vouch/vouch/zzlaws_internal_rawcbor_b1.FnInt64NegationPair", spec := "fnInt64NegationPair", apart := false }
def FnInt64NegationPairSaid : Prop := fnInt64NegationPairRow.holds Try.pinned (OpenSpec.ofChange fnInt64NegationPairSpec)

/-- ITS FALSE NEIGHBOUR: 'it returns false'. Refute it at one input. -/
def fnInt64NegationPairWrong : ChangeSpec := { name := "fnInt64NegationPair", fn := fun _ => fun
  | [d1, d2] => { results := [.lit (.bool false)], args := [d1, d2] }
  | _ => none }
def FnInt64NegationPairWrongFalsely : Prop := fnInt64NegationPairRow.holds Try.pinned (OpenSpec.ofChange fnInt64NegationPairWrong)

/-- 'zzlaws_internal_rawcbor_b1.FnInt64OrderAndInjective': WHATEVER THE INPUT: true; the input reads as it did. -/
def fnInt64OrderAndInjectiveSpec : ChangeSpec := { name := "fnInt64OrderAndInjective", fn := fun _ => fun
  | [d1, d2, d3, d4] => { results := [.lit (.bool true)], args := [d1, d2, d3, d4] }
  | _ => none }
def fnInt64OrderAndInjectiveRow : OpenClaim := { program := "qxb6628768a", sum := "59cf53e255ffc5ab3a228ca98923b056d58858ca2d8db25925d8b41fac81ec06", func := "example.com/vouch/vouch/zzlaws_internal_rawcbor_b1.FnInt64OrderAndInjective", spec := "fnInt64OrderAndInjective", apart := false }
def FnInt64OrderAndInjectiveSaid : Prop := fnInt64OrderAndInjectiveRow.holds Try.pinned (OpenSpec.ofChange fnInt64OrderAndInjectiveSpec)

/-- ITS FALSE NEIGHBOUR: 'it returns false'. Refute it at one input. -/
def fnInt64OrderAndInjectiveWrong : ChangeSpec := { name := "fnInt64OrderAndInjective", fn := fun _ => fun
  | [d1, d2, d3, d4] => { results := [.lit (.bool false)], args := [d1, d2, d3, d4] }
  | _ => none }
def FnInt64OrderAndInjectiveWrongFalsely : Prop := fnInt64OrderAndInjectiveRow.holds Try.pinned (OpenSpec.ofChange fnInt64OrderAndInjectiveWrong)

end Rows
end Go.Proofs.Qxb6628768a
