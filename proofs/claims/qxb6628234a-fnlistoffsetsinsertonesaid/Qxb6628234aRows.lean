/-
  No cell of these rows narrows 'for every input' (looked for: loops, veiled, ifaces, maps, wideKeys, modest, calm, conditions, laid).
  DERIVED. THE GIVEN ROWS OF THIS SEAT. 2 by the template 'for every input the law returns true; each argument reads behind the call as it read before'; 0 by the template 'total and deterministic' (their statements: Qxb6628234aTotals.lean).
  GIVEN WITH THE SEED: the statements are not yours to turn. If you find one false, say at which input.
  Laid BY PROGRAM, IN A SANDBOX (cutbox-rows.mjs): the forced cells as the released guide's own fill.sh prints them over the translation ef5609f4affa2e7e… (all of the seat's roots in one cut). By AI agents, Wed Nov 11 2026. No macro, syntax, notation, axiom, sorry.
-/
import Derived.Test.Qxb6628234aChecked
import GoSem.Claim
import GoSem.ClaimJoined
import GoSem.ClaimMapViews
import Derived.JoinedTies
import Derived.KernelRfl
namespace Go.Proofs.Qxb6628234a
/- THE CELL 'sum', in the pinned program and in every row, IS THE sha256 OF THE DUMP (.gsa) THAT Qxb6628234aProg.lean LOADS. Nothing in Lean hashes anything: it is a label: what it is worth is what the hold of that sum in a sandbox is worth. -/
noncomputable def Try.pinned : Pinned := { name := "qxb6628234a", sum := "ef5609f4affa2e7e665833edcae74a0985e4bf3b8148df511975c3feaaf551b5", checked := Try.checked }
namespace Rows
def none {H : Type} : Left H := { results := [], args := [] }

/-- 'zzlaws_pkg_codec_b1.FnListOffsetsSplitJoin': WHATEVER THE INPUT: true; the input reads as it did. -/
def fnListOffsetsSplitJoinSpec : ChangeSpec := { name := "fnListOffsetsSplitJoin", fn := fun _ => fun
  | [d1, d2] => { results := [.lit (.bool true)], args := [d1, d2] }
  | _ => none }
def fnListOffsetsSplitJoinRow : OpenClaim := { program := "qxb6628234a", sum := "ef5609f4affa2e7e665833edcae74a0985e4bf3b8148df511975c3feaaf551b5", func := "example.com/stockade/stockade/zzlaws_pkg_codec_b1.FnListOffsetsSplitJoin", spec := "fnListOffsetsSplitJoin", apart := false }
def FnListOffsetsSplitJoinSaid : Prop := fnListOffsetsSplitJoinRow.holds Try.pinned (OpenSpec.ofChange fnListOffsetsSplitJoinSpec)

/-- ITS FALSE NEIGHBOUR: 'it returns false'. Refute it at one input. -/
def fnListOffsetsSplitJoinWrong : ChangeSpec := { name := "fnListOffsetsSplitJoin", fn := fun _ => fun
  | [d1, d2] => { results := [.lit (.bool false)], args := [d1, d2] }
  | _ => none }
def FnListOffsetsSplitJoinWrongFalsely : Prop := fnListOffsetsSplitJoinRow.holds Try.pinned (OpenSpec.ofChange fnListOffsetsSplitJoinWrong)

/-- 'zzlaws_pkg_codec_b1.FnListOffsetsInsertOne': WHATEVER THE INPUT: true; the input reads as it did. -/
def fnListOffsetsInsertOneSpec : ChangeSpec := { name := "fnListOffsetsInsertOne", fn := fun _ => fun
  | [d1, d2, d3] => { results := [.lit (.bool true)], args := [d1, d2, d3] }
  | _ => none }
def fnListOffsetsInsertOneRow : OpenClaim := { program := "qxb6628234a", sum := "ef5609f4affa2e7e665833edcae74a0985e4bf3b8148df511975c3feaaf551b5", func := "example.com/stockade/stockade/zzlaws_pkg_codec_b1.FnListOffsetsInsertOne", spec := "fnListOffsetsInsertOne", apart := false }
def FnListOffsetsInsertOneSaid : Prop := fnListOffsetsInsertOneRow.holds Try.pinned (OpenSpec.ofChange fnListOffsetsInsertOneSpec)

/-- ITS FALSE NEIGHBOUR: 'it returns false'. Refute it at one input. -/
def fnListOffsetsInsertOneWrong : ChangeSpec := { name := "fnListOffsetsInsertOne", fn := fun _ => fun
  | [d1, d2, d3] => { results := [.lit (.bool false)], args := [d1, d2, d3] }
  | _ => none }
def FnListOffsetsInsertOneWrongFalsely : Prop := fnListOffsetsInsertOneRow.holds Try.pinned (OpenSpec.ofChange fnListOffsetsInsertOneWrong)

end Rows
end Go.Proofs.Qxb6628234a
