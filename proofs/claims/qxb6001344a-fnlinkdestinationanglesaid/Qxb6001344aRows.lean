/-
  No cell of these rows narrows 'for every input' (looked for: loops, veiled, ifaces, maps, wideKeys, modest, calm, conditions, laid).
  DERIVED. THE GIVEN ROWS OF THIS SEAT. 6 by the template 'for every input the law returns true; each argument reads behind the call as it read before'; 0 by the template 'total and deterministic' (their statements: Qxb6001344aTotals.lean).
  GIVEN WITH THE SEED: the statements are not yours to turn. If you find one false, say at which input.
  Laid BY PROGRAM, IN A SANDBOX (cutbox-rows.mjs): the forced cells as the released guide's own fill.sh prints them over the translation b16483d21b4fcf8f… (all of the seat's roots in one cut). By AI agents, Wed Nov 11 2026. No macro, syntax, notation, axiom, sorry.
-/
import Derived.Test.Qxb6001344aChecked
import GoSem.Claim
import GoSem.ClaimJoined
import GoSem.ClaimMapViews
import Derived.JoinedTies
import Derived.KernelRfl
namespace Go.Proofs.Qxb6001344a
/- THE CELL 'sum', in the pinned program and in every row, IS THE sha256 OF THE DUMP (.gsa) THAT Qxb6001344aProg.lean LOADS. Nothing in Lean hashes anything: it is a label: what it is worth is what the hold of that sum in a sandbox is worth. -/
noncomputable def Try.pinned : Pinned := { name := "qxb6001344a", sum := "b16483d21b4fcf8f91e98259d15b9de2dbc233181277608a3875f08c8caf2674", checked := Try.checked }
namespace Rows
def none {H : Type} : Left H := { results := [], args := [] }

/-- 'zzlaws_internal_markdown_b1.FnLinkLabelEndsAtItsBracket': WHATEVER THE INPUT: true; the input reads as it did. -/
def fnLinkLabelEndsAtItsBracketSpec : ChangeSpec := { name := "fnLinkLabelEndsAtItsBracket", fn := fun _ => fun
  | [d] => { results := [.lit (.bool true)], args := [d] }
  | _ => none }
def fnLinkLabelEndsAtItsBracketRow : OpenClaim := { program := "qxb6001344a", sum := "b16483d21b4fcf8f91e98259d15b9de2dbc233181277608a3875f08c8caf2674", func := "example.com/recollect/recollect/zzlaws_internal_markdown_b1.FnLinkLabelEndsAtItsBracket", spec := "fnLinkLabelEndsAtItsBracket", apart := false }
def FnLinkLabelEndsAtItsBracketSaid : Prop := fnLinkLabelEndsAtItsBracketRow.holds Try.pinned (OpenSpec.ofChange fnLinkLabelEndsAtItsBracketSpec)

/-- ITS FALSE NEIGHBOUR: 'it returns false'. Refute it at one input. -/
def fnLinkLabelEndsAtItsBracketWrong : ChangeSpec := { name := "fnLinkLabelEndsAtItsBracket", fn := fun _ => fun
  | [d] => { results := [.lit (.bool false)], args := [d] }
  | _ => none }
def FnLinkLabelEndsAtItsBracketWrongFalsely : Prop := fnLinkLabelEndsAtItsBracketRow.holds Try.pinned (OpenSpec.ofChange fnLinkLabelEndsAtItsBracketWrong)

/-- 'zzlaws_internal_markdown_b1.FnLinkLabelIgnoresWhatFollows': WHATEVER THE INPUT: true; the input reads as it did. -/
def fnLinkLabelIgnoresWhatFollowsSpec : ChangeSpec := { name := "fnLinkLabelIgnoresWhatFollows", fn := fun _ => fun
  | [d1, d2] => { results := [.lit (.bool true)], args := [d1, d2] }
  | _ => none }
def fnLinkLabelIgnoresWhatFollowsRow : OpenClaim := { program := "qxb6001344a", sum := "b16483d21b4fcf8f91e98259d15b9de2dbc233181277608a3875f08c8caf2674", func := "example.com/recollect/recollect/zzlaws_internal_markdown_b1.FnLinkLabelIgnoresWhatFollows", spec := "fnLinkLabelIgnoresWhatFollows", apart := false }
def FnLinkLabelIgnoresWhatFollowsSaid : Prop := fnLinkLabelIgnoresWhatFollowsRow.holds Try.pinned (OpenSpec.ofChange fnLinkLabelIgnoresWhatFollowsSpec)

/-- ITS FALSE NEIGHBOUR: 'it returns false'. Refute it at one input. -/
def fnLinkLabelIgnoresWhatFollowsWrong : ChangeSpec := { name := "fnLinkLabelIgnoresWhatFollows", fn := fun _ => fun
  | [d1, d2] => { results := [.lit (.bool false)], args := [d1, d2] }
  | _ => none }
def FnLinkLabelIgnoresWhatFollowsWrongFalsely : Prop := fnLinkLabelIgnoresWhatFollowsRow.holds Try.pinned (OpenSpec.ofChange fnLinkLabelIgnoresWhatFollowsWrong)

/-- 'zzlaws_internal_markdown_b1.FnLinkLabelPlainLabel': WHATEVER THE INPUT: true; the input reads as it did. -/
def fnLinkLabelPlainLabelSpec : ChangeSpec := { name := "fnLinkLabelPlainLabel", fn := fun _ => fun
  | [d1, d2] => { results := [.lit (.bool true)], args := [d1, d2] }
  | _ => none }
def fnLinkLabelPlainLabelRow : OpenClaim := { program := "qxb6001344a", sum := "b16483d21b4fcf8f91e98259d15b9de2dbc233181277608a3875f08c8caf2674", func := "example.com/recollect/recollect/zzlaws_internal_markdown_b1.FnLinkLabelPlainLabel", spec := "fnLinkLabelPlainLabel", apart := false }
def FnLinkLabelPlainLabelSaid : Prop := fnLinkLabelPlainLabelRow.holds Try.pinned (OpenSpec.ofChange fnLinkLabelPlainLabelSpec)

/-- ITS FALSE NEIGHBOUR: 'it returns false'. Refute it at one input. -/
def fnLinkLabelPlainLabelWrong : ChangeSpec := { name := "fnLinkLabelPlainLabel", fn := fun _ => fun
  | [d1, d2] => { results := [.lit (.bool false)], args := [d1, d2] }
  | _ => none }
def FnLinkLabelPlainLabelWrongFalsely : Prop := fnLinkLabelPlainLabelRow.holds Try.pinned (OpenSpec.ofChange fnLinkLabelPlainLabelWrong)

/-- 'zzlaws_internal_markdown_b1.FnLinkDestinationOnlyReadsFromI': WHATEVER THE INPUT: true; the input reads as it did. -/
def fnLinkDestinationOnlyReadsFromISpec : ChangeSpec := { name := "fnLinkDestinationOnlyReadsFromI", fn := fun _ => fun
  | [d1, d2, d3] => { results := [.lit (.bool true)], args := [d1, d2, d3] }
  | _ => none }
def fnLinkDestinationOnlyReadsFromIRow : OpenClaim := { program := "qxb6001344a", sum := "b16483d21b4fcf8f91e98259d15b9de2dbc233181277608a3875f08c8caf2674", func := "example.com/recollect/recollect/zzlaws_internal_markdown_b1.FnLinkDestinationOnlyReadsFromI", spec := "fnLinkDestinationOnlyReadsFromI", apart := false }
def FnLinkDestinationOnlyReadsFromISaid : Prop := fnLinkDestinationOnlyReadsFromIRow.holds Try.pinned (OpenSpec.ofChange fnLinkDestinationOnlyReadsFromISpec)

/-- ITS FALSE NEIGHBOUR: 'it returns false'. Refute it at one input. -/
def fnLinkDestinationOnlyReadsFromIWrong : ChangeSpec := { name := "fnLinkDestinationOnlyReadsFromI", fn := fun _ => fun
  | [d1, d2, d3] => { results := [.lit (.bool false)], args := [d1, d2, d3] }
  | _ => none }
def FnLinkDestinationOnlyReadsFromIWrongFalsely : Prop := fnLinkDestinationOnlyReadsFromIRow.holds Try.pinned (OpenSpec.ofChange fnLinkDestinationOnlyReadsFromIWrong)

/-- 'zzlaws_internal_markdown_b1.FnLinkDestinationSelfContained': WHATEVER THE INPUT: true; the input reads as it did. -/
def fnLinkDestinationSelfContainedSpec : ChangeSpec := { name := "fnLinkDestinationSelfContained", fn := fun _ => fun
  | [d1, d2] => { results := [.lit (.bool true)], args := [d1, d2] }
  | _ => none }
def fnLinkDestinationSelfContainedRow : OpenClaim := { program := "qxb6001344a", sum := "b16483d21b4fcf8f91e98259d15b9de2dbc233181277608a3875f08c8caf2674", func := "example.com/recollect/recollect/zzlaws_internal_markdown_b1.FnLinkDestinationSelfContained", spec := "fnLinkDestinationSelfContained", apart := false }
def FnLinkDestinationSelfContainedSaid : Prop := fnLinkDestinationSelfContainedRow.holds Try.pinned (OpenSpec.ofChange fnLinkDestinationSelfContainedSpec)

/-- ITS FALSE NEIGHBOUR: 'it returns false'. Refute it at one input. -/
def fnLinkDestinationSelfContainedWrong : ChangeSpec := { name := "fnLinkDestinationSelfContained", fn := fun _ => fun
  | [d1, d2] => { results := [.lit (.bool false)], args := [d1, d2] }
  | _ => none }
def FnLinkDestinationSelfContainedWrongFalsely : Prop := fnLinkDestinationSelfContainedRow.holds Try.pinned (OpenSpec.ofChange fnLinkDestinationSelfContainedWrong)

/-- 'zzlaws_internal_markdown_b1.FnLinkDestinationAngle': WHATEVER THE INPUT: true; the input reads as it did. -/
def fnLinkDestinationAngleSpec : ChangeSpec := { name := "fnLinkDestinationAngle", fn := fun _ => fun
  | [d1, d2] => { results := [.lit (.bool true)], args := [d1, d2] }
  | _ => none }
def fnLinkDestinationAngleRow : OpenClaim := { program := "qxb6001344a", sum := "b16483d21b4fcf8f91e98259d15b9de2dbc233181277608a3875f08c8caf2674", func := "example.com/recollect/recollect/zzlaws_internal_markdown_b1.FnLinkDestinationAngle", spec := "fnLinkDestinationAngle", apart := false }
def FnLinkDestinationAngleSaid : Prop := fnLinkDestinationAngleRow.holds Try.pinned (OpenSpec.ofChange fnLinkDestinationAngleSpec)

/-- ITS FALSE NEIGHBOUR: 'it returns false'. Refute it at one input. -/
def fnLinkDestinationAngleWrong : ChangeSpec := { name := "fnLinkDestinationAngle", fn := fun _ => fun
  | [d1, d2] => { results := [.lit (.bool false)], args := [d1, d2] }
  | _ => none }
def FnLinkDestinationAngleWrongFalsely : Prop := fnLinkDestinationAngleRow.holds Try.pinned (OpenSpec.ofChange fnLinkDestinationAngleWrong)

end Rows
end Go.Proofs.Qxb6001344a
