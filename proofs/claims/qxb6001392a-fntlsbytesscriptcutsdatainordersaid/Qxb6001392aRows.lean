/-
  No cell of these rows narrows 'for every input' (looked for: loops, veiled, ifaces, maps, wideKeys, modest, calm, conditions, laid).
  DERIVED. THE GIVEN ROWS OF THIS SEAT. 2 by the template 'for every input the law returns true; each argument reads behind the call as it read before'; 0 by the template 'total and deterministic' (their statements: Qxb6001392aTotals.lean).
  GIVEN WITH THE SEED: the statements are not yours to turn. If you find one false, say at which input.
  Laid BY PROGRAM, IN A SANDBOX (cutbox-rows.mjs): the forced cells as the released guide's own fill.sh prints them over the translation abcfc8244411151d… (all of the seat's roots in one cut). By AI agents, Wed Nov 11 2026. No macro, syntax, notation, axiom, sorry.
-/
import Derived.Test.Qxb6001392aChecked
import GoSem.Claim
import GoSem.ClaimJoined
import GoSem.ClaimMapViews
import Derived.JoinedTies
import Derived.KernelRfl
namespace Go.Proofs.Qxb6001392a
/- THE CELL 'sum', in the pinned program and in every row, IS THE sha256 OF THE DUMP (.gsa) THAT Qxb6001392aProg.lean LOADS. Nothing in Lean hashes anything: it is a label: what it is worth is what the hold of that sum in a sandbox is worth. -/
noncomputable def Try.pinned : Pinned := { name := "qxb6001392a", sum := "abcfc8244411151d3dab62938f99945d4545263c8a0a84a431e9ca18eb73767b", checked := Try.checked }
namespace Rows
def none {H : Type} : Left H := { results := [], args := [] }

/-- 'zzlaws_internal_ct_b1.FnTlsBytesScriptCutsDataInOrder': WHATEVER THE INPUT: true; the input reads as it did. -/
def fnTlsBytesScriptCutsDataInOrderSpec : ChangeSpec := { name := "fnTlsBytesScriptCutsDataInOrder", fn := fun _ => fun
  | [d1, d2, d3] => { results := [.lit (.bool true)], args := [d1, d2, d3] }
  | _ => none }
def fnTlsBytesScriptCutsDataInOrderRow : OpenClaim := { program := "qxb6001392a", sum := "abcfc8244411151d3dab62938f99945d4545263c8a0a84a431e9ca18eb73767b", func := "example.com/clearleaf/clearleaf/zzlaws_internal_ct_b1.FnTlsBytesScriptCutsDataInOrder", spec := "fnTlsBytesScriptCutsDataInOrder", apart := false }
def FnTlsBytesScriptCutsDataInOrderSaid : Prop := fnTlsBytesScriptCutsDataInOrderRow.holds Try.pinned (OpenSpec.ofChange fnTlsBytesScriptCutsDataInOrderSpec)

/-- ITS FALSE NEIGHBOUR: 'it returns false'. Refute it at one input. -/
def fnTlsBytesScriptCutsDataInOrderWrong : ChangeSpec := { name := "fnTlsBytesScriptCutsDataInOrder", fn := fun _ => fun
  | [d1, d2, d3] => { results := [.lit (.bool false)], args := [d1, d2, d3] }
  | _ => none }
def FnTlsBytesScriptCutsDataInOrderWrongFalsely : Prop := fnTlsBytesScriptCutsDataInOrderRow.holds Try.pinned (OpenSpec.ofChange fnTlsBytesScriptCutsDataInOrderWrong)

/-- 'zzlaws_internal_ct_b1.FnTlsBytesTwoReadsAgreeWithOne': WHATEVER THE INPUT: true; the input reads as it did. -/
def fnTlsBytesTwoReadsAgreeWithOneSpec : ChangeSpec := { name := "fnTlsBytesTwoReadsAgreeWithOne", fn := fun _ => fun
  | [d1, d2, d3] => { results := [.lit (.bool true)], args := [d1, d2, d3] }
  | _ => none }
def fnTlsBytesTwoReadsAgreeWithOneRow : OpenClaim := { program := "qxb6001392a", sum := "abcfc8244411151d3dab62938f99945d4545263c8a0a84a431e9ca18eb73767b", func := "example.com/clearleaf/clearleaf/zzlaws_internal_ct_b1.FnTlsBytesTwoReadsAgreeWithOne", spec := "fnTlsBytesTwoReadsAgreeWithOne", apart := false }
def FnTlsBytesTwoReadsAgreeWithOneSaid : Prop := fnTlsBytesTwoReadsAgreeWithOneRow.holds Try.pinned (OpenSpec.ofChange fnTlsBytesTwoReadsAgreeWithOneSpec)

/-- ITS FALSE NEIGHBOUR: 'it returns false'. Refute it at one input. -/
def fnTlsBytesTwoReadsAgreeWithOneWrong : ChangeSpec := { name := "fnTlsBytesTwoReadsAgreeWithOne", fn := fun _ => fun
  | [d1, d2, d3] => { results := [.lit (.bool false)], args := [d1, d2, d3] }
  | _ => none }
def FnTlsBytesTwoReadsAgreeWithOneWrongFalsely : Prop := fnTlsBytesTwoReadsAgreeWithOneRow.holds Try.pinned (OpenSpec.ofChange fnTlsBytesTwoReadsAgreeWithOneWrong)

end Rows
end Go.Proofs.Qxb6001392a
