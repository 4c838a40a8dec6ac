/-
  No cell of these rows narrows 'for every input' (looked for: loops, veiled, ifaces, maps, wideKeys, modest, calm, conditions, laid).
  DERIVED. THE GIVEN ROWS OF THIS SEAT. 3 by the template 'for every input the law returns true; each argument reads behind the call as it read before'; 0 by the template 'total and deterministic' (their statements: Qxb6001200aTotals.lean).
  GIVEN WITH THE SEED: the statements are not yours to turn. If you find one false, say at which input.
  Laid BY PROGRAM, IN A SANDBOX (cutbox-rows.mjs): the forced cells as the released guide's own fill.sh prints them over the translation 667713ec19221a07… (all of the seat's roots in one cut). By AI agents, Wed Nov 11 2026. No macro, syntax, notation, axiom, sorry.
-/
import Derived.Test.Qxb6001200aChecked
import GoSem.Claim
import GoSem.ClaimJoined
import GoSem.ClaimMapViews
import Derived.JoinedTies
import Derived.KernelRfl
namespace Go.Proofs.Qxb6001200a
/- THE CELL 'sum', in the pinned program and in every row, IS THE sha256 OF THE DUMP (.gsa) THAT Qxb6001200aProg.lean LOADS. Nothing in Lean hashes anything: it is a label: what it is worth is what the hold of that sum in a sandbox is worth. -/
noncomputable def Try.pinned : Pinned := { name := "qxb6001200a", sum := "667713ec19221a07d9dea49dd60dd8ef55e048c8571ed17d0804f833d9687528", checked := Try.checked }
namespace Rows
def none {H : Type} : Left H := { results := [], args := [] }

/-- 'zzlaws_root_b1.FnPlainTagMatchesModel': WHATEVER THE INPUT: true; the input reads as it did. -/
def fnPlainTagMatchesModelSpec : ChangeSpec := { name := "fnPlainTagMatchesModel", fn := fun _ => fun
  | [d] => { results := [.lit (.bool true)], args := [d] }
  | _ => none }
def fnPlainTagMatchesModelRow : OpenClaim := { program := "qxb6001200a", sum := "667713ec19221a07d9dea49dd60dd8ef55e048c8571ed17d0804f833d9687528", func := "example.com/ingrant/ingrant/zzlaws_root_b1.FnPlainTagMatchesModel", spec := "fnPlainTagMatchesModel", apart := false }
def FnPlainTagMatchesModelSaid : Prop := fnPlainTagMatchesModelRow.holds Try.pinned (OpenSpec.ofChange fnPlainTagMatchesModelSpec)

/-- ITS FALSE NEIGHBOUR: 'it returns false'. Refute it at one input. -/
def fnPlainTagMatchesModelWrong : ChangeSpec := { name := "fnPlainTagMatchesModel", fn := fun _ => fun
  | [d] => { results := [.lit (.bool false)], args := [d] }
  | _ => none }
def FnPlainTagMatchesModelWrongFalsely : Prop := fnPlainTagMatchesModelRow.holds Try.pinned (OpenSpec.ofChange fnPlainTagMatchesModelWrong)

/-- 'zzlaws_root_b1.FnPlainTagIntegerTexts': WHATEVER THE INPUT: true; the input reads as it did. -/
def fnPlainTagIntegerTextsSpec : ChangeSpec := { name := "fnPlainTagIntegerTexts", fn := fun _ => fun
  | [d] => { results := [.lit (.bool true)], args := [d] }
  | _ => none }
def fnPlainTagIntegerTextsRow : OpenClaim := { program := "qxb6001200a", sum := "667713ec19221a07d9dea49dd60dd8ef55e048c8571ed17d0804f833d9687528", func := "example.com/ingrant/ingrant/zzlaws_root_b1.FnPlainTagIntegerTexts", spec := "fnPlainTagIntegerTexts", apart := false }
def FnPlainTagIntegerTextsSaid : Prop := fnPlainTagIntegerTextsRow.holds Try.pinned (OpenSpec.ofChange fnPlainTagIntegerTextsSpec)

/-- ITS FALSE NEIGHBOUR: 'it returns false'. Refute it at one input. -/
def fnPlainTagIntegerTextsWrong : ChangeSpec := { name := "fnPlainTagIntegerTexts", fn := fun _ => fun
  | [d] => { results := [.lit (.bool false)], args := [d] }
  | _ => none }
def FnPlainTagIntegerTextsWrongFalsely : Prop := fnPlainTagIntegerTextsRow.holds Try.pinned (OpenSpec.ofChange fnPlainTagIntegerTextsWrong)

/-- 'zzlaws_root_b1.FnPlainTagIntExtension': WHATEVER THE INPUT: true; the input reads as it did. -/
def fnPlainTagIntExtensionSpec : ChangeSpec := { name := "fnPlainTagIntExtension", fn := fun _ => fun
  | [d1, d2] => { results := [.lit (.bool true)], args := [d1, d2] }
  | _ => none }
def fnPlainTagIntExtensionRow : OpenClaim := { program := "qxb6001200a", sum := "667713ec19221a07d9dea49dd60dd8ef55e048c8571ed17d0804f833d9687528", func := "example.com/ingrant/ingrant/zzlaws_root_b1.FnPlainTagIntExtension", spec := "fnPlainTagIntExtension", apart := false }
def FnPlainTagIntExtensionSaid : Prop := fnPlainTagIntExtensionRow.holds Try.pinned (OpenSpec.ofChange fnPlainTagIntExtensionSpec)

/-- ITS FALSE NEIGHBOUR: 'it returns false'. Refute it at one input. -/
def fnPlainTagIntExtensionWrong : ChangeSpec := { name := "fnPlainTagIntExtension", fn := fun _ => fun
  | [d1, d2] => { results := [.lit (.bool false)], args := [d1, d2] }
  | _ => none }
def FnPlainTagIntExtensionWrongFalsely : Prop := fnPlainTagIntExtensionRow.holds Try.pinned (OpenSpec.ofChange fnPlainTagIntExtensionWrong)

end Rows
end Go.Proofs.Qxb6001200a
