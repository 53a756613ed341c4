/-
  No cell of these rows narrows 'for every input' (looked for: loops, veiled, ifaces, maps, wideKeys, modest, calm, conditions, laid).
  DERIVED. THE GIVEN ROWS OF THIS SEAT. 2 by the template 'for every input the law returns true; each argument reads behind the call as it read before'; 0 by the template 'total and deterministic' (their statements: Qxb6630105aTotals.lean).
  GIVEN WITH THE SEED: the statements are not yours to turn. If you find one false, say at which input.
  Laid BY PROGRAM, IN A SANDBOX (cutbox-rows.mjs): the forced cells as the released guide's own fill.sh prints them over the translation e8dc4c4fc297df67… (all of the seat's roots in one cut). By AI agents, Wed Nov 11 2026. No macro, syntax, notation, axiom, sorry.
-/
import Derived.Test.Qxb6630105aChecked
import GoSem.Claim
import GoSem.ClaimJoined
import GoSem.ClaimMapViews
import Derived.JoinedTies
import Derived.KernelRfl
namespace Go.Proofs.Qxb6630105a
/- THE CELL 'sum', in the pinned program and in every row, IS THE sha256 OF THE DUMP (.gsa) THAT Qxb6630105aProg.lean LOADS. Nothing in Lean hashes anything: it is a label: what it is worth is what the hold of that sum in a sandbox is worth. -/
noncomputable def Try.pinned : Pinned := { name := "qxb6630105a", sum := "e8dc4c4fc297df6702a34c41ee67415b52719ce5b3ccc3482eccbcff5f8177b9", checked := Try.checked }
namespace Rows
def none {H : Type} : Left H := { results := [], args := [] }

/-- 'zzlaws_manifest_b1.FnAtIsLineAndColumnOfOffset': WHATEVER THE INPUT: true; the input reads as it did. -/
def fnAtIsLineAndColumnOfOffsetSpec : ChangeSpec := { name := "fnAtIsLineAndColumnOfOffset", fn := fun _ => fun
  | [d1, d2, d3, d4, d5, d6, d7, d8, d9] => { results := [.lit (.bool true)], args := [d1, d2, d3, d4, d5, d6, d7, d8, d9] }
  | _ => none }
def fnAtIsLineAndColumnOfOffsetRow : OpenClaim := { program := "qxb6630105a", sum := "e8dc4c4fc297df6702a34c41ee67415b52719ce5b3ccc3482eccbcff5f8177b9", func := "example.com/lading/lading/zzlaws_manifest_b1.FnAtIsLineAndColumnOfOffset", spec := "fnAtIsLineAndColumnOfOffset", apart := false }
def FnAtIsLineAndColumnOfOffsetSaid : Prop := fnAtIsLineAndColumnOfOffsetRow.holds Try.pinned (OpenSpec.ofChange fnAtIsLineAndColumnOfOffsetSpec)

/-- ITS FALSE NEIGHBOUR: 'it returns false'. Refute it at one input. -/
def fnAtIsLineAndColumnOfOffsetWrong : ChangeSpec := { name := "fnAtIsLineAndColumnOfOffset", fn := fun _ => fun
  | [d1, d2, d3, d4, d5, d6, d7, d8, d9] => { results := [.lit (.bool false)], args := [d1, d2, d3, d4, d5, d6, d7, d8, d9] }
  | _ => none }
def FnAtIsLineAndColumnOfOffsetWrongFalsely : Prop := fnAtIsLineAndColumnOfOffsetRow.holds Try.pinned (OpenSpec.ofChange fnAtIsLineAndColumnOfOffsetWrong)

/-- 'zzlaws_manifest_b1.FnAtSplitsAtAnyCharacterCut': WHATEVER THE INPUT: true; the input reads as it did. -/
def fnAtSplitsAtAnyCharacterCutSpec : ChangeSpec := { name := "fnAtSplitsAtAnyCharacterCut", fn := fun _ => fun
  | [d1, d2, d3, d4, d5, d6, d7, d8, d9, d10] => { results := [.lit (.bool true)], args := [d1, d2, d3, d4, d5, d6, d7, d8, d9, d10] }
  | _ => none }
def fnAtSplitsAtAnyCharacterCutRow : OpenClaim := { program := "qxb6630105a", sum := "e8dc4c4fc297df6702a34c41ee67415b52719ce5b3ccc3482eccbcff5f8177b9", func := "example.com/lading/lading/zzlaws_manifest_b1.FnAtSplitsAtAnyCharacterCut", spec := "fnAtSplitsAtAnyCharacterCut", apart := false }
def FnAtSplitsAtAnyCharacterCutSaid : Prop := fnAtSplitsAtAnyCharacterCutRow.holds Try.pinned (OpenSpec.ofChange fnAtSplitsAtAnyCharacterCutSpec)

/-- ITS FALSE NEIGHBOUR: 'it returns false'. Refute it at one input. -/
def fnAtSplitsAtAnyCharacterCutWrong : ChangeSpec := { name := "fnAtSplitsAtAnyCharacterCut", fn := fun _ => fun
  | [d1, d2, d3, d4, d5, d6, d7, d8, d9, d10] => { results := [.lit (.bool false)], args := [d1, d2, d3, d4, d5, d6, d7, d8, d9, d10] }
  | _ => none }
def FnAtSplitsAtAnyCharacterCutWrongFalsely : Prop := fnAtSplitsAtAnyCharacterCutRow.holds Try.pinned (OpenSpec.ofChange fnAtSplitsAtAnyCharacterCutWrong)

end Rows
end Go.Proofs.Qxb6630105a
