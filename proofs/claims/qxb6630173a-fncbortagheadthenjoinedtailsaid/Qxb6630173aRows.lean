/-
  No cell of these rows narrows 'for every input' (looked for: loops, veiled, ifaces, maps, wideKeys, modest, calm, conditions, laid).
  DERIVED. THE GIVEN ROWS OF THIS SEAT. 2 by the template 'for every input the law returns true; each argument reads behind the call as it read before'; 0 by the template 'total and deterministic' (their statements: Qxb6630173aTotals.lean).
  GIVEN WITH THE SEED: the statements are not yours to turn. If you find one false, say at which input.
  Laid BY PROGRAM, IN A SANDBOX (cutbox-rows.mjs): the forced cells as the released guide's own fill.sh prints them over the translation 4bee9c73bb7580ee… (all of the seat's roots in one cut). By AI agents, Wed Nov 11 2026. No macro, syntax, notation, axiom, sorry.
-/
import Derived.Test.Qxb6630173aChecked
import GoSem.Claim
import GoSem.ClaimJoined
import GoSem.ClaimMapViews
import Derived.JoinedTies
import Derived.KernelRfl
namespace Go.Proofs.Qxb6630173a
/- THE CELL 'sum', in the pinned program and in every row, IS THE sha256 OF THE DUMP (.gsa) THAT Qxb6630173aProg.lean LOADS. Nothing in Lean hashes anything: it is a label: what it is worth is what the hold of that sum in a sandbox is worth. -/
noncomputable def Try.pinned : Pinned := { name := "qxb6630173a", sum := "4bee9c73bb7580ee22d5d51e91d4282c3db3840a1f9ecc09f35c18d11c3b5e36", checked := Try.checked }
namespace Rows
def none {H : Type} : Left H := { results := [], args := [] }

/-- 'zzlaws_coswid_b1.FnCBORTagHeadThenJoinedTail': WHATEVER THE INPUT: true; the input reads as it did. -/
def fnCBORTagHeadThenJoinedTailSpec : ChangeSpec := { name := "fnCBORTagHeadThenJoinedTail", fn := fun _ => fun
  | [d1, d2] => { results := [.lit (.bool true)], args := [d1, d2] }
  | _ => none }
def fnCBORTagHeadThenJoinedTailRow : OpenClaim := { program := "qxb6630173a", sum := "4bee9c73bb7580ee22d5d51e91d4282c3db3840a1f9ecc09f35c18d11c3b5e36", func := "example.com/tagloom/tagloom/zzlaws_coswid_b1.FnCBORTagHeadThenJoinedTail", spec := "fnCBORTagHeadThenJoinedTail", apart := false }
def FnCBORTagHeadThenJoinedTailSaid : Prop := fnCBORTagHeadThenJoinedTailRow.holds Try.pinned (OpenSpec.ofChange fnCBORTagHeadThenJoinedTailSpec)

/-- ITS FALSE NEIGHBOUR: 'it returns false'. Refute it at one input. -/
def fnCBORTagHeadThenJoinedTailWrong : ChangeSpec := { name := "fnCBORTagHeadThenJoinedTail", fn := fun _ => fun
  | [d1, d2] => { results := [.lit (.bool false)], args := [d1, d2] }
  | _ => none }
def FnCBORTagHeadThenJoinedTailWrongFalsely : Prop := fnCBORTagHeadThenJoinedTailRow.holds Try.pinned (OpenSpec.ofChange fnCBORTagHeadThenJoinedTailWrong)

/-- 'zzlaws_coswid_b1.FnCBORTagMajorTypeOnly': WHATEVER THE INPUT: true; the input reads as it did. -/
def fnCBORTagMajorTypeOnlySpec : ChangeSpec := { name := "fnCBORTagMajorTypeOnly", fn := fun _ => fun
  | [d1, d2] => { results := [.lit (.bool true)], args := [d1, d2] }
  | _ => none }
def fnCBORTagMajorTypeOnlyRow : OpenClaim := { program := "qxb6630173a", sum := "4bee9c73bb7580ee22d5d51e91d4282c3db3840a1f9ecc09f35c18d11c3b5e36", func := "example.com/tagloom/tagloom/zzlaws_coswid_b1.FnCBORTagMajorTypeOnly", spec := "fnCBORTagMajorTypeOnly", apart := false }
def FnCBORTagMajorTypeOnlySaid : Prop := fnCBORTagMajorTypeOnlyRow.holds Try.pinned (OpenSpec.ofChange fnCBORTagMajorTypeOnlySpec)

/-- ITS FALSE NEIGHBOUR: 'it returns false'. Refute it at one input. -/
def fnCBORTagMajorTypeOnlyWrong : ChangeSpec := { name := "fnCBORTagMajorTypeOnly", fn := fun _ => fun
  | [d1, d2] => { results := [.lit (.bool false)], args := [d1, d2] }
  | _ => none }
def FnCBORTagMajorTypeOnlyWrongFalsely : Prop := fnCBORTagMajorTypeOnlyRow.holds Try.pinned (OpenSpec.ofChange fnCBORTagMajorTypeOnlyWrong)

end Rows
end Go.Proofs.Qxb6630173a
