/-
  No cell of these rows narrows 'for every input' (looked for: loops, veiled, ifaces, maps, wideKeys, modest, calm, conditions, laid).
  DERIVED. THE GIVEN ROWS OF THIS SEAT. 2 by the template 'for every input the law returns true; each argument reads behind the call as it read before'; 0 by the template 'total and deterministic' (their statements: Qxb6630071aTotals.lean).
  GIVEN WITH THE SEED: the statements are not yours to turn. If you find one false, say at which input.
  Laid BY PROGRAM, IN A SANDBOX (cutbox-rows.mjs): the forced cells as the released guide's own fill.sh prints them over the translation 773ce81af748a423… (all of the seat's roots in one cut). By AI agents, Wed Nov 11 2026. No macro, syntax, notation, axiom, sorry.
-/
import Derived.Test.Qxb6630071aChecked
import GoSem.Claim
import GoSem.ClaimJoined
import GoSem.ClaimMapViews
import Derived.JoinedTies
import Derived.KernelRfl
namespace Go.Proofs.Qxb6630071a
/- THE CELL 'sum', in the pinned program and in every row, IS THE sha256 OF THE DUMP (.gsa) THAT Qxb6630071aProg.lean LOADS. Nothing in Lean hashes anything: it is a label: what it is worth is what the hold of that sum in a sandbox is worth. -/
noncomputable def Try.pinned : Pinned := { name := "qxb6630071a", sum := "773ce81af748a4231e11c92fbafdf1f23233eeb2321b7139065c5a9d633cda9b", checked := Try.checked }
namespace Rows
def none {H : Type} : Left H := { results := [], args := [] }

/-- 'zzlaws_internal_schedule_b1.FnIndexAfterCommitIsLeastOpAfterOwnCommit': WHATEVER THE INPUT: true; the input reads as it did. -/
def fnIndexAfterCommitIsLeastOpAfterOwnCommitSpec : ChangeSpec := { name := "fnIndexAfterCommitIsLeastOpAfterOwnCommit", fn := fun _ => fun
  | [d] => { results := [.lit (.bool true)], args := [d] }
  | _ => none }
def fnIndexAfterCommitIsLeastOpAfterOwnCommitRow : OpenClaim := { program := "qxb6630071a", sum := "773ce81af748a4231e11c92fbafdf1f23233eeb2321b7139065c5a9d633cda9b", func := "example.com/stampwise/stampwise/zzlaws_internal_schedule_b1.FnIndexAfterCommitIsLeastOpAfterOwnCommit", spec := "fnIndexAfterCommitIsLeastOpAfterOwnCommit", apart := false }
def FnIndexAfterCommitIsLeastOpAfterOwnCommitSaid : Prop := fnIndexAfterCommitIsLeastOpAfterOwnCommitRow.holds Try.pinned (OpenSpec.ofChange fnIndexAfterCommitIsLeastOpAfterOwnCommitSpec)

/-- ITS FALSE NEIGHBOUR: 'it returns false'. Refute it at one input. -/
def fnIndexAfterCommitIsLeastOpAfterOwnCommitWrong : ChangeSpec := { name := "fnIndexAfterCommitIsLeastOpAfterOwnCommit", fn := fun _ => fun
  | [d] => { results := [.lit (.bool false)], args := [d] }
  | _ => none }
def FnIndexAfterCommitIsLeastOpAfterOwnCommitWrongFalsely : Prop := fnIndexAfterCommitIsLeastOpAfterOwnCommitRow.holds Try.pinned (OpenSpec.ofChange fnIndexAfterCommitIsLeastOpAfterOwnCommitWrong)

/-- 'zzlaws_internal_schedule_b1.FnIndexAfterCommitPrefixAgreesAndHasWitness': WHATEVER THE INPUT: true; the input reads as it did. -/
def fnIndexAfterCommitPrefixAgreesAndHasWitnessSpec : ChangeSpec := { name := "fnIndexAfterCommitPrefixAgreesAndHasWitness", fn := fun _ => fun
  | [d1, d2] => { results := [.lit (.bool true)], args := [d1, d2] }
  | _ => none }
def fnIndexAfterCommitPrefixAgreesAndHasWitnessRow : OpenClaim := { program := "qxb6630071a", sum := "773ce81af748a4231e11c92fbafdf1f23233eeb2321b7139065c5a9d633cda9b", func := "example.com/stampwise/stampwise/zzlaws_internal_schedule_b1.FnIndexAfterCommitPrefixAgreesAndHasWitness", spec := "fnIndexAfterCommitPrefixAgreesAndHasWitness", apart := false }
def FnIndexAfterCommitPrefixAgreesAndHasWitnessSaid : Prop := fnIndexAfterCommitPrefixAgreesAndHasWitnessRow.holds Try.pinned (OpenSpec.ofChange fnIndexAfterCommitPrefixAgreesAndHasWitnessSpec)

/-- ITS FALSE NEIGHBOUR: 'it returns false'. Refute it at one input. -/
def fnIndexAfterCommitPrefixAgreesAndHasWitnessWrong : ChangeSpec := { name := "fnIndexAfterCommitPrefixAgreesAndHasWitness", fn := fun _ => fun
  | [d1, d2] => { results := [.lit (.bool false)], args := [d1, d2] }
  | _ => none }
def FnIndexAfterCommitPrefixAgreesAndHasWitnessWrongFalsely : Prop := fnIndexAfterCommitPrefixAgreesAndHasWitnessRow.holds Try.pinned (OpenSpec.ofChange fnIndexAfterCommitPrefixAgreesAndHasWitnessWrong)

end Rows
end Go.Proofs.Qxb6630071a
