/-
  No cell of these rows narrows 'for every input' (looked for: loops, veiled, ifaces, maps, wideKeys, modest, calm, conditions, laid).
  DERIVED. THE GIVEN ROWS OF THIS SEAT. 2 by the template 'for every input the law returns true; each argument reads behind the call as it read before'; 0 by the template 'total and deterministic' (their statements: Qxb6630204aTotals.lean).
  GIVEN WITH THE SEED: the statements are not yours to turn. If you find one false, say at which input.
  Laid BY PROGRAM, IN A SANDBOX (cutbox-rows.mjs): the forced cells as the released guide's own fill.sh prints them over the translation 2fe6bfd53d53cb4a… (all of the seat's roots in one cut). By AI agents, Wed Nov 11 2026. No macro, syntax, notation, axiom, sorry.
-/
import Derived.Test.Qxb6630204aChecked
import GoSem.Claim
import GoSem.ClaimJoined
import GoSem.ClaimMapViews
import Derived.JoinedTies
import Derived.KernelRfl
namespace Go.Proofs.Qxb6630204a
/- THE CELL 'sum', in the pinned program and in every row, IS THE sha256 OF THE DUMP (.gsa) THAT Qxb6630204aProg.lean LOADS. Nothing in Lean hashes anything: it is a label: what it is worth is what the hold of that sum in a sandbox is worth. -/
noncomputable def Try.pinned : Pinned := { name := "qxb6630204a", sum := "2fe6bfd53d53cb4a23d52afbe8d9da870e44c66d95c16bfbd1f1196dc2c40467", checked := Try.checked }
namespace Rows
def none {H : Type} : Left H := { results := [], args := [] }

/-- 'zzlaws_keys_b1.FnEncodeBase58MatchesLongDivision': WHATEVER THE INPUT: true; the input reads as it did. -/
def fnEncodeBase58MatchesLongDivisionSpec : ChangeSpec := { name := "fnEncodeBase58MatchesLongDivision", fn := fun _ => fun
  | [d] => { results := [.lit (.bool true)], args := [d] }
  | _ => none }
def fnEncodeBase58MatchesLongDivisionRow : OpenClaim := { program := "qxb6630204a", sum := "2fe6bfd53d53cb4a23d52afbe8d9da870e44c66d95c16bfbd1f1196dc2c40467", func := "example.com/latchkey/latchkey/zzlaws_keys_b1.FnEncodeBase58MatchesLongDivision", spec := "fnEncodeBase58MatchesLongDivision", apart := false }
def FnEncodeBase58MatchesLongDivisionSaid : Prop := fnEncodeBase58MatchesLongDivisionRow.holds Try.pinned (OpenSpec.ofChange fnEncodeBase58MatchesLongDivisionSpec)

/-- ITS FALSE NEIGHBOUR: 'it returns false'. Refute it at one input. -/
def fnEncodeBase58MatchesLongDivisionWrong : ChangeSpec := { name := "fnEncodeBase58MatchesLongDivision", fn := fun _ => fun
  | [d] => { results := [.lit (.bool false)], args := [d] }
  | _ => none }
def FnEncodeBase58MatchesLongDivisionWrongFalsely : Prop := fnEncodeBase58MatchesLongDivisionRow.holds Try.pinned (OpenSpec.ofChange fnEncodeBase58MatchesLongDivisionWrong)

/-- 'zzlaws_keys_b1.FnEncodeBase58DecodesBack': WHATEVER THE INPUT: true; the input reads as it did. -/
def fnEncodeBase58DecodesBackSpec : ChangeSpec := { name := "fnEncodeBase58DecodesBack", fn := fun _ => fun
  | [d] => { results := [.lit (.bool true)], args := [d] }
  | _ => none }
def fnEncodeBase58DecodesBackRow : OpenClaim := { program := "qxb6630204a", sum := "2fe6bfd53d53cb4a23d52afbe8d9da870e44c66d95c16bfbd1f1196dc2c40467", func := "example.com/latchkey/latchkey/zzlaws_keys_b1.FnEncodeBase58DecodesBack", spec := "fnEncodeBase58DecodesBack", apart := false }
def FnEncodeBase58DecodesBackSaid : Prop := fnEncodeBase58DecodesBackRow.holds Try.pinned (OpenSpec.ofChange fnEncodeBase58DecodesBackSpec)

/-- ITS FALSE NEIGHBOUR: 'it returns false'. Refute it at one input. -/
def fnEncodeBase58DecodesBackWrong : ChangeSpec := { name := "fnEncodeBase58DecodesBack", fn := fun _ => fun
  | [d] => { results := [.lit (.bool false)], args := [d] }
  | _ => none }
def FnEncodeBase58DecodesBackWrongFalsely : Prop := fnEncodeBase58DecodesBackRow.holds Try.pinned (OpenSpec.ofChange fnEncodeBase58DecodesBackWrong)

end Rows
end Go.Proofs.Qxb6630204a
