/-
  No cell of these rows narrows 'for every input' (looked for: loops, veiled, ifaces, maps, wideKeys, modest, calm, conditions, laid).
  DERIVED. THE GIVEN ROWS OF THIS SEAT. 2 by the template 'for every input the law returns true; each argument reads behind the call as it read before'; 0 by the template 'total and deterministic' (their statements: Qxb6608602aTotals.lean).
  GIVEN WITH THE SEED: the statements are not yours to turn. If you find one false, say at which input.
  Laid BY PROGRAM, IN A SANDBOX (cutbox-rows.mjs): the forced cells as the released guide's own fill.sh prints them over the translation 74cff4181b33b3bd… (all of the seat's roots in one cut). By AI agents, Wed Nov 11 2026. No macro, syntax, notation, axiom, sorry.
-/
import Derived.Test.Qxb6608602aChecked
import GoSem.Claim
import GoSem.ClaimJoined
import GoSem.ClaimMapViews
import Derived.JoinedTies
import Derived.KernelRfl
namespace Go.Proofs.Qxb6608602a
/- THE CELL 'sum', in the pinned program and in every row, IS THE sha256 OF THE DUMP (.gsa) THAT Qxb6608602aProg.lean LOADS. Nothing in Lean hashes anything: it is a label: what it is worth is what the hold of that sum in a sandbox is worth. -/
noncomputable def Try.pinned : Pinned := { name := "qxb6608602a", sum := "74cff4181b33b3bdce50aa199a28bb92f448fe4374db288095466e47f05a41d5", checked := Try.checked }
namespace Rows
def none {H : Type} : Left H := { results := [], args := [] }

/-- 'zzlaws_yamldoc_b1.FnSyntaxErrorDropsPrefixAndKeepsTheRest': WHATEVER THE INPUT: true; the input reads as it did. -/
def fnSyntaxErrorDropsPrefixAndKeepsTheRestSpec : ChangeSpec := { name := "fnSyntaxErrorDropsPrefixAndKeepsTheRest", fn := fun _ => fun
  | [d1, d2] => { results := [.lit (.bool true)], args := [d1, d2] }
  | _ => none }
def fnSyntaxErrorDropsPrefixAndKeepsTheRestRow : OpenClaim := { program := "qxb6608602a", sum := "74cff4181b33b3bdce50aa199a28bb92f448fe4374db288095466e47f05a41d5", func := "example.com/tidemark/tidemark/zzlaws_yamldoc_b1.FnSyntaxErrorDropsPrefixAndKeepsTheRest", spec := "fnSyntaxErrorDropsPrefixAndKeepsTheRest", unfollowed := true, recurses := true, apart := false }
def FnSyntaxErrorDropsPrefixAndKeepsTheRestSaid : Prop := fnSyntaxErrorDropsPrefixAndKeepsTheRestRow.holds Try.pinned (OpenSpec.ofChange fnSyntaxErrorDropsPrefixAndKeepsTheRestSpec)

/-- ITS FALSE NEIGHBOUR: 'it returns false'. Refute it at one input. -/
def fnSyntaxErrorDropsPrefixAndKeepsTheRestWrong : ChangeSpec := { name := "fnSyntaxErrorDropsPrefixAndKeepsTheRest", fn := fun _ => fun
  | [d1, d2] => { results := [.lit (.bool false)], args := [d1, d2] }
  | _ => none }
def FnSyntaxErrorDropsPrefixAndKeepsTheRestWrongFalsely : Prop := fnSyntaxErrorDropsPrefixAndKeepsTheRestRow.holds Try.pinned (OpenSpec.ofChange fnSyntaxErrorDropsPrefixAndKeepsTheRestWrong)

/-- 'zzlaws_yamldoc_b1.FnSyntaxErrorMergesOnlyAPrefixedTwin': WHATEVER THE INPUT: true; the input reads as it did. -/
def fnSyntaxErrorMergesOnlyAPrefixedTwinSpec : ChangeSpec := { name := "fnSyntaxErrorMergesOnlyAPrefixedTwin", fn := fun _ => fun
  | [d1, d2] => { results := [.lit (.bool true)], args := [d1, d2] }
  | _ => none }
def fnSyntaxErrorMergesOnlyAPrefixedTwinRow : OpenClaim := { program := "qxb6608602a", sum := "74cff4181b33b3bdce50aa199a28bb92f448fe4374db288095466e47f05a41d5", func := "example.com/tidemark/tidemark/zzlaws_yamldoc_b1.FnSyntaxErrorMergesOnlyAPrefixedTwin", spec := "fnSyntaxErrorMergesOnlyAPrefixedTwin", unfollowed := true, recurses := true, apart := false }
def FnSyntaxErrorMergesOnlyAPrefixedTwinSaid : Prop := fnSyntaxErrorMergesOnlyAPrefixedTwinRow.holds Try.pinned (OpenSpec.ofChange fnSyntaxErrorMergesOnlyAPrefixedTwinSpec)

/-- ITS FALSE NEIGHBOUR: 'it returns false'. Refute it at one input. -/
def fnSyntaxErrorMergesOnlyAPrefixedTwinWrong : ChangeSpec := { name := "fnSyntaxErrorMergesOnlyAPrefixedTwin", fn := fun _ => fun
  | [d1, d2] => { results := [.lit (.bool false)], args := [d1, d2] }
  | _ => none }
def FnSyntaxErrorMergesOnlyAPrefixedTwinWrongFalsely : Prop := fnSyntaxErrorMergesOnlyAPrefixedTwinRow.holds Try.pinned (OpenSpec.ofChange fnSyntaxErrorMergesOnlyAPrefixedTwinWrong)

end Rows
end Go.Proofs.Qxb6608602a
