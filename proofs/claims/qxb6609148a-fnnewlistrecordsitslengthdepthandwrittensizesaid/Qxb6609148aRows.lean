/-
  No cell of these rows narrows 'for every input' (looked for: loops, veiled, ifaces, maps, wideKeys, modest, calm, conditions, laid).
  DERIVED. THE GIVEN ROWS OF THIS SEAT. 3 by the template 'for every input the law returns true; each argument reads behind the call as it read before'; 0 by the template 'total and deterministic' (their statements: Qxb6609148aTotals.lean).
  GIVEN WITH THE SEED: the statements are not yours to turn. If you find one false, say at which input.
  Laid BY PROGRAM, IN A SANDBOX (cutbox-rows.mjs): the forced cells as the released guide's own fill.sh prints them over the translation ff1fcd8f20b07afb… (all of the seat's roots in one cut). By AI agents, Wed Nov 11 2026. No macro, syntax, notation, axiom, sorry.
-/
import Derived.Test.Qxb6609148aChecked
import GoSem.Claim
import GoSem.ClaimJoined
import GoSem.ClaimMapViews
import Derived.JoinedTies
import Derived.KernelRfl
namespace Go.Proofs.Qxb6609148a
/- THE CELL 'sum', in the pinned program and in every row, IS THE sha256 OF THE DUMP (.gsa) THAT Qxb6609148aProg.lean LOADS. Nothing in Lean hashes anything: it is a label: what it is worth is what the hold of that sum in a sandbox is worth. -/
noncomputable def Try.pinned : Pinned := { name := "qxb6609148a", sum := "ff1fcd8f20b07afb4f815031a28ae5741935f446716bdedf6a90a5f438ca2be8", checked := Try.checked }
namespace Rows
def none {H : Type} : Left H := { results := [], args := [] }

/-- 'zzlaws_pkg_value_b1.FnMadeWholeIsMadeAddedOverEveryNestedValue': WHATEVER THE INPUT: true; the input reads as it did. -/
def fnMadeWholeIsMadeAddedOverEveryNestedValueSpec : ChangeSpec := { name := "fnMadeWholeIsMadeAddedOverEveryNestedValue", fn := fun _ => fun
  | [d1, d2] => { results := [.lit (.bool true)], args := [d1, d2] }
  | _ => none }
def fnMadeWholeIsMadeAddedOverEveryNestedValueRow : OpenClaim := { program := "qxb6609148a", sum := "ff1fcd8f20b07afb4f815031a28ae5741935f446716bdedf6a90a5f438ca2be8", func := "example.com/statute/statute/zzlaws_pkg_value_b1.FnMadeWholeIsMadeAddedOverEveryNestedValue", spec := "fnMadeWholeIsMadeAddedOverEveryNestedValue", recurses := true, apart := false }
def FnMadeWholeIsMadeAddedOverEveryNestedValueSaid : Prop := fnMadeWholeIsMadeAddedOverEveryNestedValueRow.holds Try.pinned (OpenSpec.ofChange fnMadeWholeIsMadeAddedOverEveryNestedValueSpec)

/-- ITS FALSE NEIGHBOUR: 'it returns false'. Refute it at one input. -/
def fnMadeWholeIsMadeAddedOverEveryNestedValueWrong : ChangeSpec := { name := "fnMadeWholeIsMadeAddedOverEveryNestedValue", fn := fun _ => fun
  | [d1, d2] => { results := [.lit (.bool false)], args := [d1, d2] }
  | _ => none }
def FnMadeWholeIsMadeAddedOverEveryNestedValueWrongFalsely : Prop := fnMadeWholeIsMadeAddedOverEveryNestedValueRow.holds Try.pinned (OpenSpec.ofChange fnMadeWholeIsMadeAddedOverEveryNestedValueWrong)

/-- 'zzlaws_pkg_value_b1.FnNewListRecordsItsLengthDepthAndWrittenSize': WHATEVER THE INPUT: true; the input reads as it did. -/
def fnNewListRecordsItsLengthDepthAndWrittenSizeSpec : ChangeSpec := { name := "fnNewListRecordsItsLengthDepthAndWrittenSize", fn := fun _ => fun
  | [d1, d2] => { results := [.lit (.bool true)], args := [d1, d2] }
  | _ => none }
def fnNewListRecordsItsLengthDepthAndWrittenSizeRow : OpenClaim := { program := "qxb6609148a", sum := "ff1fcd8f20b07afb4f815031a28ae5741935f446716bdedf6a90a5f438ca2be8", func := "example.com/statute/statute/zzlaws_pkg_value_b1.FnNewListRecordsItsLengthDepthAndWrittenSize", spec := "fnNewListRecordsItsLengthDepthAndWrittenSize", recurses := true, apart := false }
def FnNewListRecordsItsLengthDepthAndWrittenSizeSaid : Prop := fnNewListRecordsItsLengthDepthAndWrittenSizeRow.holds Try.pinned (OpenSpec.ofChange fnNewListRecordsItsLengthDepthAndWrittenSizeSpec)

/-- ITS FALSE NEIGHBOUR: 'it returns false'. Refute it at one input. -/
def fnNewListRecordsItsLengthDepthAndWrittenSizeWrong : ChangeSpec := { name := "fnNewListRecordsItsLengthDepthAndWrittenSize", fn := fun _ => fun
  | [d1, d2] => { results := [.lit (.bool false)], args := [d1, d2] }
  | _ => none }
def FnNewListRecordsItsLengthDepthAndWrittenSizeWrongFalsely : Prop := fnNewListRecordsItsLengthDepthAndWrittenSizeRow.holds Try.pinned (OpenSpec.ofChange fnNewListRecordsItsLengthDepthAndWrittenSizeWrong)

/-- 'zzlaws_pkg_value_b1.FnNewListExtentAddsUpAtAnyCut': WHATEVER THE INPUT: true; the input reads as it did. -/
def fnNewListExtentAddsUpAtAnyCutSpec : ChangeSpec := { name := "fnNewListExtentAddsUpAtAnyCut", fn := fun _ => fun
  | [d1, d2] => { results := [.lit (.bool true)], args := [d1, d2] }
  | _ => none }
def fnNewListExtentAddsUpAtAnyCutRow : OpenClaim := { program := "qxb6609148a", sum := "ff1fcd8f20b07afb4f815031a28ae5741935f446716bdedf6a90a5f438ca2be8", func := "example.com/statute/statute/zzlaws_pkg_value_b1.FnNewListExtentAddsUpAtAnyCut", spec := "fnNewListExtentAddsUpAtAnyCut", recurses := true, apart := false }
def FnNewListExtentAddsUpAtAnyCutSaid : Prop := fnNewListExtentAddsUpAtAnyCutRow.holds Try.pinned (OpenSpec.ofChange fnNewListExtentAddsUpAtAnyCutSpec)

/-- ITS FALSE NEIGHBOUR: 'it returns false'. Refute it at one input. -/
def fnNewListExtentAddsUpAtAnyCutWrong : ChangeSpec := { name := "fnNewListExtentAddsUpAtAnyCut", fn := fun _ => fun
  | [d1, d2] => { results := [.lit (.bool false)], args := [d1, d2] }
  | _ => none }
def FnNewListExtentAddsUpAtAnyCutWrongFalsely : Prop := fnNewListExtentAddsUpAtAnyCutRow.holds Try.pinned (OpenSpec.ofChange fnNewListExtentAddsUpAtAnyCutWrong)

end Rows
end Go.Proofs.Qxb6609148a
