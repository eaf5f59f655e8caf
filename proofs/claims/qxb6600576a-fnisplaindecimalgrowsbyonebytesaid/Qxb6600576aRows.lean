/-
  No cell of these rows narrows 'for every input' (looked for: loops, veiled, ifaces, maps, wideKeys, modest, calm, conditions, laid).
  DERIVED. THE GIVEN ROWS OF THIS SEAT. 4 by the template 'for every input the law returns true; each argument reads behind the call as it read before'; 0 by the template 'total and deterministic' (their statements: Qxb6600576aTotals.lean).
  GIVEN WITH THE SEED: the statements are not yours to turn. If you find one false, say at which input.
  Laid BY PROGRAM, IN A SANDBOX (cutbox-rows.mjs): the forced cells as the released guide's own fill.sh prints them over the translation 1d13b1f181344643… (all of the seat's roots in one cut). By AI agents, Wed Nov 11 2026. No macro, syntax, notation, axiom, sorry.
-/
import Derived.Test.Qxb6600576aChecked
import GoSem.Claim
import GoSem.ClaimJoined
import GoSem.ClaimMapViews
import Derived.JoinedTies
import Derived.KernelRfl
namespace Go.Proofs.Qxb6600576a
/- THE CELL 'sum', in the pinned program and in every row, IS THE sha256 OF THE DUMP (.gsa) THAT Qxb6600576aProg.lean LOADS. Nothing in Lean hashes anything: it is a label: what it is worth is what the hold of that sum in a sandbox is worth. -/
noncomputable def Try.pinned : Pinned := { name := "qxb6600576a", sum := "1d13b1f181344643fa9b90e376ba1a9184cc1c1a996e6a951e1347f0c5c7103b", checked := Try.checked }
namespace Rows
def none {H : Type} : Left H := { results := [], args := [] }

/-- 'zzlaws_internal_book_b1.FnIsPlainDecimalMatchesSplitModel': WHATEVER THE INPUT: true; the input reads as it did. -/
def fnIsPlainDecimalMatchesSplitModelSpec : ChangeSpec := { name := "fnIsPlainDecimalMatchesSplitModel", fn := fun _ => fun
  | [d] => { results := [.lit (.bool true)], args := [d] }
  | _ => none }
def fnIsPlainDecimalMatchesSplitModelRow : OpenClaim := { program := "qxb6600576a", sum := "1d13b1f181344643fa9b90e376ba1a9184cc1c1a996e6a951e1347f0c5c7103b", func := "example.com/tuoguan/tuoguan/zzlaws_internal_book_b1.FnIsPlainDecimalMatchesSplitModel", spec := "fnIsPlainDecimalMatchesSplitModel", apart := false }
def FnIsPlainDecimalMatchesSplitModelSaid : Prop := fnIsPlainDecimalMatchesSplitModelRow.holds Try.pinned (OpenSpec.ofChange fnIsPlainDecimalMatchesSplitModelSpec)

/-- ITS FALSE NEIGHBOUR: 'it returns false'. Refute it at one input. -/
def fnIsPlainDecimalMatchesSplitModelWrong : ChangeSpec := { name := "fnIsPlainDecimalMatchesSplitModel", fn := fun _ => fun
  | [d] => { results := [.lit (.bool false)], args := [d] }
  | _ => none }
def FnIsPlainDecimalMatchesSplitModelWrongFalsely : Prop := fnIsPlainDecimalMatchesSplitModelRow.holds Try.pinned (OpenSpec.ofChange fnIsPlainDecimalMatchesSplitModelWrong)

/-- 'zzlaws_internal_book_b1.FnIsPlainDecimalGrowsByOneByte': WHATEVER THE INPUT: true; the input reads as it did. -/
def fnIsPlainDecimalGrowsByOneByteSpec : ChangeSpec := { name := "fnIsPlainDecimalGrowsByOneByte", fn := fun _ => fun
  | [d1, d2] => { results := [.lit (.bool true)], args := [d1, d2] }
  | _ => none }
def fnIsPlainDecimalGrowsByOneByteRow : OpenClaim := { program := "qxb6600576a", sum := "1d13b1f181344643fa9b90e376ba1a9184cc1c1a996e6a951e1347f0c5c7103b", func := "example.com/tuoguan/tuoguan/zzlaws_internal_book_b1.FnIsPlainDecimalGrowsByOneByte", spec := "fnIsPlainDecimalGrowsByOneByte", apart := false }
def FnIsPlainDecimalGrowsByOneByteSaid : Prop := fnIsPlainDecimalGrowsByOneByteRow.holds Try.pinned (OpenSpec.ofChange fnIsPlainDecimalGrowsByOneByteSpec)

/-- ITS FALSE NEIGHBOUR: 'it returns false'. Refute it at one input. -/
def fnIsPlainDecimalGrowsByOneByteWrong : ChangeSpec := { name := "fnIsPlainDecimalGrowsByOneByte", fn := fun _ => fun
  | [d1, d2] => { results := [.lit (.bool false)], args := [d1, d2] }
  | _ => none }
def FnIsPlainDecimalGrowsByOneByteWrongFalsely : Prop := fnIsPlainDecimalGrowsByOneByteRow.holds Try.pinned (OpenSpec.ofChange fnIsPlainDecimalGrowsByOneByteWrong)

/-- 'zzlaws_internal_book_b1.FnPlainFieldFindsJoinedField': WHATEVER THE INPUT: true; the input reads as it did. -/
def fnPlainFieldFindsJoinedFieldSpec : ChangeSpec := { name := "fnPlainFieldFindsJoinedField", fn := fun _ => fun
  | [d1, d2, d3] => { results := [.lit (.bool true)], args := [d1, d2, d3] }
  | _ => none }
def fnPlainFieldFindsJoinedFieldRow : OpenClaim := { program := "qxb6600576a", sum := "1d13b1f181344643fa9b90e376ba1a9184cc1c1a996e6a951e1347f0c5c7103b", func := "example.com/tuoguan/tuoguan/zzlaws_internal_book_b1.FnPlainFieldFindsJoinedField", spec := "fnPlainFieldFindsJoinedField", inPlace := ["internal/bytealg.IndexByte"], apart := false }
def FnPlainFieldFindsJoinedFieldSaid : Prop := fnPlainFieldFindsJoinedFieldRow.holds Try.pinned (OpenSpec.ofChange fnPlainFieldFindsJoinedFieldSpec)

/-- ITS FALSE NEIGHBOUR: 'it returns false'. Refute it at one input. -/
def fnPlainFieldFindsJoinedFieldWrong : ChangeSpec := { name := "fnPlainFieldFindsJoinedField", fn := fun _ => fun
  | [d1, d2, d3] => { results := [.lit (.bool false)], args := [d1, d2, d3] }
  | _ => none }
def FnPlainFieldFindsJoinedFieldWrongFalsely : Prop := fnPlainFieldFindsJoinedFieldRow.holds Try.pinned (OpenSpec.ofChange fnPlainFieldFindsJoinedFieldWrong)

/-- 'zzlaws_internal_book_b1.FnPlainFieldIsTheColthField': WHATEVER THE INPUT: true; the input reads as it did. -/
def fnPlainFieldIsTheColthFieldSpec : ChangeSpec := { name := "fnPlainFieldIsTheColthField", fn := fun _ => fun
  | [d1, d2] => { results := [.lit (.bool true)], args := [d1, d2] }
  | _ => none }
def fnPlainFieldIsTheColthFieldRow : OpenClaim := { program := "qxb6600576a", sum := "1d13b1f181344643fa9b90e376ba1a9184cc1c1a996e6a951e1347f0c5c7103b", func := "example.com/tuoguan/tuoguan/zzlaws_internal_book_b1.FnPlainFieldIsTheColthField", spec := "fnPlainFieldIsTheColthField", inPlace := ["internal/bytealg.IndexByte"], apart := false }
def FnPlainFieldIsTheColthFieldSaid : Prop := fnPlainFieldIsTheColthFieldRow.holds Try.pinned (OpenSpec.ofChange fnPlainFieldIsTheColthFieldSpec)

/-- ITS FALSE NEIGHBOUR: 'it returns false'. Refute it at one input. -/
def fnPlainFieldIsTheColthFieldWrong : ChangeSpec := { name := "fnPlainFieldIsTheColthField", fn := fun _ => fun
  | [d1, d2] => { results := [.lit (.bool false)], args := [d1, d2] }
  | _ => none }
def FnPlainFieldIsTheColthFieldWrongFalsely : Prop := fnPlainFieldIsTheColthFieldRow.holds Try.pinned (OpenSpec.ofChange fnPlainFieldIsTheColthFieldWrong)

end Rows
end Go.Proofs.Qxb6600576a
