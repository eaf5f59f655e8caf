/-
  No cell of these rows narrows 'for every input' (looked for: loops, veiled, ifaces, maps, wideKeys, modest, calm, conditions, laid).
  DERIVED. THE GIVEN ROWS OF THIS SEAT. 2 by the template 'for every input the law returns true; each argument reads behind the call as it read before'; 0 by the template 'total and deterministic' (their statements: Qxb6600567aTotals.lean).
  GIVEN WITH THE SEED: the statements are not yours to turn. If you find one false, say at which input.
  Laid BY PROGRAM, IN A SANDBOX (cutbox-rows.mjs): the forced cells as the released guide's own fill.sh prints them over the translation 445c6e84d24b5130… (all of the seat's roots in one cut). By AI agents, Wed Nov 11 2026. No macro, syntax, notation, axiom, sorry.
-/
import Derived.Test.Qxb6600567aChecked
import GoSem.Claim
import GoSem.ClaimJoined
import GoSem.ClaimMapViews
import Derived.JoinedTies
import Derived.KernelRfl
namespace Go.Proofs.Qxb6600567a
/- THE CELL 'sum', in the pinned program and in every row, IS THE sha256 OF THE DUMP (.gsa) THAT Qxb6600567aProg.lean LOADS. Nothing in Lean hashes anything: it is a label: what it is worth is what the hold of that sum in a sandbox is worth. -/
noncomputable def Try.pinned : Pinned := { name := "qxb6600567a", sum := "445c6e84d24b5130fcbf844045126d977b764bee4c7c16c32ba050b78137a730", checked := Try.checked }
namespace Rows
def none {H : Type} : Left H := { results := [], args := [] }

/-- 'zzlaws_internal_trace_b1.FnSessionLabelsNumberIsLRU': WHATEVER THE INPUT: true; the input reads as it did. -/
def fnSessionLabelsNumberIsLRUSpec : ChangeSpec := { name := "fnSessionLabelsNumberIsLRU", fn := fun _ => fun
  | [d1, d2] => { results := [.lit (.bool true)], args := [d1, d2] }
  | _ => none }
def fnSessionLabelsNumberIsLRURow : OpenClaim := { program := "qxb6600567a", sum := "445c6e84d24b5130fcbf844045126d977b764bee4c7c16c32ba050b78137a730", func := "example.com/governail/governail/zzlaws_internal_trace_b1.FnSessionLabelsNumberIsLRU", spec := "fnSessionLabelsNumberIsLRU", apart := false }
def FnSessionLabelsNumberIsLRUSaid : Prop := fnSessionLabelsNumberIsLRURow.holds Try.pinned (OpenSpec.ofChange fnSessionLabelsNumberIsLRUSpec)

/-- ITS FALSE NEIGHBOUR: 'it returns false'. Refute it at one input. -/
def fnSessionLabelsNumberIsLRUWrong : ChangeSpec := { name := "fnSessionLabelsNumberIsLRU", fn := fun _ => fun
  | [d1, d2] => { results := [.lit (.bool false)], args := [d1, d2] }
  | _ => none }
def FnSessionLabelsNumberIsLRUWrongFalsely : Prop := fnSessionLabelsNumberIsLRURow.holds Try.pinned (OpenSpec.ofChange fnSessionLabelsNumberIsLRUWrong)

/-- 'zzlaws_internal_trace_b1.FnSessionLabelsNumberAgreesWithReader': WHATEVER THE INPUT: true; the input reads as it did. -/
def fnSessionLabelsNumberAgreesWithReaderSpec : ChangeSpec := { name := "fnSessionLabelsNumberAgreesWithReader", fn := fun _ => fun
  | [d1, d2] => { results := [.lit (.bool true)], args := [d1, d2] }
  | _ => none }
def fnSessionLabelsNumberAgreesWithReaderRow : OpenClaim := { program := "qxb6600567a", sum := "445c6e84d24b5130fcbf844045126d977b764bee4c7c16c32ba050b78137a730", func := "example.com/governail/governail/zzlaws_internal_trace_b1.FnSessionLabelsNumberAgreesWithReader", spec := "fnSessionLabelsNumberAgreesWithReader", apart := false }
def FnSessionLabelsNumberAgreesWithReaderSaid : Prop := fnSessionLabelsNumberAgreesWithReaderRow.holds Try.pinned (OpenSpec.ofChange fnSessionLabelsNumberAgreesWithReaderSpec)

/-- ITS FALSE NEIGHBOUR: 'it returns false'. Refute it at one input. -/
def fnSessionLabelsNumberAgreesWithReaderWrong : ChangeSpec := { name := "fnSessionLabelsNumberAgreesWithReader", fn := fun _ => fun
  | [d1, d2] => { results := [.lit (.bool false)], args := [d1, d2] }
  | _ => none }
def FnSessionLabelsNumberAgreesWithReaderWrongFalsely : Prop := fnSessionLabelsNumberAgreesWithReaderRow.holds Try.pinned (OpenSpec.ofChange fnSessionLabelsNumberAgreesWithReaderWrong)

end Rows
end Go.Proofs.Qxb6600567a
