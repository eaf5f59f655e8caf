/-
  No cell of these rows narrows 'for every input' (looked for: loops, veiled, ifaces, maps, wideKeys, modest, calm, conditions, laid).
  DERIVED. THE GIVEN ROWS OF THIS SEAT. 2 by the template 'for every input the law returns true; each argument reads behind the call as it read before'; 0 by the template 'total and deterministic' (their statements: Qxb6604082aTotals.lean).
  GIVEN WITH THE SEED: the statements are not yours to turn. If you find one false, say at which input.
  Laid BY PROGRAM, IN A SANDBOX (cutbox-rows.mjs): the forced cells as the released guide's own fill.sh prints them over the translation 868bf5f03a219748… (all of the seat's roots in one cut). By AI agents, Wed Nov 11 2026. No macro, syntax, notation, axiom, sorry.
-/
import Derived.Test.Qxb6604082aChecked
import GoSem.Claim
import GoSem.ClaimJoined
import GoSem.ClaimMapViews
import Derived.JoinedTies
import Derived.KernelRfl
namespace Go.Proofs.Qxb6604082a
/- THE CELL 'sum', in the pinned program and in every row, IS THE sha256 OF THE DUMP (.gsa) THAT Qxb6604082aProg.lean LOADS. Nothing in Lean hashes anything: it is a label: what it is worth is what the hold of that sum in a sandbox is worth. -/
noncomputable def Try.pinned : Pinned := { name := "qxb6604082a", sum := "868bf5f03a21974801783574ad6eac2b9955ee531c7bb6c00487d208ed1aea0c", checked := Try.checked }
namespace Rows
def none {H : Type} : Left H := { results := [], args := [] }

/-- 'zzlaws_root_b1.FnSkipOptionsSpec': WHATEVER THE INPUT: true; the input reads as it did. -/
def fnSkipOptionsSpecSpec : ChangeSpec := { name := "fnSkipOptionsSpec", fn := fun _ => fun
  | [d] => { results := [.lit (.bool true)], args := [d] }
  | _ => none }
def fnSkipOptionsSpecRow : OpenClaim := { program := "qxb6604082a", sum := "868bf5f03a21974801783574ad6eac2b9955ee531c7bb6c00487d208ed1aea0c", func := "example.com/stevedock/stevedock/zzlaws_root_b1.FnSkipOptionsSpec", spec := "fnSkipOptionsSpec", inPlace := ["internal/bytealg.IndexByteString", "internal/bytealg.IndexString"], named := ["internal/bytealg.MaxLen"], apart := false }
def FnSkipOptionsSpecSaid : Prop := fnSkipOptionsSpecRow.holds Try.pinned (OpenSpec.ofChange fnSkipOptionsSpecSpec)

/-- ITS FALSE NEIGHBOUR: 'it returns false'. Refute it at one input. -/
def fnSkipOptionsSpecWrong : ChangeSpec := { name := "fnSkipOptionsSpec", fn := fun _ => fun
  | [d] => { results := [.lit (.bool false)], args := [d] }
  | _ => none }
def FnSkipOptionsSpecWrongFalsely : Prop := fnSkipOptionsSpecRow.holds Try.pinned (OpenSpec.ofChange fnSkipOptionsSpecWrong)

/-- 'zzlaws_root_b1.FnResizeBlockSpec': WHATEVER THE INPUT: true; the input reads as it did. -/
def fnResizeBlockSpecSpec : ChangeSpec := { name := "fnResizeBlockSpec", fn := fun _ => fun
  | [d1, d2, d3, d4] => { results := [.lit (.bool true)], args := [d1, d2, d3, d4] }
  | _ => none }
def fnResizeBlockSpecRow : OpenClaim := { program := "qxb6604082a", sum := "868bf5f03a21974801783574ad6eac2b9955ee531c7bb6c00487d208ed1aea0c", func := "example.com/stevedock/stevedock/zzlaws_root_b1.FnResizeBlockSpec", spec := "fnResizeBlockSpec", apart := false }
def FnResizeBlockSpecSaid : Prop := fnResizeBlockSpecRow.holds Try.pinned (OpenSpec.ofChange fnResizeBlockSpecSpec)

/-- ITS FALSE NEIGHBOUR: 'it returns false'. Refute it at one input. -/
def fnResizeBlockSpecWrong : ChangeSpec := { name := "fnResizeBlockSpec", fn := fun _ => fun
  | [d1, d2, d3, d4] => { results := [.lit (.bool false)], args := [d1, d2, d3, d4] }
  | _ => none }
def FnResizeBlockSpecWrongFalsely : Prop := fnResizeBlockSpecRow.holds Try.pinned (OpenSpec.ofChange fnResizeBlockSpecWrong)

end Rows
end Go.Proofs.Qxb6604082a
