/-
  No cell of these rows narrows 'for every input' (looked for: loops, veiled, ifaces, maps, wideKeys, modest, calm, conditions, laid).
  DERIVED. THE GIVEN ROWS OF THIS SEAT. 2 by the template 'for every input the law returns true; each argument reads behind the call as it read before'; 0 by the template 'total and deterministic' (their statements: Qxb6630617aTotals.lean).
  GIVEN WITH THE SEED: the statements are not yours to turn. If you find one false, say at which input.
  Laid BY PROGRAM, IN A SANDBOX (cutbox-rows.mjs): the forced cells as the released guide's own fill.sh prints them over the translation 963a7fefe9ec7577… (all of the seat's roots in one cut). By AI agents, Wed Nov 11 2026. No macro, syntax, notation, axiom, sorry.
-/
import Derived.Test.Qxb6630617aChecked
import GoSem.Claim
import GoSem.ClaimJoined
import GoSem.ClaimMapViews
import Derived.JoinedTies
import Derived.KernelRfl
namespace Go.Proofs.Qxb6630617a
/- THE CELL 'sum', in the pinned program and in every row, IS THE sha256 OF THE DUMP (.gsa) THAT Qxb6630617aProg.lean LOADS. Nothing in Lean hashes anything: it is a label: what it is worth is what the hold of that sum in a sandbox is worth. -/
noncomputable def Try.pinned : Pinned := { name := "qxb6630617a", sum := "963a7fefe9ec7577e77afcbbc8f1a2e48ff96737e07f0ffb447e86ef9989239b", checked := Try.checked }
namespace Rows
def none {H : Type} : Left H := { results := [], args := [] }

/-- 'zzlaws_bus_b1.FnAddressStringCutJoin': WHATEVER THE INPUT: true; the input reads as it did. -/
def fnAddressStringCutJoinSpec : ChangeSpec := { name := "fnAddressStringCutJoin", fn := fun _ => fun
  | [d1, d2] => { results := [.lit (.bool true)], args := [d1, d2] }
  | _ => none }
def fnAddressStringCutJoinRow : OpenClaim := { program := "qxb6630617a", sum := "963a7fefe9ec7577e77afcbbc8f1a2e48ff96737e07f0ffb447e86ef9989239b", func := "example.com/ramify/ramify/zzlaws_bus_b1.FnAddressStringCutJoin", spec := "fnAddressStringCutJoin", inPlace := ["internal/abi.NoEscape"], apart := false }
def FnAddressStringCutJoinSaid : Prop := fnAddressStringCutJoinRow.holds Try.pinned (OpenSpec.ofChange fnAddressStringCutJoinSpec)

/-- ITS FALSE NEIGHBOUR: 'it returns false'. Refute it at one input. -/
def fnAddressStringCutJoinWrong : ChangeSpec := { name := "fnAddressStringCutJoin", fn := fun _ => fun
  | [d1, d2] => { results := [.lit (.bool false)], args := [d1, d2] }
  | _ => none }
def FnAddressStringCutJoinWrongFalsely : Prop := fnAddressStringCutJoinRow.holds Try.pinned (OpenSpec.ofChange fnAddressStringCutJoinWrong)

/-- 'zzlaws_bus_b1.FnAddressStringParsesBack': WHATEVER THE INPUT: true; the input reads as it did. -/
def fnAddressStringParsesBackSpec : ChangeSpec := { name := "fnAddressStringParsesBack", fn := fun _ => fun
  | [d] => { results := [.lit (.bool true)], args := [d] }
  | _ => none }
def fnAddressStringParsesBackRow : OpenClaim := { program := "qxb6630617a", sum := "963a7fefe9ec7577e77afcbbc8f1a2e48ff96737e07f0ffb447e86ef9989239b", func := "example.com/ramify/ramify/zzlaws_bus_b1.FnAddressStringParsesBack", spec := "fnAddressStringParsesBack", inPlace := ["internal/abi.NoEscape"], apart := false }
def FnAddressStringParsesBackSaid : Prop := fnAddressStringParsesBackRow.holds Try.pinned (OpenSpec.ofChange fnAddressStringParsesBackSpec)

/-- ITS FALSE NEIGHBOUR: 'it returns false'. Refute it at one input. -/
def fnAddressStringParsesBackWrong : ChangeSpec := { name := "fnAddressStringParsesBack", fn := fun _ => fun
  | [d] => { results := [.lit (.bool false)], args := [d] }
  | _ => none }
def FnAddressStringParsesBackWrongFalsely : Prop := fnAddressStringParsesBackRow.holds Try.pinned (OpenSpec.ofChange fnAddressStringParsesBackWrong)

end Rows
end Go.Proofs.Qxb6630617a
