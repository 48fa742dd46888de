/-
  No cell of these rows narrows 'for every input' (looked for: loops, veiled, ifaces, maps, wideKeys, modest, calm, conditions, laid).
  DERIVED. THE GIVEN ROWS OF THIS SEAT. 2 by the template 'for every input the law returns true; each argument reads behind the call as it read before'; 0 by the template 'total and deterministic' (their statements: Qxb6626075aTotals.lean).
  GIVEN WITH THE SEED: the statements are not yours to turn. If you find one false, say at which input.
  Laid BY PROGRAM, IN A SANDBOX (cutbox-rows.mjs): the forced cells as the released guide's own fill.sh prints them over the translation 38f99131b54dab14… (all of the seat's roots in one cut). By AI agents, Wed Nov 11 2026. No macro, syntax, notation, axiom, sorry.
-/
import Derived.Test.Qxb6626075aChecked
import GoSem.Claim
import GoSem.ClaimJoined
import GoSem.ClaimMapViews
import Derived.JoinedTies
import Derived.KernelRfl
namespace Go.Proofs.Qxb6626075a
/- THE CELL 'sum', in the pinned program and in every row, IS THE sha256 OF THE DUMP (.gsa) THAT Qxb6626075aProg.lean LOADS. Nothing in Lean hashes anything: it is a label: what it is worth is what the hold of that sum in a sandbox is worth. -/
noncomputable def Try.pinned : Pinned := { name := "qxb6626075a", sum := "38f99131b54dab14a9f407eea8cf766959d75b76eebb8a7b1e4f566b9cca0404", checked := Try.checked }
namespace Rows
def none {H : Type} : Left H := { results := [], args := [] }

/-- 'zzlaws_internal_security_b1.FnDoubleLinearAndTimesX': WHATEVER THE INPUT: true; the input reads as it did. -/
def fnDoubleLinearAndTimesXSpec : ChangeSpec := { name := "fnDoubleLinearAndTimesX", fn := fun _ => fun
  | [d1, d2] => { results := [.lit (.bool true)], args := [d1, d2] }
  | _ => none }
def fnDoubleLinearAndTimesXRow : OpenClaim := { program := "qxb6626075a", sum := "38f99131b54dab14a9f407eea8cf766959d75b76eebb8a7b1e4f566b9cca0404", func := "example.com/summons/summons/zzlaws_internal_security_b1.FnDoubleLinearAndTimesX", spec := "fnDoubleLinearAndTimesX", apart := false }
def FnDoubleLinearAndTimesXSaid : Prop := fnDoubleLinearAndTimesXRow.holds Try.pinned (OpenSpec.ofChange fnDoubleLinearAndTimesXSpec)

/-- ITS FALSE NEIGHBOUR: 'it returns false'. Refute it at one input. -/
def fnDoubleLinearAndTimesXWrong : ChangeSpec := { name := "fnDoubleLinearAndTimesX", fn := fun _ => fun
  | [d1, d2] => { results := [.lit (.bool false)], args := [d1, d2] }
  | _ => none }
def FnDoubleLinearAndTimesXWrongFalsely : Prop := fnDoubleLinearAndTimesXRow.holds Try.pinned (OpenSpec.ofChange fnDoubleLinearAndTimesXWrong)

/-- 'zzlaws_internal_security_b1.FnDoubleKTimesIsTimesXPowK': WHATEVER THE INPUT: true; the input reads as it did. -/
def fnDoubleKTimesIsTimesXPowKSpec : ChangeSpec := { name := "fnDoubleKTimesIsTimesXPowK", fn := fun _ => fun
  | [d1, d2] => { results := [.lit (.bool true)], args := [d1, d2] }
  | _ => none }
def fnDoubleKTimesIsTimesXPowKRow : OpenClaim := { program := "qxb6626075a", sum := "38f99131b54dab14a9f407eea8cf766959d75b76eebb8a7b1e4f566b9cca0404", func := "example.com/summons/summons/zzlaws_internal_security_b1.FnDoubleKTimesIsTimesXPowK", spec := "fnDoubleKTimesIsTimesXPowK", apart := false }
def FnDoubleKTimesIsTimesXPowKSaid : Prop := fnDoubleKTimesIsTimesXPowKRow.holds Try.pinned (OpenSpec.ofChange fnDoubleKTimesIsTimesXPowKSpec)

/-- ITS FALSE NEIGHBOUR: 'it returns false'. Refute it at one input. -/
def fnDoubleKTimesIsTimesXPowKWrong : ChangeSpec := { name := "fnDoubleKTimesIsTimesXPowK", fn := fun _ => fun
  | [d1, d2] => { results := [.lit (.bool false)], args := [d1, d2] }
  | _ => none }
def FnDoubleKTimesIsTimesXPowKWrongFalsely : Prop := fnDoubleKTimesIsTimesXPowKRow.holds Try.pinned (OpenSpec.ofChange fnDoubleKTimesIsTimesXPowKWrong)

end Rows
end Go.Proofs.Qxb6626075a
