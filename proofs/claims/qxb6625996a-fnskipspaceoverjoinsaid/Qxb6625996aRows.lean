/-
  No cell of these rows narrows 'for every input' (looked for: loops, veiled, ifaces, maps, wideKeys, modest, calm, conditions, laid).
  DERIVED. THE GIVEN ROWS OF THIS SEAT. 2 by the template 'for every input the law returns true; each argument reads behind the call as it read before'; 0 by the template 'total and deterministic' (their statements: Qxb6625996aTotals.lean).
  GIVEN WITH THE SEED: the statements are not yours to turn. If you find one false, say at which input.
  Laid BY PROGRAM, IN A SANDBOX (cutbox-rows.mjs): the forced cells as the released guide's own fill.sh prints them over the translation f2199ae7afcc3be5… (all of the seat's roots in one cut). By AI agents, Wed Nov 11 2026. No macro, syntax, notation, axiom, sorry.
-/
import Derived.Test.Qxb6625996aChecked
import GoSem.Claim
import GoSem.ClaimJoined
import GoSem.ClaimMapViews
import Derived.JoinedTies
import Derived.KernelRfl
namespace Go.Proofs.Qxb6625996a
/- THE CELL 'sum', in the pinned program and in every row, IS THE sha256 OF THE DUMP (.gsa) THAT Qxb6625996aProg.lean LOADS. Nothing in Lean hashes anything: it is a label: what it is worth is what the hold of that sum in a sandbox is worth. -/
noncomputable def Try.pinned : Pinned := { name := "qxb6625996a", sum := "f2199ae7afcc3be5e9f9b57713b1e1e1ac6d1d0f36fb2061d264c9d022a20ade", checked := Try.checked }
namespace Rows
def none {H : Type} : Left H := { results := [], args := [] }

/-- 'zzlaws_internal_jsonerr_b1.FnSkipSpaceIsFirstNonSpaceAndFixed': WHATEVER THE INPUT: true; the input reads as it did. -/
def fnSkipSpaceIsFirstNonSpaceAndFixedSpec : ChangeSpec := { name := "fnSkipSpaceIsFirstNonSpaceAndFixed", fn := fun _ => fun
  | [d1, d2] => { results := [.lit (.bool true)], args := [d1, d2] }
  | _ => none }
def fnSkipSpaceIsFirstNonSpaceAndFixedRow : OpenClaim := { program := "qxb6625996a", sum := "f2199ae7afcc3be5e9f9b57713b1e1e1ac6d1d0f36fb2061d264c9d022a20ade", func := "example.com/varuna/varuna/zzlaws_internal_jsonerr_b1.FnSkipSpaceIsFirstNonSpaceAndFixed", spec := "fnSkipSpaceIsFirstNonSpaceAndFixed", apart := false }
def FnSkipSpaceIsFirstNonSpaceAndFixedSaid : Prop := fnSkipSpaceIsFirstNonSpaceAndFixedRow.holds Try.pinned (OpenSpec.ofChange fnSkipSpaceIsFirstNonSpaceAndFixedSpec)

/-- ITS FALSE NEIGHBOUR: 'it returns false'. Refute it at one input. -/
def fnSkipSpaceIsFirstNonSpaceAndFixedWrong : ChangeSpec := { name := "fnSkipSpaceIsFirstNonSpaceAndFixed", fn := fun _ => fun
  | [d1, d2] => { results := [.lit (.bool false)], args := [d1, d2] }
  | _ => none }
def FnSkipSpaceIsFirstNonSpaceAndFixedWrongFalsely : Prop := fnSkipSpaceIsFirstNonSpaceAndFixedRow.holds Try.pinned (OpenSpec.ofChange fnSkipSpaceIsFirstNonSpaceAndFixedWrong)

/-- 'zzlaws_internal_jsonerr_b1.FnSkipSpaceOverJoin': WHATEVER THE INPUT: true; the input reads as it did. -/
def fnSkipSpaceOverJoinSpec : ChangeSpec := { name := "fnSkipSpaceOverJoin", fn := fun _ => fun
  | [d1, d2, d3] => { results := [.lit (.bool true)], args := [d1, d2, d3] }
  | _ => none }
def fnSkipSpaceOverJoinRow : OpenClaim := { program := "qxb6625996a", sum := "f2199ae7afcc3be5e9f9b57713b1e1e1ac6d1d0f36fb2061d264c9d022a20ade", func := "example.com/varuna/varuna/zzlaws_internal_jsonerr_b1.FnSkipSpaceOverJoin", spec := "fnSkipSpaceOverJoin", apart := false }
def FnSkipSpaceOverJoinSaid : Prop := fnSkipSpaceOverJoinRow.holds Try.pinned (OpenSpec.ofChange fnSkipSpaceOverJoinSpec)

/-- ITS FALSE NEIGHBOUR: 'it returns false'. Refute it at one input. -/
def fnSkipSpaceOverJoinWrong : ChangeSpec := { name := "fnSkipSpaceOverJoin", fn := fun _ => fun
  | [d1, d2, d3] => { results := [.lit (.bool false)], args := [d1, d2, d3] }
  | _ => none }
def FnSkipSpaceOverJoinWrongFalsely : Prop := fnSkipSpaceOverJoinRow.holds Try.pinned (OpenSpec.ofChange fnSkipSpaceOverJoinWrong)

end Rows
end Go.Proofs.Qxb6625996a
