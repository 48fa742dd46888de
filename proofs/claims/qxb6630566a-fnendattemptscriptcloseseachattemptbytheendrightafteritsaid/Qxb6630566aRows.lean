/-
  No cell of these rows narrows 'for every input' (looked for: loops, veiled, ifaces, maps, wideKeys, modest, calm, conditions, laid).
  DERIVED. THE GIVEN ROWS OF THIS SEAT. 2 by the template 'for every input the law returns true; each argument reads behind the call as it read before'; 0 by the template 'total and deterministic' (their statements: Qxb6630566aTotals.lean).
  GIVEN WITH THE SEED: the statements are not yours to turn. If you find one false, say at which input.
  Laid BY PROGRAM, IN A SANDBOX (cutbox-rows.mjs): the forced cells as the released guide's own fill.sh prints them over the translation c8bc69ce908f5e78… (all of the seat's roots in one cut). By AI agents, Wed Nov 11 2026. No macro, syntax, notation, axiom, sorry.
-/
import Derived.Test.Qxb6630566aChecked
import GoSem.Claim
import GoSem.ClaimJoined
import GoSem.ClaimMapViews
import Derived.JoinedTies
import Derived.KernelRfl
namespace Go.Proofs.Qxb6630566a
/- THE CELL 'sum', in the pinned program and in every row, IS THE sha256 OF THE DUMP (.gsa) THAT Qxb6630566aProg.lean LOADS. Nothing in Lean hashes anything: it is a label: what it is worth is what the hold of that sum in a sandbox is worth. -/
noncomputable def Try.pinned : Pinned := { name := "qxb6630566a", sum := "c8bc69ce908f5e784ea0796c27c08c716f94835dfbbd3f0328bcd258e8bd003b", checked := Try.checked }
namespace Rows
def none {H : Type} : Left H := { results := [], args := [] }

/-- 'zzlaws_internal_runs_b1.FnEndAttemptClosesOpenLastAttemptFirstEndWins': WHATEVER THE INPUT: true; the input reads as it did. -/
def fnEndAttemptClosesOpenLastAttemptFirstEndWinsSpec : ChangeSpec := { name := "fnEndAttemptClosesOpenLastAttemptFirstEndWins", fn := fun _ => fun
  | [d1, d2, d3, d4, d5, d6, d7, d8, d9, d10] => { results := [.lit (.bool true)], args := [d1, d2, d3, d4, d5, d6, d7, d8, d9, d10] }
  | _ => none }
def fnEndAttemptClosesOpenLastAttemptFirstEndWinsRow : OpenClaim := { program := "qxb6630566a", sum := "c8bc69ce908f5e784ea0796c27c08c716f94835dfbbd3f0328bcd258e8bd003b", func := "example.com/gap0/gap0/zzlaws_internal_runs_b1.FnEndAttemptClosesOpenLastAttemptFirstEndWins", spec := "fnEndAttemptClosesOpenLastAttemptFirstEndWins", apart := false }
def FnEndAttemptClosesOpenLastAttemptFirstEndWinsSaid : Prop := fnEndAttemptClosesOpenLastAttemptFirstEndWinsRow.holds Try.pinned (OpenSpec.ofChange fnEndAttemptClosesOpenLastAttemptFirstEndWinsSpec)

/-- ITS FALSE NEIGHBOUR: 'it returns false'. Refute it at one input. -/
def fnEndAttemptClosesOpenLastAttemptFirstEndWinsWrong : ChangeSpec := { name := "fnEndAttemptClosesOpenLastAttemptFirstEndWins", fn := fun _ => fun
  | [d1, d2, d3, d4, d5, d6, d7, d8, d9, d10] => { results := [.lit (.bool false)], args := [d1, d2, d3, d4, d5, d6, d7, d8, d9, d10] }
  | _ => none }
def FnEndAttemptClosesOpenLastAttemptFirstEndWinsWrongFalsely : Prop := fnEndAttemptClosesOpenLastAttemptFirstEndWinsRow.holds Try.pinned (OpenSpec.ofChange fnEndAttemptClosesOpenLastAttemptFirstEndWinsWrong)

/-- 'zzlaws_internal_runs_b1.FnEndAttemptScriptClosesEachAttemptByTheEndRightAfterIt': WHATEVER THE INPUT: true; the input reads as it did. -/
def fnEndAttemptScriptClosesEachAttemptByTheEndRightAfterItSpec : ChangeSpec := { name := "fnEndAttemptScriptClosesEachAttemptByTheEndRightAfterIt", fn := fun _ => fun
  | [d1, d2, d3, d4] => { results := [.lit (.bool true)], args := [d1, d2, d3, d4] }
  | _ => none }
def fnEndAttemptScriptClosesEachAttemptByTheEndRightAfterItRow : OpenClaim := { program := "qxb6630566a", sum := "c8bc69ce908f5e784ea0796c27c08c716f94835dfbbd3f0328bcd258e8bd003b", func := "example.com/gap0/gap0/zzlaws_internal_runs_b1.FnEndAttemptScriptClosesEachAttemptByTheEndRightAfterIt", spec := "fnEndAttemptScriptClosesEachAttemptByTheEndRightAfterIt", apart := false }
def FnEndAttemptScriptClosesEachAttemptByTheEndRightAfterItSaid : Prop := fnEndAttemptScriptClosesEachAttemptByTheEndRightAfterItRow.holds Try.pinned (OpenSpec.ofChange fnEndAttemptScriptClosesEachAttemptByTheEndRightAfterItSpec)

/-- ITS FALSE NEIGHBOUR: 'it returns false'. Refute it at one input. -/
def fnEndAttemptScriptClosesEachAttemptByTheEndRightAfterItWrong : ChangeSpec := { name := "fnEndAttemptScriptClosesEachAttemptByTheEndRightAfterIt", fn := fun _ => fun
  | [d1, d2, d3, d4] => { results := [.lit (.bool false)], args := [d1, d2, d3, d4] }
  | _ => none }
def FnEndAttemptScriptClosesEachAttemptByTheEndRightAfterItWrongFalsely : Prop := fnEndAttemptScriptClosesEachAttemptByTheEndRightAfterItRow.holds Try.pinned (OpenSpec.ofChange fnEndAttemptScriptClosesEachAttemptByTheEndRightAfterItWrong)

end Rows
end Go.Proofs.Qxb6630566a
