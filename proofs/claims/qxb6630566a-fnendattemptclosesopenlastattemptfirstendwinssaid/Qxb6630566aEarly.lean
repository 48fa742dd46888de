/-
  THE FIRST LAW's EARLY RETURNS: an input past the bounds. Own work on this program.
-/
import Derived.Test.Qxb6630566aSmall
namespace Go.Proofs.Qxb6630566a
open Go.RowKit

set_option maxRecDepth 100000 in
set_option maxHeartbeats 1000000 in
theorem law1_early (a1 a2 : Option Addr) (n1 c1 n2 c2 : Nat) (ss : Nat → ByteArray) (b1 b2 : Bool) (k1 t1 k2 t2 : Int) (e1 e2 : ByteArray) (w : World) (h1 : StrsIn w a1 n1 ss)
    (hbig : 65536 < n1 ∨ (n1 ≤ 65536 ∧ 65536 < n2) ∨ (n1 ≤ 65536 ∧ n2 ≤ 65536 ∧ 1048576 < e1.size) ∨ (n1 ≤ 65536 ∧ n2 ≤ 65536 ∧ e1.size ≤ 1048576 ∧ 1048576 < e2.size)) :
    Calls Try.prog 3 #[.slice a1 n1 c1, .slice a2 n2 c2, .bool b1, .int .i64 k1, .string e1, .int .i64 t1, .bool b2, .int .i64 k2, .string e2, .int .i64 t2] w fun e w' => e = .returned (.bool true) ∧ Below w.heap.size w w' := by
  rcases hbig with m1 | ⟨m1, m2⟩ | ⟨m1, m2, m3⟩ | ⟨m1, m2, m3, m4⟩
  all_goals
    go_enter Try.func3, Try.ntmps3
    go_wp2_with fail
    refine (bytes1_any a1 a2 n1 c1 n2 c2 ss b1 b2 k1 t1 k2 t2 e1 e2 w h1).mono ?_
    rintro e w' ⟨⟨b, rfl⟩, hw⟩
    obtain rfl : w = w' := hw.symm
    cases b
    · go_wp2
      go_ret
      exact ⟨rfl, Below.refl _ _⟩
    go_wp2
    go_ret
    exact ⟨rfl, Below.refl _ _⟩
end Go.Proofs.Qxb6630566a
