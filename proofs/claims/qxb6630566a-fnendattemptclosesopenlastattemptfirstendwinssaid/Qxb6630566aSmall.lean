/-
  SMALL LAWS THAT THE FIRST LAW's WALK WANTS. Own work on this program.
-/
import Derived.Test.Qxb6630566aFill
import Derived.Deep.Light
import Derived.Deep.RegionHeld3
import Derived.Deep.QuietTactic
import Derived.BigQuiet
import Derived.Laws.Pointers
import Derived.LaidEqlPtr
namespace Go.Proofs.Qxb6630566a
open Go.RowKit

theorem below_step {wd wr W w6 : World} (hbl : Below wd.heap.size wd wr) (hW : Below wr.heap.size wr W) (h : Below W.heap.size W w6) : Below wd.heap.size wd w6 :=
  (hbl.trans (hW.mono hbl.size)).trans (h.mono (Nat.le_trans hbl.size hW.size))
theorem below_one {wd wr : World} (hbl : Below wd.heap.size wd wr) (o : Obj) (n : Nat) : Below wd.heap.size wd ((wr.alloc o).drewN n) := below_drewN (hbl.alloc hbl.size o) n

theorem ready2_at {w wc : World} {n m sb s : Nat} {ss : Nat → ByteArray} {ns : Nat → Int} {p : Option Addr} {x : Int} (x' : Int) (h : Ready1 w n m ss ns sb p x wc) (hs : wc.heap.size = s) :
    Ready2 w n m ss ns sb p x (some ⟨s, 0, none⟩) x' (wc.alloc (.cells #[.int .i64 x'] 3)) := by
  subst hs; exact ready2_yes x' h
theorem ptr_cell {w w' : World} {lo b : Nat} {x : Int} (h : PtrInt w lo (some ⟨b, 0, none⟩) x) (hb : Below w.heap.size w w') : w'.cell? ⟨b, 0, none⟩ = some (.int .i64 x) := by
  obtain ⟨b', hp, _, hlt, hc⟩ := h _ rfl
  cases hp
  exact (hb.cell hlt).trans hc

theorem info3 : ∃ j, Try.prog.info? 3 = some j := by
  cases h : Try.prog.info? 3 with
  | some j => exact ⟨j, rfl⟩
  | none => have : (Try.prog.info? 3).isSome = true := by kernel_rfl
            rw [h] at this; cases this
theorem neqPtr (a : Addr) (w : World) : (binOp .neq 26 (.pointer (some a)) (.pointer (some a))).run Try.prog w = .ok (.bool false) w := by
  obtain ⟨j, hj⟩ := info3
  have h : ∀ d : Nat, (Op.equalIn (d + 1) 26 (.pointer (some a)) (.pointer (some a))).run Try.prog w = .ok true w := fun d => by
    simp [Op.equalIn, run_underlying Try.underlying26, sizeOf, typeInfo, hj, run_sameAddr_same]
  simp only [binOp]
  simp [Op.equal, Op.maxDepth, h 9999]

theorem eqNil (w : World) : (Op.equalIn 9999 31 (.pointer none) (.pointer none)).run Try.prog w = .ok true w := by kernel_rfl

end Go.Proofs.Qxb6630566a
