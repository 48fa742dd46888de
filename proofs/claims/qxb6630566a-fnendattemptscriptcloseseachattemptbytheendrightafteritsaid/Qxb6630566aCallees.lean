/-
  THE CALLEES OF THE FIRST LAW, each by its contract: zzBytes (5), EndAttempt (7), zzStepUntouched (8). Own work on this program.
-/
import Derived.Test.Qxb6630566aInstant
import Derived.RegionTactic
import Derived.Deep.QuietTactic
import Derived.BigQuiet
namespace Go.Proofs.Qxb6630566a
open Go.RowKit

/-- A []string that came in: its elements' cells. -/
def StrsIn (w : World) (a : Option Addr) (len : Nat) (ss : Nat → ByteArray) : Prop :=
  ∀ i, i < len → ∃ b o, a = some ⟨b, o, none⟩ ∧ b < w.heap.size ∧ w.cell? ⟨b, o + i, none⟩ = some (.string (ss i))

/-- The call gives some bool. -/
def SomeBool (e : Ending) : Prop := ∃ b, e = .returned (.bool b)
theorem someBool (b : Bool) : SomeBool (.returned (.bool b)) := ⟨b, rfl⟩

set_option maxHeartbeats 400000 in
theorem bytes1_any (a1 a2 : Option Addr) (n1 c1 n2 c2 : Nat) (ss : Nat → ByteArray) (b1 b2 : Bool) (k1 t1 k2 t2 : Int) (e1 e2 : ByteArray) (w : World) (h1 : StrsIn w a1 n1 ss) :
    Calls Try.prog 5 #[.slice a1 n1 c1, .slice a2 n2 c2, .bool b1, .int .i64 k1, .string e1, .int .i64 t1, .bool b2, .int .i64 k2, .string e2, .int .i64 t2] w fun e w' => SomeBool e ∧ w' = w := by
  go_enter Try.func5, Try.ntmps5
  go_wp2
  · go_ret; exact ⟨someBool _, rfl⟩
  go_loop [21, 22] (fun z i => ∃ k : Nat, k ≤ n1 ∧ i = .int .i64 k ∧ ∃ v : Int, 0 ≤ v ∧ v ≤ 1048576 ∧ z = .int .i64 v) (fun _ i => n1 - (intOf i).toNat)
  case atStart => exact ⟨0, Nat.zero_le _, rfl, _, by omega, by omega, rfl⟩
  case round =>
    obtain ⟨k, hk, rfl, v, hv0, hv1, rfl⟩ := hrel
    by_cases hlt : k < n1
    · obtain ⟨b, o, ha, hb, hcell⟩ := h1 k hlt
      subst ha
      go_wp2
      · go_ret; exact ⟨someBool _, rfl⟩
      · go_ret; exact ⟨someBool _, rfl⟩
      · go_round
        case rel => exact ⟨k + 1, by omega, by go_num, _, by omega, by omega, rfl⟩
        case measure => simp [intOf]; omega
    · go_wp2
      all_goals (go_ret; exact ⟨someBool _, rfl⟩)

/-- What a fresh time box holds. -/
def timeObj (a b : Int) : Obj := .cells #[.int .u64 a, .int .i64 b, .pointer none] 33

/-- 'EndAttempt': the log is not empty, its last attempt open. -/
theorem end_open (sb so lb lo n c : Nat) (ec : Option Addr) (er : ByteArray) (a b : Int) (w : World) (hn : n < 100000)
    (hs : w.cell? ⟨sb, so + 15, none⟩ = some (.slice (some ⟨lb, lo, none⟩) (n + 1) c))
    (h0 : ∃ x, w.cell? ⟨lb, lo + n * 6, none⟩ = some x)
    (h3 : ∃ x, w.cell? ⟨lb, lo + n * 6 + 3, none⟩ = some x)
    (h2 : w.cell? ⟨lb, lo + n * 6 + 2, none⟩ = some (.pointer none))
    (hf : ∀ o, w.frozen? ⟨lb, o, none⟩ = false) (hb : lb < w.heap.size) (hb' : sb < w.heap.size) :
    Calls Try.prog 7 #[.pointer (some ⟨sb, so, none⟩), .pointer ec, .string er, .agg #[.int .u64 a, .int .i64 b, .pointer none]] w fun e w' => e = .returned (.tuple #[]) ∧ ∃ k,
      w' = (((((w.alloc (timeObj a b)).drewN k).setCell ⟨lb, lo + n * 6, none⟩ (.pointer ec)).setCell ⟨lb, lo + n * 6 + 3, none⟩ (.string er)).setCell ⟨lb, lo + n * 6 + 2, none⟩ (.pointer (some ⟨w.heap.size, 0, none⟩))) := by
  obtain ⟨x0, h0⟩ := h0
  obtain ⟨x3, h3⟩ := h3
  go_enter Try.func7, Try.ntmps7
  go_wp2
  go_quiet (fail)
  go_wp2
  go_end0
  exact ⟨rfl, _, rfl⟩

/-- 'EndAttempt': the log is not empty, its last attempt has ended. -/
theorem end_shut (sb so lb lo n c : Nat) (ec : Option Addr) (er : ByteArray) (a b : Int) (p : Addr) (w : World) (hn : n < 100000)
    (hs : w.cell? ⟨sb, so + 15, none⟩ = some (.slice (some ⟨lb, lo, none⟩) (n + 1) c))
    (h2 : w.cell? ⟨lb, lo + n * 6 + 2, none⟩ = some (.pointer (some p)))
    (hb : lb < w.heap.size) (hb' : sb < w.heap.size) :
    Calls Try.prog 7 #[.pointer (some ⟨sb, so, none⟩), .pointer ec, .string er, .agg #[.int .u64 a, .int .i64 b, .pointer none]] w fun e w' => e = .returned (.tuple #[]) ∧ Below w.heap.size w w' := by
  go_enter Try.func7, Try.ntmps7
  go_wp2
  go_quiet (fail)
  go_wp2
  go_end0
  exact ⟨rfl, below_drewN ((Below.refl _ _).alloc (Nat.le_refl _) _) _⟩

/-- 'EndAttempt': the log is empty. -/
theorem end_none (sb so c : Nat) (al : Option Addr) (ec : Option Addr) (er : ByteArray) (a b : Int) (w : World)
    (hs : w.cell? ⟨sb, so + 15, none⟩ = some (.slice al 0 c)) (hb' : sb < w.heap.size) :
    Calls Try.prog 7 #[.pointer (some ⟨sb, so, none⟩), .pointer ec, .string er, .agg #[.int .u64 a, .int .i64 b, .pointer none]] w fun e w' => e = .returned (.tuple #[]) ∧ Below w.heap.size w w' := by
  go_enter Try.func7, Try.ntmps7
  go_wp2
  exact bodyPost_ret (v := .tuple #[]) (by simp [results, Try.results7, go_sem]) rfl ⟨rfl, (Below.refl _ _).alloc (Nat.le_refl _) _⟩

/-- 'zzStepUntouched' at a step that is as the law built it. -/
theorem untouched_any (sb : Nat) (n : Int) (w : World)
    (h0 : w.cell? ⟨sb, 0, none⟩ = some (.string ⟨#[115, 116, 101, 112]⟩)) (h1 : w.cell? ⟨sb, 1, none⟩ = some (.string ⟨#[]⟩))
    (h2 : w.cell? ⟨sb, 2, none⟩ = some (.slice none 0 0)) (h3 : w.cell? ⟨sb, 3, none⟩ = some (.pointer none))
    (h4 : w.cell? ⟨sb, 4, none⟩ = some (.int .i64 0)) (h5 : w.cell? ⟨sb, 5, none⟩ = some (.slice none 0 0))
    (h6 : w.cell? ⟨sb, 6, none⟩ = some (.pointer none)) (h7 : w.cell? ⟨sb, 7, none⟩ = some (.string ⟨#[]⟩))
    (h8 : w.cell? ⟨sb, 8, none⟩ = some (.pointer none)) (h9 : w.cell? ⟨sb, 9, none⟩ = some (.pointer none))
    (h10 : w.cell? ⟨sb, 10, none⟩ = some (.pointer none)) (h11 : w.cell? ⟨sb, 11, none⟩ = some (.string ⟨#[]⟩))
    (h12 : w.cell? ⟨sb, 12, none⟩ = some (.string ⟨#[]⟩)) (h13 : w.cell? ⟨sb, 13, none⟩ = some (.string ⟨#[]⟩))
    (h14 : w.cell? ⟨sb, 14, none⟩ = some (.int .i64 n)) (h16 : w.cell? ⟨sb, 16, none⟩ = some (.bool false)) :
    Calls Try.prog 8 #[.pointer (some ⟨sb, 0, none⟩), .int .i64 n] w fun e w' => e = .returned (.bool true) ∧ w' = w := by
  go_enter Try.func8, Try.ntmps8
  go_wp2
  go_ret
  exact ⟨rfl, rfl⟩
end Go.Proofs.Qxb6630566a
