/-
  THE SECOND LAW's CALLEES: zzBytes (9), zzCodeAt (10), zzErrAt (11), zzNsAt (12). Own work on this program.
-/
import Derived.Test.Qxb6630566aScript
namespace Go.Proofs.Qxb6630566a
open Go.RowKit

/-- A []bool that came in. -/
def BoolsIn (w : World) (a : Option Addr) (len : Nat) (op : Nat → Bool) : Prop :=
  ∀ i, i < len → ∃ b o, a = some ⟨b, o, none⟩ ∧ b < w.heap.size ∧ w.cell? ⟨b, o + i, none⟩ = some (.bool (op i))
/-- A []int or []int64 that came in. -/
def NumsIn (w : World) (a : Option Addr) (len : Nat) (ns : Nat → Int) : Prop :=
  ∀ i, i < len → ∃ b o, a = some ⟨b, o, none⟩ ∧ b < w.heap.size ∧ w.cell? ⟨b, o + i, none⟩ = some (.int .i64 (ns i)) ∧ -9223372036854775808 ≤ ns i ∧ ns i ≤ 9223372036854775807
theorem StrsIn.below {w w' : World} {a : Option Addr} {len : Nat} {ss : Nat → ByteArray} (h : StrsIn w a len ss) (hb : Below w.heap.size w w') : StrsIn w' a len ss := by
  intro i hi
  obtain ⟨b, o, h1, h2, h3⟩ := h i hi
  exact ⟨b, o, h1, Nat.lt_of_lt_of_le h2 hb.size, (hb.cell h2).trans h3⟩
theorem NumsIn.below {w w' : World} {a : Option Addr} {len : Nat} {ns : Nat → Int} (h : NumsIn w a len ns) (hb : Below w.heap.size w w') : NumsIn w' a len ns := by
  intro i hi
  obtain ⟨b, o, h1, h2, h3, h4⟩ := h i hi
  exact ⟨b, o, h1, Nat.lt_of_lt_of_le h2 hb.size, (hb.cell h2).trans h3, h4⟩
theorem BoolsIn.below {w w' : World} {a : Option Addr} {len : Nat} {op : Nat → Bool} (h : BoolsIn w a len op) (hb : Below w.heap.size w w') : BoolsIn w' a len op := by
  intro i hi
  obtain ⟨b, o, h1, h2, h3⟩ := h i hi
  exact ⟨b, o, h1, Nat.lt_of_lt_of_le h2 hb.size, (hb.cell h2).trans h3⟩

set_option maxHeartbeats 400000 in
theorem bytes2_any (a0 a1 a2 a3 : Option Addr) (n0 c0 n1 c1 n2 c2 n3 c3 : Nat) (ss : Nat → ByteArray) (w : World) (h2 : StrsIn w a2 n2 ss) :
    Calls Try.prog 9 #[.slice a0 n0 c0, .slice a1 n1 c1, .slice a2 n2 c2, .slice a3 n3 c3] w fun e w' => SomeBool e ∧ w' = w := by
  go_enter Try.func9, Try.ntmps9
  go_wp2
  · go_ret; exact ⟨someBool _, rfl⟩
  · go_ret; exact ⟨someBool _, rfl⟩
  · go_ret; exact ⟨someBool _, rfl⟩
  · go_ret; exact ⟨someBool _, rfl⟩
  · go_ret; exact ⟨someBool _, rfl⟩
  go_loop [9, 10] (fun z i => ∃ k : Nat, k ≤ n2 ∧ i = .int .i64 k ∧ ∃ v : Int, 0 ≤ v ∧ v ≤ 1048576 ∧ z = .int .i64 v) (fun _ i => n2 - (intOf i).toNat)
  case atStart => exact ⟨0, Nat.zero_le _, rfl, _, by omega, by omega, rfl⟩
  case round =>
    obtain ⟨k, hk, rfl, v, hv0, hv1, rfl⟩ := hrel
    by_cases hlt : k < n2
    · obtain ⟨b, o, ha, hb, hcell⟩ := h2 k hlt
      subst ha
      go_wp2
      · go_ret; exact ⟨someBool _, rfl⟩
      · go_ret; exact ⟨someBool _, rfl⟩
      · go_round
        case rel => exact ⟨k + 1, by omega, by go_num, _, by omega, by omega, rfl⟩
        case measure => simp [intOf]; omega
    · go_wp2
      all_goals (go_ret; exact ⟨someBool _, rfl⟩)

/-- 'zzErrAt'. -/
theorem errAt_any (a : Option Addr) (n c : Nat) (ss : Nat → ByteArray) (k : Nat) (x : Int) (hx : x = (k : Int)) (w : World) (h : StrsIn w a n ss) :
    Calls Try.prog 11 #[.slice a n c, .int .i64 x] w fun e w' => e = .returned (.string (errAt n ss k)) ∧ w' = w := by
  subst hx
  by_cases hk : k < n
  · obtain ⟨b, o, ha, hb, hc⟩ := h k hk
    subst ha
    have he : errAt n ss k = ss k := by simp [errAt, hk]
    rw [he]
    clear he h
    go_enter Try.func11, Try.ntmps11
    go_wp2
    go_ret
    exact ⟨rfl, rfl⟩
  · have he : errAt n ss k = emptyS := by simp [errAt, hk]
    rw [he]
    clear he h
    go_enter Try.func11, Try.ntmps11
    go_wp2
    go_ret
    exact ⟨rfl, rfl⟩

/-- 'zzNsAt'. -/
theorem nsAt_any (a : Option Addr) (n c : Nat) (ts : Nat → Int) (k : Nat) (x : Int) (hx : x = (k : Int)) (w : World) (h : NumsIn w a n ts) :
    Calls Try.prog 12 #[.slice a n c, .int .i64 x] w fun e w' => e = .returned (.int .i64 (nsAt n ts k)) ∧ w' = w := by
  subst hx
  by_cases hk : k < n
  · obtain ⟨b, o, ha, hb, hc, _⟩ := h k hk
    subst ha
    have he : nsAt n ts k = ts k := by simp [nsAt, hk]
    rw [he]
    clear he h
    go_enter Try.func12, Try.ntmps12
    go_wp2
    go_ret
    exact ⟨rfl, rfl⟩
  · have he : nsAt n ts k = 0 := by simp [nsAt, hk]
    rw [he]
    clear he h
    go_enter Try.func12, Try.ntmps12
    go_wp2
    go_ret
    exact ⟨rfl, rfl⟩
theorem nsAt_bd {w : World} {a : Option Addr} {n : Nat} {ts : Nat → Int} (h : NumsIn w a n ts) (k : Nat) : -9223372036854775808 ≤ nsAt n ts k ∧ nsAt n ts k ≤ 9223372036854775807 := by
  unfold nsAt
  by_cases hk : k < n
  · obtain ⟨_, _, _, _, _, h4⟩ := h k hk
    rw [if_pos hk]; exact h4
  · rw [if_neg hk]; omega

/-- 'zzCodeAt'. -/
theorem codeAt_any (a : Option Addr) (n c : Nat) (cs : Nat → Int) (k : Nat) (x : Int) (hx : x = (k : Int)) (w : World) (h : NumsIn w a n cs) :
    Calls Try.prog 10 #[.slice a n c, .int .i64 x] w fun e w' => ∃ p, e = .returned (.pointer p) ∧ CodeP w' n cs k p ∧ Below w.heap.size w w' := by
  subst hx
  by_cases hk : k < n
  · obtain ⟨b, o, ha, hb, hc, _⟩ := h k hk
    subst ha
    clear h
    go_enter Try.func10, Try.ntmps10
    go_wp2
    go_ret
    exact ⟨_, rfl, .inl ⟨hk, _, rfl, Go.Deep.blk_alloc_new _ _⟩, (Below.refl _ _).alloc (Nat.le_refl _) _⟩
  · clear h
    go_enter Try.func10, Try.ntmps10
    go_wp2
    go_ret
    exact ⟨_, rfl, .inr ⟨hk, rfl⟩, Below.refl _ _⟩

/-- The step stands behind an append to its log. -/
theorem step_grown {wr w2 : World} {B n : Nat} {v : Value} {ex fi : Nat → Option Addr} {er : Nat → ByteArray} {o : Obj} (hS : StepB wr B v) (hL : LogV wr B v n ex fi er) (hg : (wr.alloc o).grownBy w2 v.ownBlock) : StepB w2 B v := by
  have h1 : (wr.alloc o).heap[B]? = some (Obj.cells (stepC v) 41 (0, 0)) := (Below.heap_alloc _ _ _ (block_lt hS)).trans hS
  refine (hg.block B (block_lt h1) ?_).trans h1
  intro he
  rcases hL with ⟨h0, _⟩ | ⟨g, cap, h0, _, hC⟩
  · rw [h0] at he; simp [Value.ownBlock] at he
  · rw [h0] at he
    simp only [Value.ownBlock, Option.some.injEq] at he
    subst he
    obtain ⟨cur, hcur⟩ := hC.block
    unfold StepB at hS
    rw [hS] at hcur
    simp only [Option.some.injEq, Obj.cells.injEq] at hcur
    exact absurd hcur.2.1 (by decide)
theorem StepB.frozen {w : World} {sb : Nat} {v : Value} (h : StepB w sb v) (o : Nat) : w.frozen? ⟨sb, o, none⟩ = false := by
  unfold StepB at h
  simp [World.frozen?, h]
end Go.Proofs.Qxb6630566a
