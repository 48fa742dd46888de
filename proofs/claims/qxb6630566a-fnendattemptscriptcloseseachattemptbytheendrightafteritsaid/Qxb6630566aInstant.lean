/-
  THE INSTANT: 'zzInstant(ns)' = 'time.Time{}.Add(time.Duration(ns))': what it hands back, for every ns. Own work on this program.
-/
import Derived.Test.Qxb6630566aRows
import Derived.WalkKit
import Derived.WalkSpells
import Derived.WalkLawsBesides
import Derived.Laws.BitsAllLaws
namespace Go.Proofs.Qxb6630566a
open Go.RowKit

/-- The nanoseconds and the seconds of the instant, in the text's own arithmetic. -/
def nsecOf (d : Int) : Int := if d.tmod 1000000000 < 0 then d.tmod 1000000000 + 1000000000 else d.tmod 1000000000
def secOf (d : Int) : Int := if d.tmod 1000000000 < 0 then d.tdiv 1000000000 - 1 else d.tdiv 1000000000

theorem and_lo (n : Int) (h0 : 0 ≤ n) (h1 : n < 1000000000) : bits BinOp.and IntKind.u64 n 9223372036854775808 = 0 := by
  obtain ⟨m, rfl⟩ := Int.eq_ofNat_of_zero_le h0
  have h := u64_and_nat m (2 ^ 63) (by omega) (by decide)
  have e : m &&& 2 ^ 63 = 0 := by
    apply Nat.eq_of_testBit_eq
    intro i
    rw [Nat.testBit_and, Nat.testBit_two_pow, Nat.zero_testBit]
    by_cases hi : 63 = i
    · subst hi
      simp [Nat.testBit_lt_two_pow (show m < 2 ^ 63 by omega)]
    · simp [hi]
  rw [e] at h
  simpa using h
theorem or_lo (n : Int) (h0 : 0 ≤ n) (h1 : n < 1000000000) : bits BinOp.or IntKind.u64 0 n = n := by
  obtain ⟨m, rfl⟩ := Int.eq_ofNat_of_zero_le h0
  have h := u64_or_nat 0 m (by omega) (by omega)
  simpa using h
theorem and0 : bits BinOp.and IntKind.u64 0 1073741823 = 0 := by decide
theorem andNot0 : bits BinOp.andNot IntKind.u64 0 1073741823 = 0 := by decide

/-- The remainder is not negative. -/
theorem add_up (d q r : Int) (_h1 : -9223372036854775808 ≤ d) (_h2 : d ≤ 9223372036854775807) (hq : d.tdiv 1000000000 = q) (hr : d.tmod 1000000000 = r) (q1 : -9223372037 ≤ q) (q2 : q ≤ 9223372037) (r1 : 0 ≤ r) (r2 : r < 1000000000) (w : World) :
    Calls Try.prog 13 #[.agg #[.int .u64 0, .int .i64 0, .pointer none], .int .i64 d] w fun e w' => e = .returned (.agg #[.int .u64 r, .int .i64 q, .pointer none]) ∧ Below w.heap.size w w' := by
  have b1 := and0
  have b2 := andNot0
  have b3 := or_lo r r1 r2
  have b4 := and_lo r r1 r2
  go_enter Try.func13, Try.ntmps13
  go_wp2
  go_end0
  go_wp2
  exact bodyPost_ret (v := .agg #[.int .u64 r, .int .i64 q, .pointer none]) (by simp [results, Try.results13, go_sem]) rfl ⟨rfl, ((Below.refl _ _).alloc (Nat.le_refl _) _).alloc (by simp) _⟩

/-- The remainder is negative. -/
theorem add_down (d q r : Int) (_h1 : -9223372036854775808 ≤ d) (_h2 : d ≤ 9223372036854775807) (hq : d.tdiv 1000000000 = q) (hr : d.tmod 1000000000 = r) (q1 : -9223372037 ≤ q) (q2 : q ≤ 9223372037) (r1 : -1000000000 < r) (r2 : r < 0) (w : World) :
    Calls Try.prog 13 #[.agg #[.int .u64 0, .int .i64 0, .pointer none], .int .i64 d] w fun e w' => e = .returned (.agg #[.int .u64 (r + 1000000000), .int .i64 (q - 1), .pointer none]) ∧ Below w.heap.size w w' := by
  have b1 := and0
  have b2 := andNot0
  have b3 := or_lo (r + 1000000000) (by omega) (by omega)
  have b4 := and_lo (r + 1000000000) (by omega) (by omega)
  go_enter Try.func13, Try.ntmps13
  go_wp2
  go_end0
  go_wp2
  exact bodyPost_ret (v := .agg #[.int .u64 (r + 1000000000), .int .i64 (q - 1), .pointer none]) (by simp [results, Try.results13, go_sem]) rfl ⟨rfl, ((Below.refl _ _).alloc (Nat.le_refl _) _).alloc (by simp) _⟩

theorem tdiv_bd (d : Int) (h1 : -9223372036854775808 ≤ d) (h2 : d ≤ 9223372036854775807) : -9223372037 ≤ d.tdiv 1000000000 ∧ d.tdiv 1000000000 ≤ 9223372037 ∧ -1000000000 < d.tmod 1000000000 ∧ d.tmod 1000000000 < 1000000000 := by
  by_cases h : 0 ≤ d
  · rw [Int.tdiv_eq_ediv_of_nonneg h, Int.tmod_eq_emod_of_nonneg h]; omega
  · have e1 : d.tdiv 1000000000 = -((-d) / 1000000000) := by
      rw [← Int.tdiv_eq_ediv_of_nonneg (by omega), Int.neg_tdiv, Int.neg_neg]
    have e2 : d.tmod 1000000000 = -((-d) % 1000000000) := by
      rw [← Int.tmod_eq_emod_of_nonneg (by omega), Int.neg_tmod, Int.neg_neg]
    rw [e1, e2]; omega

/-- '(time.Time).Add' at the zero time. -/
theorem add_any (d : Int) (h1 : -9223372036854775808 ≤ d) (h2 : d ≤ 9223372036854775807) (w : World) :
    Calls Try.prog 13 #[.agg #[.int .u64 0, .int .i64 0, .pointer none], .int .i64 d] w fun e w' => e = .returned (.agg #[.int .u64 (nsecOf d), .int .i64 (secOf d), .pointer none]) ∧ Below w.heap.size w w' := by
  obtain ⟨a, b, c, e⟩ := tdiv_bd d h1 h2
  by_cases h : d.tmod 1000000000 < 0
  · unfold nsecOf secOf
    rw [if_pos h, if_pos h]
    exact add_down d _ _ h1 h2 rfl rfl a b c h w
  · unfold nsecOf secOf
    rw [if_neg h, if_neg h]
    exact add_up d _ _ h1 h2 rfl rfl a b (by omega) e w

/-- What a world that stands 'Below' another gives the walk: two rules. -/
theorem bcell {W w1 : World} (hb : Below W.heap.size W w1) : (∀ b o, b < W.heap.size → w1.cell? ⟨b, o, none⟩ = W.cell? ⟨b, o, none⟩) ∧ (∀ b o, b < W.heap.size → w1.frozen? ⟨b, o, none⟩ = W.frozen? ⟨b, o, none⟩) :=
  ⟨fun b o h => hb.cell (p := ⟨b, o, none⟩) h, fun b o h => hb.frozen (p := ⟨b, o, none⟩) h⟩

/-- 'zzInstant'. -/
theorem instant_any (d : Int) (h1 : -9223372036854775808 ≤ d) (h2 : d ≤ 9223372036854775807) (w : World) :
    Calls Try.prog 6 #[.int .i64 d] w fun e w' => e = .returned (.agg #[.int .u64 (nsecOf d), .int .i64 (secOf d), .pointer none]) ∧ Below w.heap.size w w' := by
  go_enter Try.func6, Try.ntmps6
  go_wp2_with fail
  refine (add_any d h1 h2 _).mono ?_
  rintro e w1 ⟨rfl, hb⟩
  obtain ⟨hc, hf⟩ := bcell hb
  have hz : w.heap.size < w1.heap.size := by have := hb.size; simp at this; omega
  go_wp2
  refine bodyPost_ret (v := .agg #[.int .u64 (nsecOf d), .int .i64 (secOf d), .pointer none]) (by simp [results, Try.results6, go_sem, hc]) rfl ⟨rfl, ?_⟩
  exact (((((Below.refl _ _).alloc (Nat.le_refl _) _).trans (hb.mono (by simp))).setCell (by simp) _).setCell (by simp) _).setCell (by simp) _
end Go.Proofs.Qxb6630566a
