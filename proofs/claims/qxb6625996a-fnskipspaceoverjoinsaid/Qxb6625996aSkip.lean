/-
  THE WALKS THAT BOTH LAWS SHARE: zzIsJSONSpace (7), skipSpace (9), ZZskipSpace (6), and what they compute. Own work on this program.
-/
import Derived.Test.Qxb6625996aRows
import Derived.WalkKit
import Derived.ProofKit
import Derived.OpenShut
import Derived.Below
import Derived.WalkLawsBesides
namespace Go.Proofs.Qxb6625996a
open Go.RowKit

theorem own : ownKnob Try.prog.godebug = none := by kernel_rfl
theorem laidOut : laidOutB Try.prog = true := by kernel_rfl

/-- JSON's white space. -/
def sp (x : Int) : Bool := x == 32 || x == 9 || x == 10 || x == 13

/-- A slice of bytes, told of its first 'len' cells. -/
def BytesIn (w : World) (a : Option Addr) (len : Nat) (f : Nat → Int) : Prop :=
  ∀ i, i < len → ∃ b o, a = some ⟨b, o, none⟩ ∧ b < w.heap.size ∧ w.cell? ⟨b, o + i, none⟩ = some (.int .u8 (f i))
theorem BytesIn.below {w w' : World} {a : Option Addr} {len : Nat} {f : Nat → Int} (h : BytesIn w a len f) (hb : Below w.heap.size w w') : BytesIn w' a len f := by
  intro i hi
  obtain ⟨b, o, h1, h2, h3⟩ := h i hi
  exact ⟨b, o, h1, Nat.lt_of_lt_of_le h2 hb.size, (hb.cell h2).trans h3⟩

/-- What skipSpace answers. -/
def Skip (f : Nat → Int) (len s r : Nat) : Prop :=
  (len ≤ s ∧ r = s) ∨ (s < len ∧ s ≤ r ∧ r ≤ len ∧ (∀ i, s ≤ i → i < r → sp (f i) = true) ∧ (r < len → sp (f r) = false))

theorem Skip.uniq {f : Nat → Int} {len s r r' : Nat} (h : Skip f len s r) (h' : Skip f len s r') : r = r' := by
  rcases h with ⟨h1, rfl⟩ | ⟨h1, h2, h3, h4, h5⟩
  · rcases h' with ⟨_, rfl⟩ | ⟨g1, _⟩
    · rfl
    · omega
  · rcases h' with ⟨g1, _⟩ | ⟨g1, g2, g3, g4, g5⟩
    · omega
    · rcases Nat.lt_trichotomy r r' with h | h | h
      · have := g4 r h2 h
        rw [h5 (by omega)] at this; exact absurd this (by decide)
      · exact h
      · have := h4 r' g2 h
        rw [g5 (by omega)] at this; exact absurd this (by decide)

theorem all_step {f : Nat → Int} {s k : Nat} (h : ∀ j, s ≤ j → j < k → sp (f j) = true) (hk : sp (f k) = true) : ∀ j, s ≤ j → j < k + 1 → sp (f j) = true := by
  intro j h1 h2
  by_cases hj : j < k
  · exact h j h1 hj
  · obtain rfl : j = k := (by omega)
    exact hk

theorem isSpace (x : Int) (w : World) : Calls Try.prog 7 #[.int .u8 x] w fun e w' => e = .returned (.bool (sp x)) ∧ w' = w := by
  by_cases h1 : x = 32
  · subst h1
    go_enter Try.func7, Try.ntmps7
    go_wp2
    go_ret
    exact ⟨rfl, rfl⟩
  by_cases h2 : x = 9
  · subst h2
    go_enter Try.func7, Try.ntmps7
    go_wp2
    go_ret
    exact ⟨rfl, rfl⟩
  by_cases h3 : x = 10
  · subst h3
    go_enter Try.func7, Try.ntmps7
    go_wp2
    go_ret
    exact ⟨rfl, rfl⟩
  by_cases h4 : x = 13
  · subst h4
    go_enter Try.func7, Try.ntmps7
    go_wp2
    go_ret
    exact ⟨rfl, rfl⟩
  have hs : sp x = false := by simp [sp, h1, h2, h3, h4]
  rw [hs]
  go_enter Try.func7, Try.ntmps7
  go_wp2
  go_ret
  exact ⟨rfl, rfl⟩

set_option maxHeartbeats 1000000 in
theorem skipSpace (a : Option Addr) (len c s : Nat) (f : Nat → Int) (w : World) (h : BytesIn w a len f) (hlen : len ≤ 1048576) :
    Calls Try.prog 9 #[.slice a len c, .int .i64 s] w fun e w' => (∃ r : Nat, e = .returned (.int .i64 r) ∧ Skip f len s r) ∧ w' = w := by
  go_enter Try.func9, Try.ntmps9
  go_wp2_with fail
  go_loop [5] (fun i => ∃ k : Nat, i = .int .i64 k ∧ s ≤ k ∧ (k = s ∨ k ≤ len) ∧ ∀ j, s ≤ j → j < k → sp (f j) = true) (fun i => len - (intOf i).toNat)
  case atStart => exact ⟨s, rfl, Nat.le_refl _, .inl rfl, fun j h1 h2 => absurd h2 (by omega)⟩
  case round =>
    obtain ⟨k, rfl, hsk, hk, hall⟩ := hrel
    by_cases hlt : k < len
    · obtain ⟨bb, oo, ha, hbb, g0⟩ := h k hlt
      subst ha
      have hi1 : (k : Int) < (len : Int) := by omega
      have HA : Hid (∀ j, s ≤ j → j < k → sp (f j) = true) := hall
      clear hall h
      obtain ⟨x, hx⟩ : ∃ x, x = f k := ⟨_, rfl⟩
      rw [← hx] at g0
      have HX : Hid (x = f k) := hx
      clear hx
      by_cases h1 : x = 32
      · subst h1
        go_wp2
        go_round
        case rel => exact ⟨k + 1, by go_num, by omega, by omega, all_step HA.out (by rw [← HX.out]; rfl)⟩
        case measure => simp [intOf]; omega
      by_cases h2 : x = 9
      · subst h2
        go_wp2
        go_round
        case rel => exact ⟨k + 1, by go_num, by omega, by omega, all_step HA.out (by rw [← HX.out]; rfl)⟩
        case measure => simp [intOf]; omega
      by_cases h3 : x = 10
      · subst h3
        go_wp2
        go_round
        case rel => exact ⟨k + 1, by go_num, by omega, by omega, all_step HA.out (by rw [← HX.out]; rfl)⟩
        case measure => simp [intOf]; omega
      by_cases h4 : x = 13
      · subst h4
        go_wp2
        go_round
        case rel => exact ⟨k + 1, by go_num, by omega, by omega, all_step HA.out (by rw [← HX.out]; rfl)⟩
        case measure => simp [intOf]; omega
      go_wp2
      go_ret
      exact ⟨⟨k, rfl, .inr ⟨by omega, hsk, by omega, HA.out, fun _ => by rw [← HX.out]; simp [sp, h1, h2, h3, h4]⟩⟩, rfl⟩
    · have hi1 : ¬ (k : Int) < (len : Int) := by omega
      go_wp2
      go_ret
      refine ⟨⟨k, rfl, ?_⟩, rfl⟩
      by_cases hs : s < len
      · exact .inr ⟨hs, hsk, by omega, hall, fun h => absurd h hlt⟩
      · exact .inl ⟨by omega, by omega⟩

theorem zzSkip (a : Option Addr) (len c s : Nat) (f : Nat → Int) (w : World) (h : BytesIn w a len f) (hlen : len ≤ 1048576) :
    Calls Try.prog 6 #[.slice a len c, .int .i64 s] w fun e w' => (∃ r : Nat, e = .returned (.int .i64 r) ∧ Skip f len s r) ∧ w' = w := by
  go_enter Try.func6, Try.ntmps6
  go_wp2_with fail
  refine (skipSpace a len c s f w h hlen).mono ?_
  rintro e w1 ⟨⟨r, rfl, hr⟩, hw⟩
  obtain rfl : w1 = w := hw
  have HR : Hid (Skip f len s r) := hr
  clear hr
  go_wp2
  go_ret
  exact ⟨⟨r, rfl, HR.out⟩, rfl⟩

/-- zzBytes of the first law. -/
theorem bytes5 (a : Option Addr) (len c : Nat) (z : Int) (w : World) :
    Calls Try.prog 5 #[.slice a len c, .int .i64 z] w fun e w' => e = .returned (.bool (decide (len ≤ 1048576))) ∧ w' = w := by
  by_cases h : len ≤ 1048576
  · have h1 : ¬ (1048576 : Int) < (len : Int) := by omega
    rw [decide_eq_true h]
    go_enter Try.func5, Try.ntmps5
    go_wp2
    · go_ret; exact ⟨rfl, rfl⟩
  · have h1 : (1048576 : Int) < (len : Int) := by omega
    rw [decide_eq_false h]
    go_enter Try.func5, Try.ntmps5
    go_wp2
    go_ret; exact ⟨rfl, rfl⟩
end Go.Proofs.Qxb6625996a
