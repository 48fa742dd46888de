/-
  A BLOCK OF 16 OCTETS THAT CAME IN, AS A NUMBER. Own work on this program.
-/
import Derived.Test.Qxb6626075aBlocks
import Derived.OpenShut
import Derived.ShutString
import Derived.ChangeOld
namespace Go.Proofs.Qxb6626075a
open Go.ChangeShapes Go.WideShapes Go.ChangeAt Go.RowKit

theorem own : ownKnob Try.prog.godebug = none := by kernel_rfl
theorem laidOut : laidOutB Try.prog = true := by kernel_rfl

theorem byteAt_shl (c n j : Nat) (hc : c < 256) : byteAt (c <<< (8 * n)) j = if j = n then c else (if j < n then 0 else byteAt (c <<< (8 * n)) j) := by
  by_cases h1 : j = n
  · subst h1
    rw [if_pos rfl]
    apply Nat.eq_of_testBit_eq
    intro k
    rw [byteAt_bit, Nat.testBit_shiftLeft, decide_eq_true (show 8 * j + k ≥ 8 * j by omega), Bool.true_and, show 8 * j + k - 8 * j = k from by omega]
    by_cases hk : k < 8
    · simp [hk]
    · rw [decide_eq_false hk, Bool.false_and, Nat.testBit_lt_two_pow (Nat.lt_of_lt_of_le hc (by rw [show (256 : Nat) = 2 ^ 8 from rfl]; exact Nat.pow_le_pow_right (by decide) (by omega)))]
  · rw [if_neg h1]
    by_cases h2 : j < n
    · rw [if_pos h2]
      apply Nat.eq_of_testBit_eq
      intro k
      rw [byteAt_bit, Nat.testBit_shiftLeft, Nat.zero_testBit]
      by_cases hk : k < 8
      · rw [decide_eq_false (show ¬ 8 * j + k ≥ 8 * n by omega)]; simp
      · simp [hk]
    · rw [if_neg h2]
theorem byteAt_past {N n : Nat} (h : N < 2 ^ (8 * n)) : byteAt N n = 0 := by
  unfold byteAt
  rw [Nat.shiftRight_eq_div_pow, Nat.div_eq_of_lt h]

/-- Every n octets are a number's. -/
theorem number (n : Nat) (f : Nat → Nat) (h : ∀ i, i < n → f i < 256) : ∃ N, N < 2 ^ (8 * n) ∧ ∀ j, j < n → byteAt N j = f j := by
  induction n with
  | zero => exact ⟨0, by decide, fun j hj => absurd hj (Nat.not_lt_zero _)⟩
  | succ n ih =>
    obtain ⟨N, hN, hf⟩ := ih (fun i hi => h i (by omega))
    have hc := h n (by omega)
    refine ⟨N ^^^ (f n <<< (8 * n)), Nat.xor_lt_two_pow (Nat.lt_of_lt_of_le hN (Nat.pow_le_pow_right (by decide) (by omega))) ?_, fun j hj => ?_⟩
    · rw [Nat.shiftLeft_eq, show 8 * (n + 1) = 8 + 8 * n from by omega, Nat.pow_add]
      exact Nat.mul_lt_mul_of_pos_right hc (Nat.two_pow_pos _)
    · rw [byteAt_xor, byteAt_shl _ _ _ hc]
      by_cases hj' : j = n
      · subst hj'; rw [if_pos rfl, byteAt_past hN, Nat.zero_xor]
      · rw [if_neg hj', if_pos (by omega), hf j (by omega), Nat.xor_zero]

theorem okWide_array {w : World} {r : Reach} {base : Nat} {v : Value} (h : Value.okWide Try.prog w r base 22 v) : ∃ cs, v = .agg cs ∧ cs.size = Try.prog.cellsOf 22 := by
  simp only [Value.okWide, Try.underlying22] at h
  obtain ⟨cs, h1, h2, _⟩ := h
  exact ⟨cs, h1, h2⟩

theorem cells22 : Try.prog.cellsOf 22 = 16 := by kernel_rfl
theorem cells5 : Try.prog.cellsOf 5 = 1 := by kernel_rfl

theorem block_of {H : Type} {enc : TypeId × Value → H} {W : World} {r : Reach} {base : Nat} {v : Value} {d : DataW H} {p : List MemPlace} (hok : Value.okWide Try.prog W r base 22 v)
    (h : DataW.Trod enc Try.prog W 0 (fun _ => true) true 22 v d p) : ∃ N, N < 2 ^ 128 ∧ v = .agg (A16 N) := by
  obtain ⟨cs, rfl, hsz⟩ := okWide_array hok
  rw [cells22] at hsz
  obtain ⟨fuel, hf⟩ := h
  obtain ⟨xs, m, rfl, _, _, hl, hel⟩ := DataW.trod_array Try.underlying22 hf
  have each : ∀ i, i < 16 → ∃ z : Nat, z < 256 ∧ cs[i]? = some (.int .u8 (z : Int)) := by
    intro i hi
    have he := hel i hi
    have hi' : i < xs.length := by omega
    rw [List.getElem?_eq_getElem hi', cells5, Nat.mul_one] at he
    obtain ⟨z, hz, _, hwf⟩ := DataW.trod_int Try.underlying5 he
    have h0 : (List.take 1 (List.drop i (Value.agg cs).cells.toList))[0]? = some (.int .u8 z) := by rw [hz]; rfl
    rw [List.getElem?_take_of_lt (by decide), List.getElem?_drop] at h0
    have h1 : cs[i]? = some (.int .u8 z) := by simpa [Value.cells] using h0
    have hb := bounds_u8 hwf
    exact ⟨z.toNat, by omega, by rw [h1, Int.toNat_of_nonneg hb.1]⟩
  have hall : ∃ f : Nat → Nat, ∀ i, i < 16 → f i < 256 ∧ cs[i]? = some (.int .u8 (f i : Int)) := by
    classical
    refine ⟨fun i => if hi : i < 16 then (each i hi).choose else 0, fun i hi => ?_⟩
    simp only [hi, dif_pos]
    exact (each i hi).choose_spec
  obtain ⟨f, hfz⟩ := hall
  obtain ⟨N, hN, hb⟩ := number 16 (fun j => f (15 - j)) (fun j hj => (hfz _ (by omega)).1)
  refine ⟨N, hN, ?_⟩
  congr 1
  apply Array.ext_getElem?
  intro i
  by_cases hi : i < 16
  · rw [(hfz i hi).2, A16_get hi, hb (15 - i) (by omega), show 15 - (15 - i) = i from by omega]
  · rw [Array.getElem?_eq_none (by omega), Array.getElem?_eq_none (by have : (A16 N).size = 16 := F_size _ _; omega)]
end Go.Proofs.Qxb6626075a
