/-
  THE PLAIN LAW: doubling in GF(2^128), no Go in sight. A block of 16 octets is a number below 2^128, the last octet the lowest. Own work on this program.
-/
namespace Go.Proofs.Qxb6626075a

def byteAt (N j : Nat) : Nat := (N >>> (8 * j)) % 256
theorem byteAt_lt (N j : Nat) : byteAt N j < 256 := Nat.mod_lt _ (by decide)
theorem byteAt_bit (N j k : Nat) : (byteAt N j).testBit k = (decide (k < 8) && N.testBit (8 * j + k)) := by
  unfold byteAt
  rw [show (256 : Nat) = 2 ^ 8 from rfl, Nat.testBit_mod_two_pow, Nat.testBit_shiftRight]
theorem byteAt_xor (a b j : Nat) : byteAt (a ^^^ b) j = byteAt a j ^^^ byteAt b j := by
  apply Nat.eq_of_testBit_eq
  intro k
  rw [Nat.testBit_xor, byteAt_bit, byteAt_bit, byteAt_bit, Nat.testBit_xor]
  cases decide (k < 8) <;> simp
theorem byteAt_pow (t j : Nat) : byteAt (2 ^ t) j = if j = t / 8 then 2 ^ (t % 8) else 0 := by
  apply Nat.eq_of_testBit_eq
  intro k
  rw [byteAt_bit, Nat.testBit_two_pow]
  split
  · rw [Nat.testBit_two_pow]
    by_cases h : k < 8
    · simp only [h, decide_true, Bool.true_and]
      exact decide_eq_decide.2 (by omega)
    · simp only [h, decide_false, Bool.false_and]
      exact (decide_eq_false (by omega)).symm
  · rw [Nat.zero_testBit]
    by_cases h : k < 8
    · simp only [h, decide_true, Bool.true_and]
      exact decide_eq_false (by omega)
    · simp only [h, decide_false, Bool.false_and]
theorem byteAt_toggle (P t j : Nat) : byteAt (P ^^^ 2 ^ t) j = if j = t / 8 then byteAt P j ^^^ 2 ^ (t % 8) else byteAt P j := by
  rw [byteAt_xor, byteAt_pow]
  split
  · rfl
  · exact Nat.xor_zero _
theorem pow8_lt (t : Nat) : 2 ^ (t % 8) < 256 := by
  have : 2 ^ (t % 8) < 2 ^ 8 := Nat.pow_lt_pow_right (by decide) (Nat.mod_lt _ (by decide))
  exact this

theorem two_bit (x k : Nat) : ((x * 2) % 256).testBit k = (decide (k < 8) && (decide (1 ≤ k) && x.testBit (k - 1))) := by
  rw [show (256 : Nat) = 2 ^ 8 from rfl, Nat.testBit_mod_two_pow, show x * 2 = x * 2 ^ 1 from rfl, ← Nat.shiftLeft_eq, Nat.testBit_shiftLeft]
theorem high_bit (x k : Nat) : (x / 128).testBit k = x.testBit (7 + k) := by
  rw [show (128 : Nat) = 2 ^ 7 from rfl, ← Nat.shiftRight_eq_div_pow, Nat.testBit_shiftRight]

/-- Doubling. -/
def dbl (N : Nat) : Nat := ((N <<< 1) % 2 ^ 128) ^^^ (if N.testBit 127 then 135 else 0)
theorem shl1_bit (N m : Nat) : ((N <<< 1) % 2 ^ 128).testBit m = (decide (m < 128) && (decide (1 ≤ m) && N.testBit (m - 1))) := by
  rw [Nat.testBit_mod_two_pow, Nat.testBit_shiftLeft]
theorem dbl_lt (N : Nat) : dbl N < 2 ^ 128 := by
  unfold dbl
  apply Nat.xor_lt_two_pow
  · exact Nat.mod_lt _ (by decide)
  · split <;> decide

theorem byteAt_shl_hi (N j : Nat) (h0 : 0 < j) (h16 : j < 16) : byteAt ((N <<< 1) % 2 ^ 128) j = ((byteAt N j * 2) % 256 ||| byteAt N (j - 1) / 128) := by
  apply Nat.eq_of_testBit_eq
  intro k
  rw [Nat.testBit_or, byteAt_bit, shl1_bit, two_bit, high_bit, byteAt_bit, byteAt_bit]
  by_cases hk : k < 8
  · have e1 : 8 * j + k < 128 := by omega
    have e2 : 1 ≤ 8 * j + k := by omega
    by_cases hk0 : k = 0
    · subst hk0
      have e3 : 8 * (j - 1) + (7 + 0) = 8 * j + 0 - 1 := by omega
      rw [e3, decide_eq_true e1, decide_eq_true e2]
      simp
    · have e4 : 1 ≤ k := by omega
      have e5 : k - 1 < 8 := by omega
      have e6 : ¬ 7 + k < 8 := by omega
      have e7 : 8 * j + (k - 1) = 8 * j + k - 1 := by omega
      rw [e7]
      simp [hk, e1, e2, e4, e5, e6]
  · have e6 : ¬ 7 + k < 8 := by omega
    simp [hk, e6]
theorem byteAt_shl_lo (N : Nat) : byteAt ((N <<< 1) % 2 ^ 128) 0 = (byteAt N 0 * 2) % 256 := by
  apply Nat.eq_of_testBit_eq
  intro k
  rw [byteAt_bit, shl1_bit, two_bit, byteAt_bit]
  by_cases hk : k < 8
  · have e1 : 8 * 0 + k < 128 := by omega
    have e5 : k - 1 < 8 := by omega
    simp [hk, e5]
    intro h; omega
  · simp [hk]
theorem byteAt_small (x j : Nat) (hx : x < 256) (hj : 0 < j) : byteAt x j = 0 := by
  unfold byteAt
  rw [Nat.shiftRight_eq_div_pow, Nat.div_eq_of_lt]
  exact Nat.lt_of_lt_of_le hx (by rw [show (256 : Nat) = 2 ^ 8 from rfl]; exact Nat.pow_le_pow_right (by decide) (by omega))
theorem byteAt_zero (x : Nat) (hx : x < 256) : byteAt x 0 = x := by
  unfold byteAt
  simp [Nat.mod_eq_of_lt hx]
theorem byteAt_none (j : Nat) : byteAt 0 j = 0 := by simp [byteAt]

theorem byteAt_dbl_hi (N j : Nat) (h0 : 0 < j) (h16 : j < 16) : byteAt (dbl N) j = ((byteAt N j * 2) % 256 ||| byteAt N (j - 1) / 128) := by
  unfold dbl
  rw [byteAt_xor, byteAt_shl_hi N j h0 h16, byteAt_small (if N.testBit 127 then 135 else 0) j (by split <;> decide) h0, Nat.xor_zero]
theorem byteAt_dbl_lo (N : Nat) : byteAt (dbl N) 0 = if N.testBit 127 then ((byteAt N 0 * 2) % 256) ^^^ 135 else (byteAt N 0 * 2) % 256 := by
  unfold dbl
  rw [byteAt_xor, byteAt_shl_lo]
  split
  · rw [byteAt_zero 135 (by decide)]
  · rw [byteAt_none, Nat.xor_zero]

/-- The top bit, as the Go text asks it. -/
theorem top_bit (N : Nat) : byteAt N 15 &&& 128 = if N.testBit 127 then 128 else 0 := by
  apply Nat.eq_of_testBit_eq
  intro k
  rw [Nat.testBit_and, byteAt_bit, show (128 : Nat) = 2 ^ 7 from rfl, Nat.testBit_two_pow]
  by_cases hk : 7 = k
  · subst hk
    cases N.testBit 127 <;> decide
  · rw [decide_eq_false hk, Bool.and_false]
    split
    · rw [Nat.testBit_two_pow, decide_eq_false hk]
    · rw [Nat.zero_testBit]
/-- One bit, as the Go text asks it. -/
theorem one_bit (N i : Nat) : (byteAt N (i / 8) / 2 ^ (i % 8)) % 2 = (N.testBit i).toNat := by
  rw [← Nat.toNat_testBit, byteAt_bit, decide_eq_true (Nat.mod_lt _ (by decide)), Bool.true_and, Nat.div_add_mod]

theorem dbl_xor (a b : Nat) : dbl (a ^^^ b) = dbl a ^^^ dbl b := by
  apply Nat.eq_of_testBit_eq
  intro m
  unfold dbl
  simp only [Nat.testBit_xor, shl1_bit]
  cases a.testBit 127 <;> cases b.testBit 127 <;> cases decide (m < 128) <;> cases decide (1 ≤ m) <;> cases a.testBit (m - 1) <;> cases b.testBit (m - 1) <;> simp

/-- The product's rows. -/
def rowTo (M i : Nat) : Nat → Nat
  | 0 => 0
  | j + 1 => if M.testBit j then rowTo M i j ^^^ 2 ^ (i + j) else rowTo M i j
def mulTo (N M : Nat) : Nat → Nat
  | 0 => 0
  | i + 1 => if N.testBit i then mulTo N M i ^^^ rowTo M i 128 else mulTo N M i

theorem mod_succ (M j : Nat) : M % 2 ^ (j + 1) = if M.testBit j then M % 2 ^ j ^^^ 2 ^ j else M % 2 ^ j := by
  apply Nat.eq_of_testBit_eq
  intro m
  by_cases h : M.testBit j = true
  · rw [if_pos h, Nat.testBit_xor, Nat.testBit_mod_two_pow, Nat.testBit_mod_two_pow, Nat.testBit_two_pow]
    by_cases h1 : m < j
    · have h2 : m < j + 1 := by omega
      have h3 : ¬ j = m := by omega
      simp [h1, h2, h3]
    · by_cases h2 : m = j
      · subst h2; simp [h]
      · have h3 : ¬ m < j + 1 := by omega
        have h4 : ¬ j = m := by omega
        simp [h1, h3, h4]
  · rw [if_neg h, Nat.testBit_mod_two_pow, Nat.testBit_mod_two_pow]
    by_cases h1 : m < j
    · have h2 : m < j + 1 := by omega
      simp [h1, h2]
    · by_cases h2 : m = j
      · subst h2; simp at h; simp [h]
      · have h3 : ¬ m < j + 1 := by omega
        simp [h1, h3]
theorem pow_shl (a b : Nat) : 2 ^ (a + b) = 2 ^ b <<< a := by rw [Nat.shiftLeft_eq, ← Nat.pow_add, Nat.add_comm]
theorem rowTo_eq (M i j : Nat) : rowTo M i j = (M % 2 ^ j) <<< i := by
  induction j with
  | zero => simp [rowTo, Nat.mod_one]
  | succ j ih =>
    rw [rowTo, mod_succ]
    split
    · rw [Nat.shiftLeft_xor_distrib, ih, pow_shl]
    · exact ih
theorem mulTo_pow (N k : Nat) (hk : k < 128) (i : Nat) : mulTo N (2 ^ k) i = (N % 2 ^ i) <<< k := by
  have hm : (2 : Nat) ^ k % 2 ^ 128 = 2 ^ k := Nat.mod_eq_of_lt (Nat.pow_lt_pow_right (by decide) hk)
  induction i with
  | zero => simp [mulTo, Nat.mod_one]
  | succ i ih =>
    rw [mulTo, mod_succ]
    split
    · rw [Nat.shiftLeft_xor_distrib, ih, rowTo_eq, hm, ← pow_shl, ← pow_shl, Nat.add_comm]
    · exact ih

/-- One step of the reduction, in the Go text's order. -/
def redStep (t P : Nat) : Nat := if P.testBit t then ((((P ^^^ 2 ^ t) ^^^ 2 ^ (t - 121)) ^^^ 2 ^ (t - 126)) ^^^ 2 ^ (t - 127)) ^^^ 2 ^ (t - 128) else P
/-- The n lowest steps, the highest of them first. -/
def redDown : Nat → Nat → Nat
  | 0, P => P
  | n + 1, P => redDown n (redStep (128 + n) P)

def dblPow : Nat → Nat → Nat
  | 0, v => v
  | k + 1, v => dbl (dblPow k v)
theorem dblPow_lt {v : Nat} (hv : v < 2 ^ 128) (k : Nat) : dblPow k v < 2 ^ 128 := by
  cases k with
  | zero => exact hv
  | succ k => exact dbl_lt _
theorem dblPow_in (k v : Nat) : dblPow (k + 1) v = dblPow k (dbl v) := by
  induction k with
  | zero => rfl
  | succ k ih => rw [dblPow, ih]; rfl

theorem dbl_eq {v : Nat} (hv : v < 2 ^ 128) : dbl v = if v.testBit 127 then v <<< 1 ^^^ 2 ^ 128 ^^^ 2 ^ 7 ^^^ 2 ^ 2 ^^^ 2 ^ 1 ^^^ 2 ^ 0 else v <<< 1 := by
  have key : (v <<< 1) % 2 ^ 128 = if v.testBit 127 then v <<< 1 ^^^ 2 ^ 128 else v <<< 1 := by
    have h := mod_succ (v <<< 1) 128
    have hlt : v <<< 1 < 2 ^ (128 + 1) := by rw [Nat.shiftLeft_eq]; omega
    rw [Nat.mod_eq_of_lt hlt, Nat.testBit_shiftLeft] at h
    simp only [ge_iff_le, show (1 : Nat) ≤ 128 from by decide, decide_true, Bool.true_and, show 128 - 1 = 127 from rfl] at h
    by_cases hb : v.testBit 127 = true
    · rw [if_pos hb] at h ⊢
      rw [h, Nat.xor_assoc, Nat.xor_self, Nat.xor_zero, ← h]
    · rw [if_neg hb] at h ⊢
      exact h.symm
  unfold dbl
  rw [key]
  split
  · rw [show (135 : Nat) = 2 ^ 7 ^^^ (2 ^ 2 ^^^ (2 ^ 1 ^^^ 2 ^ 0)) from by decide]
    simp only [Nat.xor_assoc]
  · exact Nat.xor_zero _

theorem redStep_shl {v : Nat} (hv : v < 2 ^ 128) (k : Nat) : redStep (128 + k) (v <<< (k + 1)) = dbl v <<< k := by
  have hb : (v <<< (k + 1)).testBit (128 + k) = v.testBit 127 := by
    rw [Nat.testBit_shiftLeft, decide_eq_true (by omega), Bool.true_and, show 128 + k - (k + 1) = 127 from by omega]
  unfold redStep
  rw [hb, dbl_eq hv]
  split
  · rw [show 128 + k - 121 = k + 7 from by omega, show 128 + k - 126 = k + 2 from by omega, show 128 + k - 127 = k + 1 from by omega, show 128 + k - 128 = k + 0 from by omega, Nat.add_comm 128 k]
    simp only [Nat.shiftLeft_xor_distrib, pow_shl]
    rw [← Nat.shiftLeft_add, Nat.add_comm 1 k]
  · rw [← Nat.shiftLeft_add, Nat.add_comm 1 k]

theorem redDown_shl (k : Nat) : ∀ {v : Nat}, v < 2 ^ 128 → redDown k (v <<< k) = dblPow k v := by
  induction k with
  | zero => intro v _; simp [redDown, dblPow]
  | succ k ih =>
    intro v hv
    rw [redDown, redStep_shl hv, ih (dbl_lt v), dblPow_in]
theorem redDown_more (n m : Nat) {P : Nat} (hP : P < 2 ^ (128 + n)) : redDown (n + m) P = redDown n P := by
  induction m with
  | zero => rfl
  | succ m ih =>
    rw [← Nat.add_assoc, redDown]
    have : redStep (128 + (n + m)) P = P := by
      unfold redStep
      rw [Nat.testBit_lt_two_pow (Nat.lt_of_lt_of_le hP (Nat.pow_le_pow_right (by decide) (by omega)))]
      rfl
    rw [this, ih]

/-- v times x^k, as the Go text reckons it, is v doubled k times. -/
theorem times_pow {v : Nat} (hv : v < 2 ^ 128) (k : Nat) (hk : k < 128) : redDown 127 (mulTo v (2 ^ k) 128) = dblPow k v := by
  rw [mulTo_pow v k hk, Nat.mod_eq_of_lt hv]
  have hlt : v <<< k < 2 ^ (128 + k) := by
    rw [Nat.shiftLeft_eq, Nat.pow_add]
    exact Nat.mul_lt_mul_of_pos_right hv (Nat.two_pow_pos k)
  have := redDown_more k (127 - k) hlt
  rw [show k + (127 - k) = 127 from by omega] at this
  rw [this, redDown_shl k hv]
end Go.Proofs.Qxb6626075a
