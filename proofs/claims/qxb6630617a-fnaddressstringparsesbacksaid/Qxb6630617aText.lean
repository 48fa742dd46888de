/-
  THE TEXT OF AN ADDRESS: plain lists of bytes: no Go in sight. Own work on this program.
-/
namespace Go.Proofs.Qxb6630617a

/-- The elements' texts, joined by single blanks: the first k of them. -/
def bodyTo (tg vl : Nat → List UInt8) : Nat → List UInt8
  | 0 => []
  | k + 1 => bodyTo tg vl k ++ ((if 0 < k then [32] else []) ++ (tg k ++ (58 :: vl k)))

def txt (tg vl : Nat → List UInt8) (n : Nat) : List UInt8 := 40 :: (bodyTo tg vl n ++ [41])

theorem bodyTo_succ (tg vl : Nat → List UInt8) (k : Nat) : bodyTo tg vl (k + 1) = bodyTo tg vl k ++ ((if 0 < k then [32] else []) ++ (tg k ++ (58 :: vl k))) := rfl

theorem bodyTo_mono (tg vl : Nat → List UInt8) {i k : Nat} (h : i ≤ k) : (bodyTo tg vl i).length ≤ (bodyTo tg vl k).length := by
  induction h with
  | refl => exact Nat.le_refl _
  | step _ ih => rw [bodyTo_succ, List.length_append]; omega

theorem bodyTo_congr {tg vl tg' vl' : Nat → List UInt8} {n : Nat} (h : ∀ i, i < n → tg i = tg' i ∧ vl i = vl' i) : bodyTo tg vl n = bodyTo tg' vl' n := by
  induction n with
  | zero => rfl
  | succ n ih => rw [bodyTo_succ, bodyTo_succ, ih (fun i hi => h i (by omega)), (h n (by omega)).1, (h n (by omega)).2]

/-- The separator between the two parts of a cut at k. -/
def sepAt (k n : Nat) : List UInt8 := if 0 < k ∧ k < n then [32] else []

theorem bodyTo_cut (tg vl : Nat → List UInt8) (k m : Nat) : bodyTo tg vl (k + m) = bodyTo tg vl k ++ (sepAt k (k + m) ++ bodyTo (fun i => tg (k + i)) (fun i => vl (k + i)) m) := by
  induction m with
  | zero => simp [sepAt, bodyTo]
  | succ m ih =>
    rw [show k + (m + 1) = (k + m) + 1 from by omega, bodyTo_succ, ih, bodyTo_succ]
    simp only [List.append_assoc]
    congr 1
    by_cases hm : m = 0
    · subst hm
      simp only [sepAt, bodyTo, Nat.add_zero, Nat.lt_irrefl, and_false, if_false, List.nil_append]
      by_cases hk : 0 < k
      · simp [hk]
      · simp [hk]
    · have h1 : (0 < k ∧ k < k + m) ↔ 0 < k := by omega
      have h2 : (0 < k ∧ k < k + m + 1) ↔ 0 < k := by omega
      have h3 : 0 < k + m := by omega
      have h4 : 0 < m := by omega
      simp only [sepAt, h1, h2, h3, h4, if_true]

/-- What the law reckons as the text's length. -/
def lenTo (tg vl : Nat → List UInt8) : Nat → Nat
  | 0 => 0
  | k + 1 => lenTo tg vl k + ((tg k).length + 1 + (vl k).length)

theorem bodyTo_length (tg vl : Nat → List UInt8) (n : Nat) : (bodyTo tg vl n).length = lenTo tg vl n + (n - 1) := by
  induction n with
  | zero => rfl
  | succ n ih =>
    rw [bodyTo_succ]
    simp only [List.length_append, List.length_cons, lenTo]
    by_cases hn : 0 < n
    · rw [if_pos hn]; simp only [List.length_cons, List.length_nil]; omega
    · rw [if_neg hn]; simp only [List.length_nil]; omega
theorem lenTo_mono (tg vl : Nat → List UInt8) {i k : Nat} (h : i ≤ k) : lenTo tg vl i ≤ lenTo tg vl k := by
  induction h with
  | refl => exact Nat.le_refl _
  | step _ ih => simp only [lenTo]; omega
theorem txt_length (tg vl : Nat → List UInt8) (n : Nat) : (txt tg vl n).length = 2 + lenTo tg vl n + (n - 1) := by
  simp only [txt, List.length_cons, List.length_append, bodyTo_length, List.length_nil]; omega

/-- THE LAW OF THE CUT. -/
theorem txt_cut (tg vl : Nat → List UInt8) (k m : Nat) : txt tg vl (k + m) = (txt tg vl k).dropLast ++ (sepAt k (k + m) ++ (txt (fun i => tg (k + i)) (fun i => vl (k + i)) m).tail) := by
  have e : (txt tg vl k).dropLast = 40 :: bodyTo tg vl k := by
    unfold txt
    rw [← List.cons_append, List.dropLast_concat]
  rw [e]
  unfold txt
  rw [bodyTo_cut]
  simp
end Go.Proofs.Qxb6630617a
