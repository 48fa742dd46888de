/-
  THE TEXT READ BACK: plain lists of bytes: no Go in sight. Own work on this program.
-/
import Derived.Test.Qxb6630617aText
namespace Go.Proofs.Qxb6630617a

/-- The text of one element. -/
def piece (t v : List UInt8) : List UInt8 := t ++ (58 :: v)

section
variable (tg vl : Nat → List UInt8)

/-- Where piece c begins and ends in the body. -/
def pos (c : Nat) : Nat := (bodyTo tg vl c).length + (if 0 < c then 1 else 0)
def fin (c : Nat) : Nat := (bodyTo tg vl (c + 1)).length

theorem pos_zero : pos tg vl 0 = 0 := rfl
theorem pos_succ (c : Nat) : pos tg vl (c + 1) = fin tg vl c + 1 := by simp [pos, fin]
theorem fin_eq (c : Nat) : fin tg vl c = pos tg vl c + ((tg c).length + 1 + (vl c).length) := by
  unfold fin pos
  rw [bodyTo_succ]
  simp only [List.length_append, List.length_cons]
  by_cases h : 0 < c
  · rw [if_pos h, if_pos h]; simp only [List.length_cons, List.length_nil]; omega
  · rw [if_neg h, if_neg h]; simp only [List.length_nil]; omega
theorem fin_le {c n : Nat} (h : c < n) : fin tg vl c ≤ (bodyTo tg vl n).length := bodyTo_mono tg vl h
theorem fin_last (n : Nat) : fin tg vl n = (bodyTo tg vl (n + 1)).length := rfl

theorem bodyTo_take {c n : Nat} (h : c < n) : (bodyTo tg vl n).take (fin tg vl c) = bodyTo tg vl (c + 1) := by
  obtain ⟨m, rfl⟩ : ∃ m, n = (c + 1) + m := ⟨n - (c + 1), by omega⟩
  rw [bodyTo_cut]
  unfold fin
  rw [List.take_left]

theorem bodyTo_piece {c n : Nat} (h : c < n) : ((bodyTo tg vl n).take (fin tg vl c)).drop (pos tg vl c) = piece (tg c) (vl c) := by
  rw [bodyTo_take tg vl h, bodyTo_succ, ← List.append_assoc]
  have hl : pos tg vl c = (bodyTo tg vl c ++ (if 0 < c then [32] else [])).length := by
    unfold pos
    by_cases h0 : 0 < c
    · simp [h0]
    · simp [h0]
  rw [hl, List.drop_left]
  rfl

theorem bodyTo_blank {c n : Nat} (h : c + 1 < n) : (bodyTo tg vl n)[fin tg vl c]? = some 32 := by
  obtain ⟨m, rfl⟩ : ∃ m, n = (c + 1) + m := ⟨n - (c + 1), by omega⟩
  rw [bodyTo_cut]
  unfold fin
  rw [List.getElem?_append_right (Nat.le_refl _), Nat.sub_self]
  have : sepAt (c + 1) (c + 1 + m) = [32] := by unfold sepAt; rw [if_pos (by omega)]
  rw [this]
  rfl

theorem bodyTo_inside {c n i : Nat} (h : c < n) (h1 : pos tg vl c ≤ i) (h2 : i < fin tg vl c) : ∃ x, (bodyTo tg vl n)[i]? = some x ∧ x ∈ piece (tg c) (vl c) := by
  have hp := bodyTo_piece tg vl h
  have hf := fin_le tg vl h
  have hi : i < (bodyTo tg vl n).length := by omega
  refine ⟨(bodyTo tg vl n)[i], List.getElem?_eq_getElem hi, ?_⟩
  rw [← hp]
  rw [List.mem_iff_getElem?]
  refine ⟨i - pos tg vl c, ?_⟩
  rw [List.getElem?_drop, List.getElem?_take, if_pos (by omega), show pos tg vl c + (i - pos tg vl c) = i from by omega]
  exact List.getElem?_eq_getElem hi
end

/-- A piece of a valid element holds no blank. -/
theorem piece_noblank {t v : List UInt8} (ht : ∀ x ∈ t, 65 ≤ x.toNat) (hv : ∀ x ∈ v, 33 ≤ x.toNat) : ∀ x ∈ piece t v, x ≠ 32 := by
  intro x hx he
  subst he
  simp only [piece, List.mem_append, List.mem_cons] at hx
  rcases hx with hx | hx | hx
  · exact absurd (ht _ hx) (by decide)
  · exact absurd hx (by decide)
  · exact absurd (hv _ hx) (by decide)
theorem bodyTo_pos (tg vl : Nat → List UInt8) {n : Nat} (h : 0 < n) : 0 < (bodyTo tg vl n).length := by
  have h1 := fin_le tg vl (show 0 < n from h)
  have h2 := fin_eq tg vl 0
  omega
end Go.Proofs.Qxb6630617a
