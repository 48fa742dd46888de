/-
  HOW A []Elem THAT CAME IN READS: its strings' cells. Own work on this program.
-/
import Derived.Test.Qxb6630617aWalks
import Derived.ProofKit
import Derived.OpenShut
import Derived.Deep.SlicePairs
namespace Go.Proofs.Qxb6630617a
open Go.ChangeShapes Go.WideShapes Go.ChangeAt Go.RowKit

theorem own : ownKnob Try.prog.godebug = none := by kernel_rfl
theorem laidOut : laidOutB Try.prog = true := by kernel_rfl

/-- A family out of 'for every i there is one'. -/
theorem pick {α : Type} [Inhabited α] {n : Nat} {p : Nat → α → Prop} (h : ∀ i, i < n → ∃ x, p i x) : ∃ f : Nat → α, ∀ i, i < n → p i (f i) := by
  classical
  refine ⟨fun i => if hi : i < n then (h i hi).choose else default, fun i hi => ?_⟩
  simp only [hi, dif_pos]
  exact (h i hi).choose_spec

theorem elems_of {H : Type} {enc : TypeId × Value → H} {W : World} {a : Option Addr} {len cap : Nat} {d : DataW H} {p : List MemPlace}
    (h : DataW.Trod enc Try.prog W 0 (fun _ => true) true 22 (.slice a len cap) d p) : ∃ tg vl, ElemsIn W a len tg vl := by
  obtain ⟨fuel, hf⟩ := h
  rcases Go.Deep.open_slice_pairs Try.underlying22 Try.underlying25 (by kernel_rfl) rfl rfl (by kernel_rfl) (by kernel_rfl) hf with ⟨hcs, _⟩ | ⟨x, l, c, m, n, V0, V1, D0, D1, P0, P1, hcs, _, hl, hm, hmm, _, hx⟩
  · simp [Value.cells] at hcs
    obtain ⟨rfl, rfl, rfl⟩ := hcs
    exact ⟨fun _ => ByteArray.empty, fun _ => ByteArray.empty, fun i hi => absurd hi (Nat.not_lt_zero _)⟩
  · simp [Value.cells] at hcs
    obtain ⟨rfl, rfl, rfl⟩ := hcs
    have hlm : len ≤ m := by rw [hmm]; simp; exact hl
    obtain ⟨b, o, spot⟩ := x
    by_cases h0 : len = 0
    · subst h0
      exact ⟨fun _ => ByteArray.empty, fun _ => ByteArray.empty, fun i hi => absurd hi (Nat.not_lt_zero _)⟩
    have hspot : spot = none := by simpa [Addr.add] using World.cell?_spot (hx 0 (by omega)).1
    subst hspot
    have each : ∀ i, i < len → ∃ q : ByteArray × ByteArray, W.cell? ⟨b, o + i * 2, none⟩ = some (.string q.1) ∧ W.cell? ⟨b, o + i * 2 + 1, none⟩ = some (.string q.2) := by
      intro i hi
      obtain ⟨e0, e1, t0, t1⟩ := hx i (by omega)
      obtain ⟨s0, q0, _, _⟩ := DataW.trod_string Try.underlying9 t0
      obtain ⟨s1, q1, _, _⟩ := DataW.trod_string Try.underlying9 t1
      simp only [List.cons.injEq, and_true] at q0 q1
      rw [add_plain, q0] at e0
      rw [add_plain, q1] at e1
      exact ⟨(s0, s1), e0, e1⟩
    obtain ⟨f, hf⟩ := pick each
    refine ⟨fun i => (f i).1, fun i => (f i).2, fun i hi => ⟨b, o, rfl, World.block_lt_of_cell? _ _ (hf i hi).1, (hf i hi).1, (hf i hi).2⟩⟩
end Go.Proofs.Qxb6630617a
