/-
  THE SECOND LAW: A LOG THAT GROWS BY APPEND, in memory; what keeps and what writes. No walk here but one use of EndAttempt's contracts. Own work on this program.
-/
import Derived.Test.Qxb6630566aLog
import Derived.Laws.AppendOwn
import Derived.Laws.OwnMore
namespace Go.Proofs.Qxb6630566a
open Go.RowKit

/-- Every block that holds neither attempts (29) nor the step (41) is as it was; so is all below B. -/
structure Keep (B : Nat) (w w' : World) : Prop where
  below : Below B w w'
  other : ∀ (b : Nat) (c : Array Value) (t : TypeId), w.heap[b]? = some (Obj.cells c t (0, 0)) → t ≠ 29 → t ≠ 41 → w'.heap[b]? = some (Obj.cells c t (0, 0))

theorem Keep.refl (B : Nat) (w : World) : Keep B w w := ⟨Below.refl _ _, fun _ _ _ h _ _ => h⟩
theorem Keep.trans {B : Nat} {a b c : World} (h : Keep B a b) (k : Keep B b c) : Keep B a c := ⟨h.below.trans k.below, fun x c t e h1 h2 => k.other x c t (h.other x c t e h1 h2) h1 h2⟩
theorem block_lt {w : World} {b : Nat} {o : Obj} (h : w.heap[b]? = some o) : b < w.heap.size := by
  obtain ⟨hlt, _⟩ := Array.getElem?_eq_some_iff.1 h; exact hlt
theorem Keep.of_below {B : Nat} {w w' : World} (h : Below w.heap.size w w') (hB : B ≤ w.heap.size) : Keep B w w' :=
  ⟨h.mono hB, fun b _ _ e _ _ => (h.block b (block_lt e)).trans e⟩
/-- A store into a block of attempts or into the step. -/
theorem Keep.setCell {B g o : Nat} {w : World} {cur : Array Value} {t : TypeId} (hg : w.heap[g]? = some (.cells cur t (0, 0))) (ht : t = 29 ∨ t = 41) (hB : B ≤ g) (v : Value) : Keep B w (w.setCell ⟨g, o, none⟩ v) := by
  refine ⟨(Below.refl _ _).setCell hB v, fun b c t' e h1 h2 => ?_⟩
  have hne : b ≠ g := by
    intro hbg
    subst hbg
    rw [hg] at e
    simp only [Option.some.injEq, Obj.cells.injEq] at e
    obtain ⟨_, e2, _⟩ := e
    rcases ht with ht | ht
    · exact h1 (e2.symm.trans ht)
    · exact h2 (e2.symm.trans ht)
  rw [Below.heap_setCell _ _ _ _ hne]
  exact e

/-- A log with room: n attempts of cap, at block g. -/
def LogC (w : World) (g n cap : Nat) (ex fi : Nat → Option Addr) (er : Nat → ByteArray) : Prop :=
  n ≤ cap ∧ cap ≤ maxLen ∧ ∃ f, w.rowIs g 29 (cap * 6) f ∧ ∀ i, i < n → Att f i (ex i) (fi i) (er i) oS

/-- The log behind the slice value v. -/
def LogV (w : World) (B : Nat) (v : Value) (n : Nat) (ex fi : Nat → Option Addr) (er : Nat → ByteArray) : Prop :=
  (v = .slice none 0 0 ∧ n = 0) ∨ ∃ g cap, v = .slice (some ⟨g, 0, none⟩) n cap ∧ B ≤ g ∧ LogC w g n cap ex fi er

theorem LogC.cells {w : World} {g n cap : Nat} {ex fi : Nat → Option Addr} {er : Nat → ByteArray} (h : LogC w g n cap ex fi er) {i : Nat} (hi : i < n) :
    w.cell? ⟨g, i * 6, none⟩ = some (.pointer (ex i)) ∧ w.cell? ⟨g, i * 6 + 1, none⟩ = some (.pointer none) ∧ w.cell? ⟨g, i * 6 + 2, none⟩ = some (.pointer (fi i)) ∧
    w.cell? ⟨g, i * 6 + 3, none⟩ = some (.string (er i)) ∧ w.cell? ⟨g, i * 6 + 4, none⟩ = some (.string oS) ∧ w.cell? ⟨g, i * 6 + 5, none⟩ = some (.string emptyS) := by
  obtain ⟨hc, _, f, hr, ha⟩ := h
  obtain ⟨a0, a1, a2, a3, a4, a5⟩ := ha i hi
  refine ⟨?_, ?_, ?_, ?_, ?_, ?_⟩
  · rw [hr.cell (by omega), a0]
  · rw [hr.cell (by omega), a1]
  · rw [hr.cell (by omega), a2]
  · rw [hr.cell (by omega), a3]
  · rw [hr.cell (by omega), a4]
  · rw [hr.cell (by omega), a5]
theorem LogC.frozen {w : World} {g n cap : Nat} {ex fi : Nat → Option Addr} {er : Nat → ByteArray} (h : LogC w g n cap ex fi er) (o : Nat) : w.frozen? ⟨g, o, none⟩ = false := by
  obtain ⟨_, _, f, hr, _⟩ := h; exact hr.frozen o
theorem LogC.lt {w : World} {g n cap : Nat} {ex fi : Nat → Option Addr} {er : Nat → ByteArray} (h : LogC w g n cap ex fi er) : g < w.heap.size := by
  obtain ⟨_, _, f, hr, _⟩ := h; exact hr.lt
theorem LogC.block {w : World} {g n cap : Nat} {ex fi : Nat → Option Addr} {er : Nat → ByteArray} (h : LogC w g n cap ex fi er) : ∃ cur, w.heap[g]? = some (.cells cur 29 (0, 0)) := by
  obtain ⟨_, _, f, ⟨c, hc, _⟩, _⟩ := h; exact ⟨c, hc⟩
theorem LogC.same {w w' : World} {g n cap : Nat} {ex fi : Nat → Option Addr} {er : Nat → ByteArray} (h : LogC w g n cap ex fi er) (e : w'.heap[g]? = w.heap[g]?) : LogC w' g n cap ex fi er := by
  obtain ⟨h1, h2, f, hr, ha⟩ := h; exact ⟨h1, h2, f, hr.of_block e, ha⟩
theorem LogV.same {w w' : World} {B n : Nat} {v : Value} {ex fi : Nat → Option Addr} {er : Nat → ByteArray} (h : LogV w B v n ex fi er) (e : ∀ g n cap, v = .slice (some ⟨g, 0, none⟩) n cap → w'.heap[g]? = w.heap[g]?) : LogV w' B v n ex fi er := by
  rcases h with h | ⟨g, cap, hv, hB, hL⟩
  · exact .inl h
  · exact .inr ⟨g, cap, hv, hB, hL.same (e g n cap hv)⟩
theorem LogV.below {w w' : World} {B n : Nat} {v : Value} {ex fi : Nat → Option Addr} {er : Nat → ByteArray} (h : LogV w B v n ex fi er) (hb : Below w.heap.size w w') : LogV w' B v n ex fi er := by
  rcases h with h | ⟨g, cap, hv, hB, hL⟩
  · exact .inl h
  · exact .inr ⟨g, cap, hv, hB, hL.same (hb.block g hL.lt)⟩

section
variable {w : World} {g n cap : Nat} {ex fi : Nat → Option Addr} {er : Nat → ByteArray}
theorem LogC.setEx (h : LogC w g n cap ex fi er) (k : Nat) (p : Option Addr) : LogC (w.setCell ⟨g, k * 6, none⟩ (.pointer p)) g n cap (upd ex k p) fi er := by
  obtain ⟨h1, h2, f, hr, ha⟩ := h
  refine ⟨h1, h2, _, hr.set (k * 6) (.pointer p), fun i hi => ?_⟩
  by_cases hik : i = k
  · subst hik
    obtain ⟨a0, a1, a2, a3, a4, a5⟩ := ha i hi
    rw [upd_same]
    exact ⟨by simp, ifn (by omega) a1, ifn (by omega) a2, ifn (by omega) a3, ifn (by omega) a4, ifn (by omega) a5⟩
  · rw [upd_other _ _ _ hik]; exact (ha i hi).set (j := 0) (k := k) _ (by omega) hik
theorem LogC.setFi (h : LogC w g n cap ex fi er) (k : Nat) (p : Option Addr) : LogC (w.setCell ⟨g, k * 6 + 2, none⟩ (.pointer p)) g n cap ex (upd fi k p) er := by
  obtain ⟨h1, h2, f, hr, ha⟩ := h
  refine ⟨h1, h2, _, hr.set (k * 6 + 2) (.pointer p), fun i hi => ?_⟩
  by_cases hik : i = k
  · subst hik
    obtain ⟨a0, a1, a2, a3, a4, a5⟩ := ha i hi
    rw [upd_same]
    exact ⟨ifn (by omega) a0, ifn (by omega) a1, by simp, ifn (by omega) a3, ifn (by omega) a4, ifn (by omega) a5⟩
  · rw [upd_other _ _ _ hik]; exact (ha i hi).set (j := 2) (k := k) _ (by omega) hik
theorem LogC.setEr (h : LogC w g n cap ex fi er) (k : Nat) (s : ByteArray) : LogC (w.setCell ⟨g, k * 6 + 3, none⟩ (.string s)) g n cap ex fi (upd er k s) := by
  obtain ⟨h1, h2, f, hr, ha⟩ := h
  refine ⟨h1, h2, _, hr.set (k * 6 + 3) (.string s), fun i hi => ?_⟩
  by_cases hik : i = k
  · subst hik
    obtain ⟨a0, a1, a2, a3, a4, a5⟩ := ha i hi
    rw [upd_same]
    exact ⟨ifn (by omega) a0, ifn (by omega) a1, ifn (by omega) a2, by simp, ifn (by omega) a4, ifn (by omega) a5⟩
  · rw [upd_other _ _ _ hik]; exact (ha i hi).set (j := 3) (k := k) _ (by omega) hik
end

/-- From the log to 'ownsRow', and back behind the append of one fresh attempt. -/
def attNew : List Value := [.pointer none, .pointer none, .pointer none, .string emptyS, .string oS, .string emptyS]

theorem LogV.owns {w : World} {B : Nat} {v : Value} {n : Nat} {ex fi : Nat → Option Addr} {er : Nat → ByteArray} (h : LogV w B v n ex fi er) :
    ∃ xs, w.ownsRow B 29 6 v n xs ∧ ∀ i, i < n → Att (fun j => xs.getD j (.pointer none)) i (ex i) (fi i) (er i) oS := by
  rcases h with ⟨hv, hn⟩ | ⟨g, cap, hv, hB, h1, h2, f, ⟨cur, hcur, hsz, hf⟩, ha⟩
  · subst hn
    exact ⟨[], ⟨rfl, .inl ⟨hv, rfl⟩⟩, fun i hi => absurd hi (Nat.not_lt_zero _)⟩
  · refine ⟨cur.toList.take (n * 6), ⟨?_, .inr ⟨g, cap, cur, hv, hB, hcur, h1, h2, hsz, rfl⟩⟩, fun i hi => ?_⟩
    · rw [List.length_take]; simp only [Array.length_toList]; omega
    · have key : ∀ j, j < n * 6 → (cur.toList.take (n * 6)).getD j (.pointer none) = f j := by
        intro j hj
        have := hf j (by omega)
        rw [List.getD_eq_getElem?_getD, List.getElem?_take, if_pos hj, Array.getElem?_toList, this]
        rfl
      obtain ⟨a0, a1, a2, a3, a4, a5⟩ := ha i hi
      exact ⟨(key _ (by omega)).trans a0, (key _ (by omega)).trans a1, (key _ (by omega)).trans a2, (key _ (by omega)).trans a3, (key _ (by omega)).trans a4, (key _ (by omega)).trans a5⟩

theorem LogV.appended {w' : World} {B : Nat} {v' : Value} {n : Nat} {ex fi : Nat → Option Addr} {er : Nat → ByteArray} {xs : List Value} (hl : xs.length = n * 6)
    (ha : ∀ i, i < n → Att (fun j => xs.getD j (.pointer none)) i (ex i) (fi i) (er i) oS) (ho : w'.ownsRow B 29 6 v' (n + 1) (xs ++ attNew)) :
    ∃ g cap, v' = .slice (some ⟨g, 0, none⟩) (n + 1) cap ∧ B ≤ g ∧ LogC w' g (n + 1) cap (upd ex n none) (upd fi n none) (upd er n emptyS) := by
  obtain ⟨_, ⟨_, h0⟩ | ⟨g, cap, cur, hv, hB, hcur, h1, h2, hsz, htake⟩⟩ := ho
  · omega
  refine ⟨g, cap, hv, hB, h1, h2, fun j => cur.toList.getD j (.pointer none), ⟨cur, hcur, hsz, fun i hi => ?_⟩, fun i hi => ?_⟩
  · show cur[i]? = some (cur.toList.getD i (.pointer none))
    rw [List.getD_eq_getElem?_getD, Array.getElem?_toList]
    have : i < cur.size := by omega
    simp [this]
  have key : ∀ j, j < (n + 1) * 6 → cur.toList.getD j (.pointer none) = (xs ++ attNew).getD j (.pointer none) := by
    intro j hj
    rw [← htake, List.getD_eq_getElem?_getD, List.getD_eq_getElem?_getD, List.getElem?_take, if_pos hj]
  by_cases hin : i = n
  · subst hin
    rw [upd_same, upd_same, upd_same]
    have kk : ∀ j, j < 6 → cur.toList.getD (i * 6 + j) (.pointer none) = attNew.getD j (.pointer none) := by
      intro j hj
      rw [key _ (by omega), List.getD_eq_getElem?_getD, List.getElem?_append_right (by omega), hl, List.getD_eq_getElem?_getD]
      congr 2; omega
    exact ⟨kk 0 (by omega), kk 1 (by omega), kk 2 (by omega), kk 3 (by omega), kk 4 (by omega), kk 5 (by omega)⟩
  · have hlt : i < n := by omega
    rw [upd_other _ _ _ hin, upd_other _ _ _ hin, upd_other _ _ _ hin]
    have kk : ∀ j, j < n * 6 → cur.toList.getD j (.pointer none) = xs.getD j (.pointer none) := by
      intro j hj
      rw [key _ (by omega), List.getD_eq_getElem?_getD, List.getElem?_append_left (by omega), List.getD_eq_getElem?_getD]
    obtain ⟨a0, a1, a2, a3, a4, a5⟩ := ha i hlt
    exact ⟨(kk _ (by omega)).trans a0, (kk _ (by omega)).trans a1, (kk _ (by omega)).trans a2, (kk _ (by omega)).trans a3, (kk _ (by omega)).trans a4, (kk _ (by omega)).trans a5⟩
end Go.Proofs.Qxb6630566a
