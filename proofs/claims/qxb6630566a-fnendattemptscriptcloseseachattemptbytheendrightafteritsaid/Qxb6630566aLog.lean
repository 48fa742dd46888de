/-
  THE LOG IN MEMORY: a row of n attempts, six cells each, and what stands behind its pointers. No walk here. Own work on this program.
-/
import Derived.Test.Qxb6630566aCallees
import Derived.Deep.OwnRows
namespace Go.Proofs.Qxb6630566a
open Go.RowKit

def emptyS : ByteArray := ⟨#[]⟩
def oS : ByteArray := ⟨#[111]⟩
def attZero : Array Value := #[.pointer none, .pointer none, .pointer none, .string emptyS, .string emptyS, .string emptyS]

theorem Try.info29 : (Try.prog.info? 29).map (fun i => (i.zero, i.size, i.bytes)) = some (some (.agg attZero), 6, 72) := by kernel_rfl

/-- The block that 'make([]runs.Attempt, n)' lays, under a name. -/
def freshLog (n : Nat) : Obj := .cells (madeCells attZero (n * 6)) 29

theorem run_make_log (n : Nat) (hn : n ≤ 65536) (w : World) :
    (Instr.makeSlice 25 (.int .i64 (n : Int)) (.int .i64 (n : Int))).run Try.prog w = .ok (.slice (some ⟨w.heap.size, 0, none⟩) n n) (w.alloc (freshLog n)) := by
  obtain ⟨i, hi, hz, hs, hb⟩ := info_parts Try.info29
  have hr := run_make (P := Try.prog) w 25 29 i _ Try.underlying25 hi hz .i64 .i64 n n (by omega) (Int.le_refl _) (by rw [hb]; omega) (by omega)
  simp only [Int.toNat_natCast, hs] at hr
  exact hr

/-- One attempt's six cells, in the row's content f. -/
def Att (f : Nat → Value) (i : Nat) (ex fi : Option Addr) (er so : ByteArray) : Prop :=
  f (i * 6) = .pointer ex ∧ f (i * 6 + 1) = .pointer none ∧ f (i * 6 + 2) = .pointer fi ∧ f (i * 6 + 3) = .string er ∧ f (i * 6 + 4) = .string so ∧ f (i * 6 + 5) = .string emptyS

/-- The log: n attempts at block lb. -/
def LogIs (w : World) (lb n : Nat) (ex fi : Nat → Option Addr) (er so : Nat → ByteArray) : Prop :=
  ∃ f, w.rowIs lb 29 (n * 6) f ∧ ∀ i, i < n → Att f i (ex i) (fi i) (er i) (so i)

theorem LogIs.cells {w : World} {lb n : Nat} {ex fi : Nat → Option Addr} {er so : Nat → ByteArray} (h : LogIs w lb n ex fi er so) {i : Nat} (hi : i < n) :
    w.cell? ⟨lb, i * 6, none⟩ = some (.pointer (ex i)) ∧ w.cell? ⟨lb, i * 6 + 1, none⟩ = some (.pointer none) ∧ w.cell? ⟨lb, i * 6 + 2, none⟩ = some (.pointer (fi i)) ∧
    w.cell? ⟨lb, i * 6 + 3, none⟩ = some (.string (er i)) ∧ w.cell? ⟨lb, i * 6 + 4, none⟩ = some (.string (so i)) ∧ w.cell? ⟨lb, i * 6 + 5, none⟩ = some (.string emptyS) := by
  obtain ⟨f, hr, ha⟩ := h
  obtain ⟨a0, a1, a2, a3, a4, a5⟩ := ha i hi
  refine ⟨?_, ?_, ?_, ?_, ?_, ?_⟩
  · rw [hr.cell (by omega), a0]
  · rw [hr.cell (by omega), a1]
  · rw [hr.cell (by omega), a2]
  · rw [hr.cell (by omega), a3]
  · rw [hr.cell (by omega), a4]
  · rw [hr.cell (by omega), a5]

theorem LogIs.frozen {w : World} {lb n : Nat} {ex fi : Nat → Option Addr} {er so : Nat → ByteArray} (h : LogIs w lb n ex fi er so) (o : Nat) : w.frozen? ⟨lb, o, none⟩ = false := by
  obtain ⟨f, hr, _⟩ := h; exact hr.frozen o

theorem LogIs.lt {w : World} {lb n : Nat} {ex fi : Nat → Option Addr} {er so : Nat → ByteArray} (h : LogIs w lb n ex fi er so) : lb < w.heap.size := by
  obtain ⟨f, hr, _⟩ := h; exact hr.lt

theorem LogIs.below {w w' : World} {lb n B : Nat} {ex fi : Nat → Option Addr} {er so : Nat → ByteArray} (h : LogIs w lb n ex fi er so) (hb : Below B w w') (hB : lb < B) : LogIs w' lb n ex fi er so := by
  obtain ⟨f, hr, ha⟩ := h; exact ⟨f, hr.of_block (hb.block _ hB), ha⟩

theorem LogIs.congr {w : World} {lb n : Nat} {ex fi ex' fi' : Nat → Option Addr} {er so er' so' : Nat → ByteArray} (h : LogIs w lb n ex fi er so)
    (e : ∀ i, i < n → ex i = ex' i ∧ fi i = fi' i ∧ er i = er' i ∧ so i = so' i) : LogIs w lb n ex' fi' er' so' := by
  obtain ⟨f, hr, ha⟩ := h
  refine ⟨f, hr, fun i hi => ?_⟩
  obtain ⟨e1, e2, e3, e4⟩ := e i hi
  rw [← e1, ← e2, ← e3, ← e4]; exact ha i hi

theorem LogIs.fresh (w : World) (n : Nat) : LogIs (w.alloc (freshLog n)) w.heap.size n (fun _ => none) (fun _ => none) (fun _ => emptyS) (fun _ => emptyS) := by
  refine ⟨fun j => attZero[j % 6]!, ⟨_, Go.Deep.blk_alloc_new _ _, size_madeCells _ _, fun i hi => ?_⟩, fun i hi => ?_⟩
  · have : attZero.size = 6 := rfl
    simp [madeCells, hi, this]
  · refine ⟨?_, ?_, ?_, ?_, ?_, ?_⟩
    · show attZero[(i * 6) % 6]! = _
      rw [show (i * 6) % 6 = 0 by omega]; rfl
    · show attZero[(i * 6 + 1) % 6]! = _
      rw [show (i * 6 + 1) % 6 = 1 by omega]; rfl
    · show attZero[(i * 6 + 2) % 6]! = _
      rw [show (i * 6 + 2) % 6 = 2 by omega]; rfl
    · show attZero[(i * 6 + 3) % 6]! = _
      rw [show (i * 6 + 3) % 6 = 3 by omega]; rfl
    · show attZero[(i * 6 + 4) % 6]! = _
      rw [show (i * 6 + 4) % 6 = 4 by omega]; rfl
    · show attZero[(i * 6 + 5) % 6]! = _
      rw [show (i * 6 + 5) % 6 = 5 by omega]; rfl

/-- Replace one value of a family. -/
def upd {α : Type} (f : Nat → α) (k : Nat) (v : α) : Nat → α := fun i => if i = k then v else f i
theorem upd_same {α : Type} (f : Nat → α) (k : Nat) (v : α) : upd f k v k = v := by simp [upd]
theorem upd_other {α : Type} (f : Nat → α) (k : Nat) (v : α) {i : Nat} (h : i ≠ k) : upd f k v i = f i := by simp [upd, h]

theorem ifn {c : Prop} [Decidable c] {x y z : Value} (h : ¬ c) (e : y = z) : (if c then x else y) = z := by rw [if_neg h]; exact e

theorem Att.set {f : Nat → Value} {k i j : Nat} {ex fi : Option Addr} {er so : ByteArray} (v : Value) (h : Att f i ex fi er so) (hj : j < 6) (hne : i ≠ k) : Att (fun x => if x = k * 6 + j then v else f x) i ex fi er so := by
  obtain ⟨a0, a1, a2, a3, a4, a5⟩ := h
  refine ⟨?_, ?_, ?_, ?_, ?_, ?_⟩
  · exact ifn (by omega) a0
  · exact ifn (by omega) a1
  · exact ifn (by omega) a2
  · exact ifn (by omega) a3
  · exact ifn (by omega) a4
  · exact ifn (by omega) a5

section
variable {w : World} {lb n : Nat} {ex fi : Nat → Option Addr} {er so : Nat → ByteArray}
/-- A store into the ExitCode of attempt k. -/
theorem LogIs.setEx (h : LogIs w lb n ex fi er so) (k : Nat) (p : Option Addr) : LogIs (w.setCell ⟨lb, k * 6, none⟩ (.pointer p)) lb n (upd ex k p) fi er so := by
  obtain ⟨f, hr, ha⟩ := h
  refine ⟨_, hr.set (k * 6) (.pointer p), fun i hi => ?_⟩
  by_cases hik : i = k
  · subst hik
    obtain ⟨a0, a1, a2, a3, a4, a5⟩ := ha i hi
    rw [upd_same]
    refine ⟨by simp, ?_, ?_, ?_, ?_, ?_⟩
    · exact ifn (by omega) a1
    · exact ifn (by omega) a2
    · exact ifn (by omega) a3
    · exact ifn (by omega) a4
    · exact ifn (by omega) a5
  · rw [upd_other _ _ _ hik]; exact (ha i hi).set (j := 0) (k := k) _ (by omega) hik
theorem LogIs.setFi (h : LogIs w lb n ex fi er so) (k : Nat) (p : Option Addr) : LogIs (w.setCell ⟨lb, k * 6 + 2, none⟩ (.pointer p)) lb n ex (upd fi k p) er so := by
  obtain ⟨f, hr, ha⟩ := h
  refine ⟨_, hr.set (k * 6 + 2) (.pointer p), fun i hi => ?_⟩
  by_cases hik : i = k
  · subst hik
    obtain ⟨a0, a1, a2, a3, a4, a5⟩ := ha i hi
    rw [upd_same]
    refine ⟨?_, ?_, by simp, ?_, ?_, ?_⟩
    · exact ifn (by omega) a0
    · exact ifn (by omega) a1
    · exact ifn (by omega) a3
    · exact ifn (by omega) a4
    · exact ifn (by omega) a5
  · rw [upd_other _ _ _ hik]; exact (ha i hi).set (j := 2) (k := k) _ (by omega) hik
theorem LogIs.setEr (h : LogIs w lb n ex fi er so) (k : Nat) (s : ByteArray) : LogIs (w.setCell ⟨lb, k * 6 + 3, none⟩ (.string s)) lb n ex fi (upd er k s) so := by
  obtain ⟨f, hr, ha⟩ := h
  refine ⟨_, hr.set (k * 6 + 3) (.string s), fun i hi => ?_⟩
  by_cases hik : i = k
  · subst hik
    obtain ⟨a0, a1, a2, a3, a4, a5⟩ := ha i hi
    rw [upd_same]
    refine ⟨?_, ?_, ?_, by simp, ?_, ?_⟩
    · exact ifn (by omega) a0
    · exact ifn (by omega) a1
    · exact ifn (by omega) a2
    · exact ifn (by omega) a4
    · exact ifn (by omega) a5
  · rw [upd_other _ _ _ hik]; exact (ha i hi).set (j := 3) (k := k) _ (by omega) hik
theorem LogIs.setSo (h : LogIs w lb n ex fi er so) (k : Nat) (s : ByteArray) : LogIs (w.setCell ⟨lb, k * 6 + 4, none⟩ (.string s)) lb n ex fi er (upd so k s) := by
  obtain ⟨f, hr, ha⟩ := h
  refine ⟨_, hr.set (k * 6 + 4) (.string s), fun i hi => ?_⟩
  by_cases hik : i = k
  · subst hik
    obtain ⟨a0, a1, a2, a3, a4, a5⟩ := ha i hi
    rw [upd_same]
    refine ⟨?_, ?_, ?_, ?_, by simp, ?_⟩
    · exact ifn (by omega) a0
    · exact ifn (by omega) a1
    · exact ifn (by omega) a2
    · exact ifn (by omega) a3
    · exact ifn (by omega) a5
  · rw [upd_other _ _ _ hik]; exact (ha i hi).set (j := 4) (k := k) _ (by omega) hik
theorem LogIs.alloc (h : LogIs w lb n ex fi er so) (o : Obj) : LogIs (w.alloc o) lb n ex fi er so := by
  obtain ⟨f, hr, ha⟩ := h; exact ⟨f, hr.alloc o, ha⟩
theorem LogIs.drewN (h : LogIs w lb n ex fi er so) (k : Nat) : LogIs (w.drewN k) lb n ex fi er so := by
  obtain ⟨f, hr, ha⟩ := h; exact ⟨f, hr, ha⟩
theorem LogIs.setOther (h : LogIs w lb n ex fi er so) {a : Addr} (ha : lb ≠ a.block) (v : Value) : LogIs (w.setCell a v) lb n ex fi er so := by
  obtain ⟨f, hr, hat⟩ := h; exact ⟨f, hr.setOther ha v, hat⟩
end

/-- Off lb: every old block but lb is as it was. -/
structure Off (lb : Nat) (w w' : World) : Prop where
  os : w'.os = w.os
  tape : w'.tape = w.tape
  output : w'.output = w.output
  size : w.heap.size ≤ w'.heap.size
  block : ∀ k, k < w.heap.size → k ≠ lb → w'.heap[k]? = w.heap[k]?

theorem Off.refl (lb : Nat) (w : World) : Off lb w w := ⟨rfl, rfl, rfl, Nat.le_refl _, fun _ _ _ => rfl⟩
theorem Off.trans {lb : Nat} {a b c : World} (h : Off lb a b) (k : Off lb b c) : Off lb a c :=
  ⟨k.os.trans h.os, k.tape.trans h.tape, k.output.trans h.output, Nat.le_trans h.size k.size, fun i hi hn => (k.block i (Nat.lt_of_lt_of_le hi h.size) hn).trans (h.block i hi hn)⟩
theorem Off.of_below {lb : Nat} {w w' : World} (h : Below w.heap.size w w') : Off lb w w' := ⟨h.os, h.tape, h.output, h.size, fun k hk _ => h.block k hk⟩
theorem Off.setCell (lb o : Nat) (w : World) (v : Value) : Off lb w (w.setCell ⟨lb, o, none⟩ v) := ⟨rfl, rfl, rfl, by simp [World.setCell], fun k _ hn => Below.heap_setCell _ _ _ _ hn⟩
theorem Off.alloc (lb : Nat) (w : World) (o : Obj) : Off lb w (w.alloc o) := ⟨rfl, rfl, rfl, by simp, fun k hk _ => Below.heap_alloc _ _ _ hk⟩
theorem Off.drewN (lb : Nat) (w : World) (n : Nat) : Off lb w (w.drewN n) := ⟨rfl, rfl, rfl, Nat.le_refl _, fun _ _ _ => rfl⟩
theorem Off.cell {lb b o : Nat} {w w' : World} (h : Off lb w w') (hb : b < w.heap.size) (hn : b ≠ lb) : w'.cell? ⟨b, o, none⟩ = w.cell? ⟨b, o, none⟩ := World.cell?_of_block (w := w) (h.block b hb hn)
theorem Off.below {lb B : Nat} {a w w' : World} (h : Off lb w w') (hb : Below B a w) (h1 : B ≤ lb) (h2 : B ≤ w.heap.size) : Below B a w' :=
  hb.trans ⟨h.os, h.tape, h.output, h.size, fun k hk => h.block k (by omega) (by omega)⟩

/-- At address p, behind block lo, stands the instant of ns. -/
def TimeAt (w : World) (lo : Nat) (p : Addr) (ns : Int) : Prop :=
  ∃ b, p = ⟨b, 0, none⟩ ∧ lo < b ∧ b < w.heap.size ∧ w.cell? ⟨b, 0, none⟩ = some (.int .u64 (nsecOf ns)) ∧ w.cell? ⟨b, 1, none⟩ = some (.int .i64 (secOf ns)) ∧ w.cell? ⟨b, 2, none⟩ = some (.pointer none)
/-- At address p, behind block lo, stands the number x. -/
def IntAt (w : World) (lo : Nat) (p : Addr) (x : Int) : Prop := ∃ b, p = ⟨b, 0, none⟩ ∧ lo < b ∧ b < w.heap.size ∧ w.cell? ⟨b, 0, none⟩ = some (.int .i64 x)
theorem TimeAt.off {w w' : World} {lo : Nat} {p : Addr} {ns : Int} (h : TimeAt w lo p ns) (k : Off lo w w') : TimeAt w' lo p ns := by
  obtain ⟨b, hp, h1, h2, c0, c1, c2⟩ := h
  have hn : b ≠ lo := by omega
  exact ⟨b, hp, h1, Nat.lt_of_lt_of_le h2 k.size, (k.cell h2 hn).trans c0, (k.cell h2 hn).trans c1, (k.cell h2 hn).trans c2⟩
theorem IntAt.off {w w' : World} {lo : Nat} {p : Addr} {x : Int} (h : IntAt w lo p x) (k : Off lo w w') : IntAt w' lo p x := by
  obtain ⟨b, hp, h1, h2, c0⟩ := h
  have hn : b ≠ lo := by omega
  exact ⟨b, hp, h1, Nat.lt_of_lt_of_le h2 k.size, (k.cell h2 hn).trans c0⟩

/-- A step as the law built it, at block sb, its log L. -/
def StepAt (w : World) (sb : Nat) (n : Int) (L : Value) : Prop :=
  sb < w.heap.size ∧ w.cell? ⟨sb, 15, none⟩ = some L ∧
  (w.cell? ⟨sb, 0, none⟩ = some (.string ⟨#[115, 116, 101, 112]⟩) ∧ w.cell? ⟨sb, 1, none⟩ = some (.string ⟨#[]⟩) ∧
   w.cell? ⟨sb, 2, none⟩ = some (.slice none 0 0) ∧ w.cell? ⟨sb, 3, none⟩ = some (.pointer none) ∧
   w.cell? ⟨sb, 4, none⟩ = some (.int .i64 0) ∧ w.cell? ⟨sb, 5, none⟩ = some (.slice none 0 0) ∧
   w.cell? ⟨sb, 6, none⟩ = some (.pointer none) ∧ w.cell? ⟨sb, 7, none⟩ = some (.string ⟨#[]⟩)) ∧
  (w.cell? ⟨sb, 8, none⟩ = some (.pointer none) ∧ w.cell? ⟨sb, 9, none⟩ = some (.pointer none) ∧
   w.cell? ⟨sb, 10, none⟩ = some (.pointer none) ∧ w.cell? ⟨sb, 11, none⟩ = some (.string ⟨#[]⟩) ∧
   w.cell? ⟨sb, 12, none⟩ = some (.string ⟨#[]⟩) ∧ w.cell? ⟨sb, 13, none⟩ = some (.string ⟨#[]⟩) ∧
   w.cell? ⟨sb, 14, none⟩ = some (.int .i64 n) ∧ w.cell? ⟨sb, 16, none⟩ = some (.bool false))

theorem StepAt.cellwise {w w' : World} {sb : Nat} {n : Int} {L : Value} (h : StepAt w sb n L) (hs : sb < w'.heap.size) (e : ∀ o, w'.cell? ⟨sb, o, none⟩ = w.cell? ⟨sb, o, none⟩) : StepAt w' sb n L := by
  unfold StepAt at h ⊢
  simp only [e]
  exact ⟨hs, h.2⟩
theorem StepAt.off {w w' : World} {lo sb : Nat} {n : Int} {L : Value} (h : StepAt w sb n L) (k : Off lo w w') (hn : sb ≠ lo) : StepAt w' sb n L :=
  h.cellwise (Nat.lt_of_lt_of_le h.1 k.size) fun _ => k.cell h.1 hn

theorem untouched_step {w : World} {sb : Nat} {n : Int} {L : Value} (h : StepAt w sb n L) :
    Calls Try.prog 8 #[.pointer (some ⟨sb, 0, none⟩), .int .i64 n] w fun e w' => e = .returned (.bool true) ∧ w' = w := by
  obtain ⟨_, _, ⟨h0, h1, h2, h3, h4, h5, h6, h7⟩, h8, h9, h10, h11, h12, h13, h14, h16⟩ := h
  exact untouched_any sb n w h0 h1 h2 h3 h4 h5 h6 h7 h8 h9 h10 h11 h12 h13 h14 h16

/-- Is the log's last attempt open? -/
def opn (n : Nat) (fi : Nat → Option Addr) : Bool := decide (0 < n) && (fi (n - 1)).isNone

/-- 'EndAttempt' on a log: the last attempt, if open, takes the end; else nothing changes. -/
theorem end_law {w : World} {sb lb n c : Nat} {ex fi : Nat → Option Addr} {er so : Nat → ByteArray} {N : Int} (ec : Option Addr) (es : ByteArray) (t : Int)
    (hs : StepAt w sb N (.slice (some ⟨lb, 0, none⟩) n c)) (hL : LogIs w lb n ex fi er so) (hn : n ≤ 65536) :
    Calls Try.prog 7 #[.pointer (some ⟨sb, 0, none⟩), .pointer ec, .string es, .agg #[.int .u64 (nsecOf t), .int .i64 (secOf t), .pointer none]] w fun e w' => e = .returned (.tuple #[]) ∧ Off lb w w' ∧
      ∃ q, (opn n fi = true → TimeAt w' lb q t) ∧ LogIs w' lb n (if opn n fi = true then upd ex (n - 1) ec else ex) (if opn n fi = true then upd fi (n - 1) (some q) else fi) (if opn n fi = true then upd er (n - 1) es else er) so := by
  have hlt := hL.lt
  cases n with
  | zero =>
    have ho : opn 0 fi = false := by simp [opn]
    refine (end_none sb 0 c (some ⟨lb, 0, none⟩) ec es _ _ w hs.2.1 hs.1).mono ?_
    rintro e w' ⟨he, hb⟩
    refine ⟨he, .of_below hb, ⟨0, 0, none⟩, fun h => (by rw [ho] at h; cases h), ?_⟩
    rw [ho]
    exact hL.below hb hlt
  | succ m =>
    obtain ⟨g0, _, g2, g3, _, _⟩ := hL.cells (show m < m + 1 by omega)
    cases hfi : fi m with
    | some p =>
      have ho : opn (m + 1) fi = false := by simp [opn, hfi]
      rw [hfi] at g2
      refine (end_shut sb 0 lb 0 m c ec es _ _ p w (by omega) hs.2.1 (by simpa using g2) hlt hs.1).mono ?_
      rintro e w' ⟨he, hb⟩
      refine ⟨he, .of_below hb, ⟨0, 0, none⟩, fun h => (by rw [ho] at h; cases h), ?_⟩
      rw [ho]
      exact hL.below hb hlt
    | none =>
      have ho : opn (m + 1) fi = true := by simp [opn, hfi]
      rw [hfi] at g2
      have h := end_open sb 0 lb 0 m c ec es (nsecOf t) (secOf t) w (by omega) hs.2.1 ⟨_, by simpa using g0⟩ ⟨_, by simpa using g3⟩ (by simpa using g2) hL.frozen hlt hs.1
      refine h.mono ?_
      rintro e w' ⟨he, k, hw⟩
      simp only [Nat.zero_add] at hw
      subst hw
      refine ⟨he, ?_, ⟨w.heap.size, 0, none⟩, fun _ => ?_, ?_⟩
      · exact ((((Off.alloc lb w _).trans (Off.drewN lb _ k)).trans (Off.setCell lb _ _ _)).trans (Off.setCell lb _ _ _)).trans (Off.setCell lb _ _ _)
      · have hn : w.heap.size ≠ lb := by omega
        have o3 : Off lb ((w.alloc (timeObj (nsecOf t) (secOf t))).drewN k) _ := ((Off.setCell lb (m * 6) ((w.alloc (timeObj (nsecOf t) (secOf t))).drewN k) (.pointer ec)).trans (Off.setCell lb (m * 6 + 3) _ (.string es))).trans (Off.setCell lb (m * 6 + 2) _ (.pointer (some ⟨w.heap.size, 0, none⟩)))
        have hz : w.heap.size < ((w.alloc (timeObj (nsecOf t) (secOf t))).drewN k).heap.size := by simp
        refine ⟨w.heap.size, rfl, hlt, Nat.lt_of_lt_of_le hz o3.size, ?_, ?_, ?_⟩
        · rw [o3.cell hz hn]; simp [timeObj]
        · rw [o3.cell hz hn]; simp [timeObj]
        · rw [o3.cell hz hn]; simp [timeObj]
      · rw [ho]
        exact (((((hL.alloc _).drewN k).setEx m ec).setEr m es).setFi m _)
end Go.Proofs.Qxb6630566a
