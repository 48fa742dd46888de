/-
  THE FIRST LAW's FILL LOOP, its state and its steps; what the last loop reads. No walk here. Own work on this program.
-/
import Derived.Test.Qxb6630566aLog
namespace Go.Proofs.Qxb6630566a
open Go.RowKit

/-- A []int64 (or []int) that came in. -/
def IntsIn (w : World) (a : Option Addr) (len : Nat) (ns : Nat → Int) : Prop :=
  ∀ i, i < len → ∃ b o, a = some ⟨b, o, none⟩ ∧ b < w.heap.size ∧ w.cell? ⟨b, o + i, none⟩ = some (.int .i64 (ns i)) ∧ -9223372036854775808 ≤ ns i ∧ ns i ≤ 9223372036854775807

/-- What stands behind attempt i's pointers: finished with exit code i (i below m and below k), else open. -/
def Behind (w : World) (lb m : Nat) (ns : Nat → Int) (k : Nat) (ex fi : Nat → Option Addr) (i : Nat) : Prop :=
  (i < k ∧ i < m ∧ ∃ p q, ex i = some p ∧ IntAt w lb p i ∧ fi i = some q ∧ TimeAt w lb q (ns i)) ∨ (¬ (i < k ∧ i < m) ∧ ex i = none ∧ fi i = none)

theorem Behind.off {w w' : World} {lb m k : Nat} {ns : Nat → Int} {ex fi : Nat → Option Addr} {i : Nat} (h : Behind w lb m ns k ex fi i) (o : Off lb w w') : Behind w' lb m ns k ex fi i := by
  rcases h with ⟨h1, h2, p, q, hp, hi, hq, ht⟩ | h
  · exact .inl ⟨h1, h2, p, q, hp, hi.off o, hq, ht.off o⟩
  · exact .inr h

/-- The fill loop's state behind k rounds. -/
def Fill (w : World) (n m : Nat) (ss : Nat → ByteArray) (ns : Nat → Int) (k : Nat) (wr : World) : Prop :=
  Below w.heap.size w wr ∧ ∃ ex fi : Nat → Option Addr, LogIs wr w.heap.size n ex fi (fun i => if i < k then ss i else emptyS) (fun i => if i < k then oS else emptyS) ∧
    ∀ i, i < n → Behind wr w.heap.size m ns k ex fi i

theorem fill_start (w : World) (n m : Nat) (ss : Nat → ByteArray) (ns : Nat → Int) : Fill w n m ss ns 0 (w.alloc (freshLog n)) := by
  refine ⟨(Below.refl _ _).alloc (Nat.le_refl _) _, fun _ => none, fun _ => none, (LogIs.fresh w n).congr fun i _ => ⟨rfl, rfl, by simp, by simp⟩, fun i _ => .inr ⟨by omega, rfl, rfl⟩⟩

theorem fill_miss {w wr : World} {n m j : Nat} {ss : Nat → ByteArray} {ns : Nat → Int} (h : Fill w n m ss ns j wr) (hm : ¬ j < m) :
    Fill w n m ss ns (j + 1) ((wr.setCell ⟨w.heap.size, j * 6 + 3, none⟩ (.string (ss j))).setCell ⟨w.heap.size, j * 6 + 4, none⟩ (.string ⟨#[111]⟩)) := by
  obtain ⟨hB, ex, fi, hL, hP⟩ := h
  have hO : Off w.heap.size wr ((wr.setCell ⟨w.heap.size, j * 6 + 3, none⟩ (.string (ss j))).setCell ⟨w.heap.size, j * 6 + 4, none⟩ (.string ⟨#[111]⟩)) := (Off.setCell _ _ _ _).trans (Off.setCell _ _ _ _)
  refine ⟨hO.below hB (Nat.le_refl _) (Nat.le_of_lt hL.lt), ex, fi, ((hL.setEr j (ss j)).setSo j ⟨#[111]⟩).congr fun i _ => ⟨rfl, rfl, ?_, ?_⟩, fun i hi => ?_⟩
  · by_cases h : i = j
    · subst h; simp [upd_same]
    · rw [upd_other _ _ _ h]; simp only [show i < j + 1 ↔ i < j from by omega]
  · by_cases h : i = j
    · subst h; simp [upd_same, oS]
    · rw [upd_other _ _ _ h]; simp only [show i < j + 1 ↔ i < j from by omega]
  · rcases (hP i hi).off hO with ⟨h1, h2, r⟩ | ⟨h1, r⟩
    · exact .inl ⟨by omega, h2, r⟩
    · exact .inr ⟨by omega, r⟩

theorem fill_hit {w wr w1 : World} {n m j : Nat} {ss : Nat → ByteArray} {ns : Nat → Int} (h : Fill w n m ss ns j wr) (hj : j < n) (hm : j < m)
    (hb : Below ((wr.setCell ⟨w.heap.size, j * 6 + 3, none⟩ (.string (ss j))).setCell ⟨w.heap.size, j * 6 + 4, none⟩ (.string ⟨#[111]⟩)).heap.size ((wr.setCell ⟨w.heap.size, j * 6 + 3, none⟩ (.string (ss j))).setCell ⟨w.heap.size, j * 6 + 4, none⟩ (.string ⟨#[111]⟩)) w1) :
    Fill w n m ss ns (j + 1) ((((w1.setCell ⟨w.heap.size, j * 6 + 2, none⟩ (.pointer (some ⟨w1.heap.size, 0, none⟩))).setCell ⟨w.heap.size, j * 6, none⟩ (.pointer (some ⟨w1.heap.size + 1, 0, none⟩))).alloc
      (.cells #[.int .u64 (nsecOf (ns j)), .int .i64 (secOf (ns j)), .pointer none] 33)).alloc (.cells #[.int .i64 (j : Int)] 3)) := by
  obtain ⟨hB, ex, fi, hL, hP⟩ := h
  have hlt := hL.lt
  have hO1 : Off w.heap.size wr w1 := ((Off.setCell _ _ _ _).trans (Off.setCell _ _ _ _)).trans (.of_below hb)
  have hlt1 : w.heap.size < w1.heap.size := Nat.lt_of_lt_of_le hlt hO1.size
  have hL1 : LogIs w1 w.heap.size n ex fi _ _ := ((hL.setEr j (ss j)).setSo j ⟨#[111]⟩).below hb (by simpa using hlt)
  have hO2 : Off w.heap.size w1 ((w1.setCell ⟨w.heap.size, j * 6 + 2, none⟩ (.pointer (some ⟨w1.heap.size, 0, none⟩))).setCell ⟨w.heap.size, j * 6, none⟩ (.pointer (some ⟨w1.heap.size + 1, 0, none⟩))) := (Off.setCell _ _ _ _).trans (Off.setCell _ _ _ _)
  have hL2 := (hL1.setFi j (some ⟨w1.heap.size, 0, none⟩)).setEx j (some ⟨w1.heap.size + 1, 0, none⟩)
  have hs : ((w1.setCell ⟨w.heap.size, j * 6 + 2, none⟩ (.pointer (some ⟨w1.heap.size, 0, none⟩))).setCell ⟨w.heap.size, j * 6, none⟩ (.pointer (some ⟨w1.heap.size + 1, 0, none⟩))).heap.size = w1.heap.size := by simp [World.setCell]
  generalize ((w1.setCell ⟨w.heap.size, j * 6 + 2, none⟩ (.pointer (some ⟨w1.heap.size, 0, none⟩))).setCell ⟨w.heap.size, j * 6, none⟩ (.pointer (some ⟨w1.heap.size + 1, 0, none⟩))) = w2 at *
  have hO := (hO1.trans hO2).trans ((Off.alloc w.heap.size w2 (.cells #[.int .u64 (nsecOf (ns j)), .int .i64 (secOf (ns j)), .pointer none] 33)).trans (Off.alloc w.heap.size _ (.cells #[.int .i64 (j : Int)] 3)))
  refine ⟨hO.below hB (Nat.le_refl _) (Nat.le_of_lt hlt), _, _, ((hL2.alloc _).alloc _).congr fun i _ => ⟨rfl, rfl, ?_, ?_⟩, fun i hi => ?_⟩
  · by_cases h : i = j
    · subst h; simp [upd_same]
    · rw [upd_other _ _ _ h]; simp only [show i < j + 1 ↔ i < j from by omega]
  · by_cases h : i = j
    · subst h; simp [upd_same, oS]
    · rw [upd_other _ _ _ h]; simp only [show i < j + 1 ↔ i < j from by omega]
  · by_cases h : i = j
    · subst h
      refine .inl ⟨by omega, hm, _, _, upd_same _ _ _, ?_, upd_same _ _ _, ?_⟩
      · exact ⟨w1.heap.size + 1, rfl, by omega, by simp [hs], by rw [← hs]; simp⟩
      · refine ⟨w1.heap.size, rfl, hlt1, by simp [hs]; omega, ?_, ?_, ?_⟩
        · rw [← hs]; simp
        · rw [← hs]; simp
        · rw [← hs]; simp
    · unfold Behind
      rw [upd_other _ _ _ h, upd_other _ _ _ h]
      rcases (hP i hi).off hO with ⟨h1, h2, r⟩ | ⟨h1, r⟩
      · exact .inl ⟨by omega, h2, r⟩
      · exact .inr ⟨by omega, r⟩

theorem Fill.below {w wr w' : World} {n m k : Nat} {ss : Nat → ByteArray} {ns : Nat → Int} (h : Fill w n m ss ns k wr) (hb : Below wr.heap.size wr w') : Fill w n m ss ns k w' := by
  obtain ⟨hB, ex, fi, hL, hP⟩ := h
  exact ⟨(Off.of_below (lb := w.heap.size) hb).below hB (Nat.le_refl _) (Nat.le_of_lt hL.lt), ex, fi, hL.below hb hL.lt, fun i hi => (hP i hi).off (.of_below hb)⟩
theorem Fill.lt {w wr : World} {n m k : Nat} {ss : Nat → ByteArray} {ns : Nat → Int} (h : Fill w n m ss ns k wr) : w.heap.size < wr.heap.size := by
  obtain ⟨_, _, _, hL, _⟩ := h; exact hL.lt

/-- A pointer that is nil or leads to the number x. -/
def PtrInt (w : World) (lo : Nat) (p : Option Addr) (x : Int) : Prop := ∀ q, p = some q → IntAt w lo q x
theorem PtrInt.off {w w' : World} {lo : Nat} {p : Option Addr} {x : Int} (h : PtrInt w lo p x) (o : Off lo w w') : PtrInt w' lo p x := fun q hq => (h q hq).off o

/-- The step is built: the log filled, the step at sb, the first exit-code pointer p. -/
def Ready1 (w : World) (n m : Nat) (ss : Nat → ByteArray) (ns : Nat → Int) (sb : Nat) (p : Option Addr) (x : Int) (wc : World) : Prop :=
  Fill w n m ss ns n wc ∧ StepAt wc sb n (.slice (some ⟨w.heap.size, 0, none⟩) n n) ∧ w.heap.size < sb ∧ PtrInt wc w.heap.size p x
def Ready2 (w : World) (n m : Nat) (ss : Nat → ByteArray) (ns : Nat → Int) (sb : Nat) (p : Option Addr) (x : Int) (p' : Option Addr) (x' : Int) (wc : World) : Prop :=
  Ready1 w n m ss ns sb p x wc ∧ PtrInt wc w.heap.size p' x'

/-- The block that holds the step. -/
def stepCells (n : Nat) (L : Value) : Array Value := #[.string ⟨#[115, 116, 101, 112]⟩, .string ⟨#[]⟩, .slice none 0 0, .pointer none, .int .i64 0, .slice none 0 0, .pointer none, .string ⟨#[]⟩, .pointer none, .pointer none, .pointer none, .string ⟨#[]⟩, .string ⟨#[]⟩, .string ⟨#[]⟩, .int .i64 n, L, .bool false]
theorem stepAt_alloc (w : World) (n : Nat) (L : Value) : StepAt (w.alloc (.cells (stepCells n L) 41)) w.heap.size n L := by
  refine ⟨by simp, by simp [stepCells], ⟨?_, ?_, ?_, ?_, ?_, ?_, ?_, ?_⟩, ?_, ?_, ?_, ?_, ?_, ?_, ?_, ?_⟩ <;> simp [stepCells]

theorem Ready1.below {w wc w' : World} {n m sb : Nat} {ss : Nat → ByteArray} {ns : Nat → Int} {p : Option Addr} {x : Int} (h : Ready1 w n m ss ns sb p x wc) (hb : Below wc.heap.size wc w') : Ready1 w n m ss ns sb p x w' := by
  obtain ⟨hF, hS, hlt, hP⟩ := h
  exact ⟨hF.below hb, hS.off (lo := w.heap.size) (.of_below hb) (by omega), hlt, hP.off (.of_below hb)⟩
theorem ready1_no {w wr : World} {n m : Nat} {ss : Nat → ByteArray} {ns : Nat → Int} (x : Int) (h : Fill w n m ss ns n wr) :
    Ready1 w n m ss ns wr.heap.size none x (wr.alloc (.cells (stepCells n (.slice (some ⟨w.heap.size, 0, none⟩) n n)) 41)) :=
  ⟨h.below ((Below.refl _ _).alloc (Nat.le_refl _) _), stepAt_alloc _ _ _, h.lt, fun q hq => by cases hq⟩
theorem ready1_yes {w wr : World} {n m : Nat} {ss : Nat → ByteArray} {ns : Nat → Int} (x : Int) (h : Fill w n m ss ns n wr) :
    Ready1 w n m ss ns wr.heap.size (some ⟨wr.heap.size + 1, 0, none⟩) x ((wr.alloc (.cells (stepCells n (.slice (some ⟨w.heap.size, 0, none⟩) n n)) 41)).alloc (.cells #[.int .i64 x] 3)) := by
  have h0 := (ready1_no x h).below ((Below.refl _ _).alloc (Nat.le_refl _) (.cells #[.int .i64 x] 3))
  refine ⟨h0.1, h0.2.1, h0.2.2.1, fun q hq => ?_⟩
  cases hq
  have := h.lt
  exact ⟨_, rfl, by omega, by simp, by simp⟩
theorem ready2_no {w wc : World} {n m sb : Nat} {ss : Nat → ByteArray} {ns : Nat → Int} {p : Option Addr} {x : Int} (x' : Int) (h : Ready1 w n m ss ns sb p x wc) : Ready2 w n m ss ns sb p x none x' wc :=
  ⟨h, fun q hq => by cases hq⟩
theorem ready2_yes {w wc : World} {n m sb : Nat} {ss : Nat → ByteArray} {ns : Nat → Int} {p : Option Addr} {x : Int} (x' : Int) (h : Ready1 w n m ss ns sb p x wc) :
    Ready2 w n m ss ns sb p x (some ⟨wc.heap.size, 0, none⟩) x' (wc.alloc (.cells #[.int .i64 x'] 3)) := by
  refine ⟨h.below ((Below.refl _ _).alloc (Nat.le_refl _) _), fun q hq => ?_⟩
  cases hq
  exact ⟨_, rfl, h.1.lt, by simp, by simp⟩

/-- What the last loop meets at attempt i. -/
def Shape (w : World) (lb n m : Nat) (ss : Nat → ByteArray) (ns : Nat → Int) (p1 : Option Addr) (e1 : ByteArray) (t1 : Int) (ex fi : Nat → Option Addr) (er : Nat → ByteArray) (i : Nat) : Prop :=
  (m < n ∧ i = n - 1 ∧ ex i = p1 ∧ er i = e1 ∧ ∃ q, fi i = some q ∧ TimeAt w lb q t1) ∨
  (¬ (m < n ∧ i = n - 1) ∧ i < m ∧ er i = ss i ∧ ∃ p q, ex i = some p ∧ IntAt w lb p i ∧ fi i = some q ∧ TimeAt w lb q (ns i)) ∨
  (¬ (m < n ∧ i = n - 1) ∧ ¬ i < m ∧ er i = ss i ∧ ex i = none ∧ fi i = none)

def Done (w : World) (n m : Nat) (ss : Nat → ByteArray) (ns : Nat → Int) (sb : Nat) (p1 : Option Addr) (e1 : ByteArray) (t1 : Int) (wd : World) : Prop :=
  Below w.heap.size w wd ∧ StepAt wd sb n (.slice (some ⟨w.heap.size, 0, none⟩) n n) ∧ ∃ ex fi er, LogIs wd w.heap.size n ex fi er (fun _ => oS) ∧ ∀ i, i < n → Shape wd w.heap.size n m ss ns p1 e1 t1 ex fi er i

/-- What 'end_law' leaves. -/
def Ended (lb n : Nat) (ec : Option Addr) (es : ByteArray) (t : Int) (ex fi : Nat → Option Addr) (er so : Nat → ByteArray) (w w' : World) : Prop :=
  Off lb w w' ∧ ∃ q, (opn n fi = true → TimeAt w' lb q t) ∧ LogIs w' lb n (if opn n fi = true then upd ex (n - 1) ec else ex) (if opn n fi = true then upd fi (n - 1) (some q) else fi) (if opn n fi = true then upd er (n - 1) es else er) so

/-- The first end: from the filled log to the closed one. -/
theorem done_of {w wa wb : World} {n m sb : Nat} {ss : Nat → ByteArray} {ns : Nat → Int} {ex fi : Nat → Option Addr} (p1 : Option Addr) (e1 : ByteArray) (t1 : Int)
    (hB : Below w.heap.size w wa) (hS : StepAt wa sb n (.slice (some ⟨w.heap.size, 0, none⟩) n n)) (hsb : w.heap.size < sb)
    (hL : LogIs wa w.heap.size n ex fi (fun i => if i < n then ss i else emptyS) (fun i => if i < n then oS else emptyS)) (hP : ∀ i, i < n → Behind wa w.heap.size m ns n ex fi i)
    (hE : Ended w.heap.size n p1 e1 t1 ex fi (fun i => if i < n then ss i else emptyS) (fun i => if i < n then oS else emptyS) wa wb) : Done w n m ss ns sb p1 e1 t1 wb := by
  obtain ⟨hO, q, hT, hL'⟩ := hE
  refine ⟨hO.below hB (Nat.le_refl _) (Nat.le_of_lt hL.lt), hS.off hO (by omega), _, _, _, hL'.congr fun i hi => ⟨rfl, rfl, rfl, if_pos hi⟩, fun i hi => ?_⟩
  have hopn : opn n fi = decide (m < n) := by
    rcases hP (n - 1) (by omega) with ⟨h1, h2, p, q', hp, _, hq, _⟩ | ⟨h1, hp, hq⟩
    · simp only [opn, hq]; simp; omega
    · simp only [opn, hq]; simp; omega
  by_cases hm : m < n
  · have ho : opn n fi = true := by rw [hopn]; simpa using hm
    simp only [ho, if_true]
    by_cases hin : i = n - 1
    · subst hin
      exact .inl ⟨hm, rfl, upd_same _ _ _, upd_same _ _ _, q, upd_same _ _ _, hT ho⟩
    · unfold Shape
      rw [upd_other _ _ _ hin, upd_other _ _ _ hin, upd_other _ _ _ hin, if_pos hi]
      rcases (hP i hi).off hO with ⟨h1, h2, r⟩ | ⟨h1, r⟩
      · exact .inr (.inl ⟨by omega, h2, rfl, r⟩)
      · exact .inr (.inr ⟨by omega, by omega, rfl, r⟩)
  · have ho : opn n fi = false := by rw [hopn]; simpa using hm
    simp only [ho]
    rcases (hP i hi).off hO with ⟨h1, h2, r⟩ | ⟨h1, r⟩
    · exact .inr (.inl ⟨by omega, h2, if_pos hi, r⟩)
    · exact .inr (.inr ⟨by omega, by omega, if_pos hi, r⟩)

theorem Shape.off {w w' : World} {lb n m : Nat} {ss : Nat → ByteArray} {ns : Nat → Int} {p1 : Option Addr} {e1 : ByteArray} {t1 : Int} {ex fi : Nat → Option Addr} {er : Nat → ByteArray} {i : Nat}
    (h : Shape w lb n m ss ns p1 e1 t1 ex fi er i) (o : Off lb w w') : Shape w' lb n m ss ns p1 e1 t1 ex fi er i := by
  rcases h with ⟨a, b, c, d, q, hq, ht⟩ | ⟨a, b, c, p, q, hp, hi, hq, ht⟩ | h
  · exact .inl ⟨a, b, c, d, q, hq, ht.off o⟩
  · exact .inr (.inl ⟨a, b, c, p, q, hp, hi.off o, hq, ht.off o⟩)
  · exact .inr (.inr h)

/-- The second end changes nothing. -/
theorem done_again {w wa wb : World} {n m sb : Nat} {ss : Nat → ByteArray} {ns : Nat → Int} {p1 p2 : Option Addr} {e1 e2 : ByteArray} {t1 t2 : Int} {ex fi : Nat → Option Addr} {er : Nat → ByteArray}
    (hB : Below w.heap.size w wa) (hS : StepAt wa sb n (.slice (some ⟨w.heap.size, 0, none⟩) n n)) (hsb : w.heap.size < sb)
    (hL : LogIs wa w.heap.size n ex fi er (fun _ => oS)) (hP : ∀ i, i < n → Shape wa w.heap.size n m ss ns p1 e1 t1 ex fi er i)
    (hE : Ended w.heap.size n p2 e2 t2 ex fi er (fun _ => oS) wa wb) : Done w n m ss ns sb p1 e1 t1 wb := by
  obtain ⟨hO, q, hT, hL'⟩ := hE
  have ho : opn n fi = false := by
    by_cases hn : 0 < n
    · rcases hP (n - 1) (by omega) with ⟨a, b, c, d, q, hq, ht⟩ | ⟨a, b, c, p, q, hp, hi, hq, ht⟩ | ⟨a, b, c⟩
      · simp [opn, hq]
      · simp [opn, hq]
      · omega
    · simp [opn, hn]
  simp only [ho] at hL'
  exact ⟨hO.below hB (Nat.le_refl _) (Nat.le_of_lt hL.lt), hS.off hO (by omega), ex, fi, er, hL', fun i hi => (hP i hi).off hO⟩

theorem Done.below {w wc w' : World} {n m sb : Nat} {ss : Nat → ByteArray} {ns : Nat → Int} {p1 : Option Addr} {e1 : ByteArray} {t1 : Int} (h : Done w n m ss ns sb p1 e1 t1 wc) (hsb : w.heap.size < sb) (hb : Below wc.heap.size wc w') : Done w n m ss ns sb p1 e1 t1 w' := by
  obtain ⟨hB, hS, ex, fi, er, hL, hP⟩ := h
  exact ⟨(Off.of_below (lb := w.heap.size) hb).below hB (Nat.le_refl _) (Nat.le_of_lt hL.lt), hS.off (lo := w.heap.size) (.of_below hb) (by omega), ex, fi, er, hL.below hb hL.lt, fun i hi => (hP i hi).off (.of_below hb)⟩
end Go.Proofs.Qxb6630566a
