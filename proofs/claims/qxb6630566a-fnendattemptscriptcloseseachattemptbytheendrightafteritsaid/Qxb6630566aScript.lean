/-
  THE SECOND LAW: THE SCRIPT's STATE, step by step. No walk here but one use of EndAttempt's contracts. Own work on this program.
-/
import Derived.Test.Qxb6630566aSLog
namespace Go.Proofs.Qxb6630566a
open Go.RowKit

/-- How many attempts have been opened in the first k steps. -/
def cnt (op : Nat → Bool) : Nat → Nat
  | 0 => 0
  | k + 1 => cnt op k + (if op k = true then 1 else 0)
theorem cnt_hit {op : Nat → Bool} {k : Nat} (h : op k = true) : cnt op (k + 1) = cnt op k + 1 := by simp [cnt, h]
theorem cnt_miss {op : Nat → Bool} {k : Nat} (h : op k = false) : cnt op (k + 1) = cnt op k := by simp [cnt, h]
theorem cnt_step (op : Nat → Bool) (k : Nat) : cnt op k ≤ cnt op (k + 1) := by simp [cnt]
theorem cnt_mono {op : Nat → Bool} {i k : Nat} (h : i ≤ k) : cnt op i ≤ cnt op k := by
  induction h with
  | refl => exact Nat.le_refl _
  | step _ ih => exact Nat.le_trans ih (cnt_step op _)
theorem cnt_le (op : Nat → Bool) (k : Nat) : cnt op k ≤ k := by
  induction k with
  | zero => exact Nat.le_refl _
  | succ k ih => by_cases h : op k = true
                 · rw [cnt_hit h]; omega
                 · rw [cnt_miss (by simpa using h)]; omega
theorem cnt_lt {op : Nat → Bool} {i k : Nat} (h : i < k) (hi : op i = true) : cnt op i < cnt op k := by
  have h1 := cnt_hit hi
  have h2 : cnt op (i + 1) ≤ cnt op k := cnt_mono h
  omega

/-- The end's error and instant at step e. -/
def errAt (ne : Nat) (ss : Nat → ByteArray) (e : Nat) : ByteArray := if e < ne then ss e else emptyS
def nsAt (nt : Nat) (ts : Nat → Int) (e : Nat) : Int := if e < nt then ts e else 0

def timeCells (t : Int) : Array Value := #[.int .u64 (nsecOf t), .int .i64 (secOf t), .pointer none]

/-- The exit-code pointer of the end at step e. -/
def CodeP (w : World) (nc : Nat) (cs : Nat → Int) (e : Nat) (p : Option Addr) : Prop :=
  (e < nc ∧ ∃ ib, p = some ⟨ib, 0, none⟩ ∧ w.heap[ib]? = some (.cells #[.int .i64 (cs e)] 3 (0, 0))) ∨ (¬ e < nc ∧ p = none)
/-- The finish pointer leads to the instant t. -/
def TimeP (w : World) (t : Int) (p : Option Addr) : Prop := ∃ tb, p = some ⟨tb, 0, none⟩ ∧ w.heap[tb]? = some (.cells (timeCells t) 33 (0, 0))

theorem CodeP.keep {B : Nat} {w w' : World} {nc e : Nat} {cs : Nat → Int} {p : Option Addr} (h : CodeP w nc cs e p) (k : Keep B w w') : CodeP w' nc cs e p := by
  rcases h with ⟨h1, ib, h2, h3⟩ | h
  · exact .inl ⟨h1, ib, h2, k.other _ _ _ h3 (by decide) (by decide)⟩
  · exact .inr h
theorem TimeP.keep {B : Nat} {w w' : World} {t : Int} {p : Option Addr} (h : TimeP w t p) (k : Keep B w w') : TimeP w' t p := by
  obtain ⟨tb, h1, h2⟩ := h
  exact ⟨tb, h1, k.other _ _ _ h2 (by decide) (by decide)⟩

/-- Attempt a is closed by the end at step e; or still open. -/
def Closed (w : World) (nc : Nat) (cs : Nat → Int) (ne : Nat) (ss : Nat → ByteArray) (nt : Nat) (ts : Nat → Int) (ex fi : Nat → Option Addr) (er : Nat → ByteArray) (a e : Nat) : Prop :=
  er a = errAt ne ss e ∧ TimeP w (nsAt nt ts e) (fi a) ∧ CodeP w nc cs e (ex a)
def Opened (ex fi : Nat → Option Addr) (er : Nat → ByteArray) (a : Nat) : Prop := ex a = none ∧ fi a = none ∧ er a = emptyS

theorem Closed.keep {B : Nat} {w w' : World} {nc : Nat} {cs : Nat → Int} {ne : Nat} {ss : Nat → ByteArray} {nt : Nat} {ts : Nat → Int} {ex fi : Nat → Option Addr} {er : Nat → ByteArray} {a e : Nat}
    (h : Closed w nc cs ne ss nt ts ex fi er a e) (k : Keep B w w') : Closed w' nc cs ne ss nt ts ex fi er a e := ⟨h.1, h.2.1.keep k, h.2.2.keep k⟩

def Stage (w : World) (op : Nat → Bool) (nc : Nat) (cs : Nat → Int) (ne : Nat) (ss : Nat → ByteArray) (nt : Nat) (ts : Nat → Int) (k : Nat) (ex fi : Nat → Option Addr) (er : Nat → ByteArray) : Prop :=
  ∀ i, i < k → op i = true → (i + 1 < k ∧ op (i + 1) = false ∧ Closed w nc cs ne ss nt ts ex fi er (cnt op i) (i + 1)) ∨ (¬ (i + 1 < k ∧ op (i + 1) = false) ∧ Opened ex fi er (cnt op i))

/-- The step's block. -/
def stepC (v : Value) : Array Value := #[.string ⟨#[115, 116, 101, 112]⟩, .string ⟨#[]⟩, .slice none 0 0, .pointer none, .int .i64 0, .slice none 0 0, .pointer none, .string ⟨#[]⟩, .pointer none, .pointer none, .pointer none, .string ⟨#[]⟩, .string ⟨#[]⟩, .string ⟨#[]⟩, .int .i64 0, v, .bool false]
def StepB (w : World) (sb : Nat) (v : Value) : Prop := w.heap[sb]? = some (.cells (stepC v) 41 (0, 0))
theorem StepB.at {w : World} {sb : Nat} {v : Value} (h : StepB w sb v) : StepAt w sb 0 v := by
  unfold StepB at h
  refine ⟨block_lt h, ?_, ⟨?_, ?_, ?_, ?_, ?_, ?_, ?_, ?_⟩, ?_, ?_, ?_, ?_, ?_, ?_, ?_, ?_⟩ <;> simp [World.cell?, h, stepC]
theorem StepB.below {w w' : World} {sb : Nat} {v : Value} (h : StepB w sb v) (hb : Below w.heap.size w w') : StepB w' sb v := (hb.block sb (block_lt h)).trans h

/-- The state behind k steps of the script. -/
def Script (w0 : World) (op : Nat → Bool) (nc : Nat) (cs : Nat → Int) (ne : Nat) (ss : Nat → ByteArray) (nt : Nat) (ts : Nat → Int) (k : Nat) (wr : World) : Prop :=
  Below w0.heap.size w0 wr ∧ ∃ v ex fi er, StepB wr w0.heap.size v ∧ LogV wr w0.heap.size v (cnt op k) ex fi er ∧ Stage wr op nc cs ne ss nt ts k ex fi er

section
variable {w0 : World} {op : Nat → Bool} {nc : Nat} {cs : Nat → Int} {ne : Nat} {ss : Nat → ByteArray} {nt : Nat} {ts : Nat → Int} {k : Nat}

theorem script_start : Script w0 op nc cs ne ss nt ts 0 (w0.alloc (.cells (stepC (.slice none 0 0)) 41)) :=
  ⟨(Below.refl _ _).alloc (Nat.le_refl _) _, .slice none 0 0, fun _ => none, fun _ => none, fun _ => emptyS, Go.Deep.blk_alloc_new _ _, .inl ⟨rfl, rfl⟩, fun _ hi => absurd hi (Nat.not_lt_zero _)⟩

/-- A world that only grew. -/
theorem Script.below {wr w' : World} (h : Script w0 op nc cs ne ss nt ts k wr) (hb : Below wr.heap.size wr w') : Script w0 op nc cs ne ss nt ts k w' := by
  obtain ⟨hB, v, ex, fi, er, hS, hL, hG⟩ := h
  have K : Keep w0.heap.size wr w' := .of_below hb hB.size
  refine ⟨hB.trans K.below, v, ex, fi, er, hS.below hb, hL.below hb, fun i hi ho => ?_⟩
  rcases hG i hi ho with ⟨h1, h2, h3⟩ | h
  · exact .inl ⟨h1, h2, h3.keep K⟩
  · exact .inr h

/-- An attempt is opened. -/
theorem script_open {wr w2 : World} {v v' : Value} {ex fi : Nat → Option Addr} {er : Nat → ByteArray} {xs : List Value} {o : Obj} (ho : op k = true) (hB : Below w0.heap.size w0 wr)
    (hS : StepB wr w0.heap.size v) (hL : LogV wr w0.heap.size v (cnt op k) ex fi er) (hG : Stage wr op nc cs ne ss nt ts k ex fi er)
    (hl : xs.length = cnt op k * 6) (ha : ∀ i, i < cnt op k → Att (fun j => xs.getD j (.pointer none)) i (ex i) (fi i) (er i) oS)
    (hown : w2.ownsRow w0.heap.size 29 6 v' (cnt op k + 1) (xs ++ attNew)) (hg : (wr.alloc o).grownBy w2 v.ownBlock) :
    Script w0 op nc cs ne ss nt ts (k + 1) (w2.setCell ⟨w0.heap.size, 15, none⟩ v') := by
  have hsb := block_lt hS
  obtain ⟨g', cap', hv', hBg', hL'⟩ := LogV.appended hl ha hown
  have hK1 : Keep w0.heap.size wr (wr.alloc o) := .of_below ((Below.refl _ _).alloc (Nat.le_refl _) _) hB.size
  have hrow : ∀ (b : Nat) (c : Array Value) (t : TypeId), (wr.alloc o).heap[b]? = some (Obj.cells c t (0, 0)) → b < wr.heap.size → t ≠ 29 → some b ≠ v.ownBlock := by
    intro b c t hb hlt ht he
    rcases hL with ⟨h0, _⟩ | ⟨g, cap, h0, _, hC⟩
    · rw [h0] at he; simp [Value.ownBlock] at he
    · rw [h0] at he
      simp only [Value.ownBlock, Option.some.injEq] at he
      subst he
      obtain ⟨cur, hcur⟩ := hC.block
      rw [Below.heap_alloc _ _ _ hlt, hcur] at hb
      simp only [Option.some.injEq, Obj.cells.injEq] at hb
      exact ht hb.2.1.symm
  have hlow : ∀ q, v.ownBlock = some q → w0.heap.size ≤ q := by
    intro q hq
    rcases hL with ⟨h0, _⟩ | ⟨g, cap, h0, hBg, hC⟩
    · rw [h0] at hq; simp [Value.ownBlock] at hq
    · rw [h0] at hq
      simp only [Value.ownBlock, Option.some.injEq] at hq
      omega
  have hlt1 : wr.heap.size < (wr.alloc o).heap.size := by simp
  have hK2 : ∀ (b : Nat) (c : Array Value) (t : TypeId), wr.heap[b]? = some (Obj.cells c t (0, 0)) → t ≠ 29 → w2.heap[b]? = some (Obj.cells c t (0, 0)) := by
    intro b c t hb ht
    have hb1 : (wr.alloc o).heap[b]? = some (Obj.cells c t (0, 0)) := (Below.heap_alloc _ _ _ (block_lt hb)).trans hb
    exact (hg.block b (block_lt hb1) (hrow b c t hb1 (block_lt hb) ht)).trans hb1
  have hS2 : w2.heap[w0.heap.size]? = some (Obj.cells (stepC v) 41 (0, 0)) := hK2 _ _ _ hS (by decide)
  have hB2 : Below w0.heap.size w0 w2 := (hB.alloc hB.size o).grown hg (Nat.le_of_lt (Nat.lt_of_le_of_lt hB.size hlt1)) hlow
  have hg'ne : g' ≠ w0.heap.size := by
    intro he
    obtain ⟨cur, hcur⟩ := hL'.block
    rw [he, hS2] at hcur
    simp only [Option.some.injEq, Obj.cells.injEq] at hcur
    exact absurd hcur.2.1 (by decide)
  have K : Keep w0.heap.size wr (w2.setCell ⟨w0.heap.size, 15, none⟩ v') := by
    refine ⟨⟨?_, ?_, ?_, ?_, ?_⟩, ?_⟩
    · exact hg.os
    · exact hg.tape
    · exact hg.output
    · have h1 := hg.size
      have : (w2.setCell ⟨w0.heap.size, 15, none⟩ v').heap.size = w2.heap.size := by simp [World.setCell]
      omega
    · intro q hq
      rw [Below.heap_setCell _ _ _ _ (show q ≠ w0.heap.size by omega), hB2.block q hq, hB.block q hq]
    · intro b c t hb h1 h2
      have hne : b ≠ w0.heap.size := by
        intro he
        rw [he] at hb
        rw [show wr.heap[w0.heap.size]? = some (Obj.cells (stepC v) 41 (0, 0)) from hS] at hb
        simp only [Option.some.injEq, Obj.cells.injEq] at hb
        exact h2 hb.2.1.symm
      rw [Below.heap_setCell _ _ _ _ hne]
      exact hK2 b c t hb h1
  refine ⟨hB2.setCell (Nat.le_refl _) v', v', upd ex (cnt op k) none, upd fi (cnt op k) none, upd er (cnt op k) emptyS, ?_, .inr ⟨g', cap', ?_, hBg', ?_⟩, fun i hi hop => ?_⟩
  · show (w2.setCell ⟨w0.heap.size, 15, none⟩ v').heap[w0.heap.size]? = _
    simp only [World.setCell, Array.getElem?_modify, hS2]
    simp [stepC]
  · rw [cnt_hit ho]; exact hv'
  · rw [cnt_hit ho]; exact hL'.same (Below.heap_setCell _ _ _ _ hg'ne)
  · by_cases hik : i = k
    · subst hik
      exact .inr ⟨by omega, upd_same _ _ _, upd_same _ _ _, upd_same _ _ _⟩
    · have hlt : i < k := by omega
      have hc := cnt_lt hlt hop
      have hne : cnt op i ≠ cnt op k := by omega
      unfold Closed Opened
      rw [upd_other _ _ _ hne, upd_other _ _ _ hne, upd_other _ _ _ hne]
      rcases hG i hlt hop with ⟨h1, h2, h3⟩ | ⟨h1, h2⟩
      · exact .inl ⟨by omega, h2, h3.keep K⟩
      · refine .inr ⟨fun ⟨h3, h4⟩ => ?_, h2⟩
        by_cases h5 : i + 1 < k
        · exact h1 ⟨h5, h4⟩
        · have : i + 1 = k := by omega
          rw [this, ho] at h4
          cases h4

/-- What an end leaves. -/
def Ended2 (B : Nat) (v : Value) (n : Nat) (ec : Option Addr) (es : ByteArray) (t : Int) (ex fi : Nat → Option Addr) (er : Nat → ByteArray) (w w' : World) : Prop :=
  Keep B w w' ∧ StepB w' B v ∧ ∃ q, (opn n fi = true → TimeP w' t (some q)) ∧ LogV w' B v n (if opn n fi = true then upd ex (n - 1) ec else ex) (if opn n fi = true then upd fi (n - 1) (some q) else fi) (if opn n fi = true then upd er (n - 1) es else er)

/-- An end is recorded. -/
theorem script_end {wr w2 : World} {v : Value} {ex fi : Nat → Option Addr} {er : Nat → ByteArray} {p : Option Addr} (ho : op k = false) (hB : Below w0.heap.size w0 wr)
    (hG : Stage wr op nc cs ne ss nt ts k ex fi er) (hp : CodeP wr nc cs k p)
    (hE : Ended2 w0.heap.size v (cnt op k) p (errAt ne ss k) (nsAt nt ts k) ex fi er wr w2) :
    Script w0 op nc cs ne ss nt ts (k + 1) w2 := by
  obtain ⟨K, hS, q, hT, hL⟩ := hE
  refine ⟨hB.trans K.below, v, _, _, _, hS, by rw [cnt_miss ho]; exact hL, fun i hi hop => ?_⟩
  have hik : i ≠ k := by intro h; rw [h, ho] at hop; cases hop
  have hlt : i < k := by omega
  have hc := cnt_lt hlt hop
  by_cases hs : i + 1 = k
  · have ha : cnt op i = cnt op k - 1 := by rw [← hs, cnt_hit hop]; omega
    rcases hG i hlt hop with ⟨h1, _, _⟩ | ⟨_, h2, h3, h4⟩
    · omega
    have hopn : opn (cnt op k) fi = true := by
      rw [ha] at h3
      simp [opn, h3]; omega
    rw [hopn, if_pos rfl, if_pos rfl, if_pos rfl, ha, hs]
    exact .inl ⟨by omega, ho, upd_same _ _ _, by rw [upd_same]; exact hT hopn, by rw [upd_same]; exact hp.keep K⟩
  · have hlt2 : i + 1 < k := by omega
    rcases hG i hlt hop with ⟨h1, h2, h3⟩ | ⟨h1, h2⟩
    · refine .inl ⟨by omega, h2, ?_⟩
      have h3' := h3.keep K
      by_cases hopn : opn (cnt op k) fi = true
      · rw [if_pos hopn, if_pos hopn, if_pos hopn]
        have hne : cnt op i ≠ cnt op k - 1 := by
          intro he
          obtain ⟨tb, hf, _⟩ := h3.2.1
          rw [he] at hf
          simp [opn, hf] at hopn
        unfold Closed
        rw [upd_other _ _ _ hne, upd_other _ _ _ hne, upd_other _ _ _ hne]
        exact h3'
      · rw [if_neg hopn, if_neg hopn, if_neg hopn]; exact h3'
    · have ht : op (i + 1) = true := by
        by_cases h : op (i + 1) = true
        · exact h
        · exact absurd ⟨hlt2, by simpa using h⟩ h1
      refine .inr ⟨fun h => (by rw [ht] at h; cases h.2), ?_⟩
      have h5 := cnt_lt hlt2 ht
      have h6 := cnt_hit hop
      have hne : cnt op i ≠ cnt op k - 1 := by omega
      unfold Opened
      by_cases hopn : opn (cnt op k) fi = true
      · rw [if_pos hopn, if_pos hopn, if_pos hopn, upd_other _ _ _ hne, upd_other _ _ _ hne, upd_other _ _ _ hne]; exact h2
      · rw [if_neg hopn, if_neg hopn, if_neg hopn]; exact h2
end

/-- 'EndAttempt' on a log that grew by append. -/
theorem end_script {w : World} {B n : Nat} {v : Value} {ex fi : Nat → Option Addr} {er : Nat → ByteArray} (ec : Option Addr) (es : ByteArray) (t : Int)
    (hS : StepB w B v) (hL : LogV w B v n ex fi er) (hn : n ≤ 65536) :
    Calls Try.prog 7 #[.pointer (some ⟨B, 0, none⟩), .pointer ec, .string es, .agg #[.int .u64 (nsecOf t), .int .i64 (secOf t), .pointer none]] w fun e w' => e = .returned (.tuple #[]) ∧ Ended2 B v n ec es t ex fi er w w' := by
  have hs := hS.at
  have hsb := block_lt hS
  rcases hL with ⟨hv, h0⟩ | ⟨g, cap, hv, hBg, hC⟩
  · subst h0; subst hv
    have ho : opn 0 fi = false := by simp [opn]
    refine (end_none B 0 0 none ec es _ _ w hs.2.1 hs.1).mono ?_
    rintro e w' ⟨he, hb⟩
    refine ⟨he, .of_below hb (Nat.le_of_lt hsb), hS.below hb, ⟨0, 0, none⟩, fun h => (by rw [ho] at h; cases h), .inl ⟨rfl, rfl⟩⟩
  subst hv
  have hlt := hC.lt
  cases n with
  | zero =>
    have ho : opn 0 fi = false := by simp [opn]
    refine (end_none B 0 cap (some ⟨g, 0, none⟩) ec es _ _ w hs.2.1 hs.1).mono ?_
    rintro e w' ⟨he, hb⟩
    refine ⟨he, .of_below hb (Nat.le_of_lt hsb), hS.below hb, ⟨0, 0, none⟩, fun h => (by rw [ho] at h; cases h), .inr ⟨g, cap, rfl, hBg, ?_⟩⟩
    rw [ho]
    exact hC.same (hb.block g hlt)
  | succ m =>
    obtain ⟨g0, _, g2, g3, _, _⟩ := hC.cells (show m < m + 1 by omega)
    cases hfi : fi m with
    | some p =>
      have ho : opn (m + 1) fi = false := by simp [opn, hfi]
      rw [hfi] at g2
      refine (end_shut B 0 g 0 m cap ec es _ _ p w (by omega) hs.2.1 (by simpa using g2) hlt hs.1).mono ?_
      rintro e w' ⟨he, hb⟩
      refine ⟨he, .of_below hb (Nat.le_of_lt hsb), hS.below hb, ⟨0, 0, none⟩, fun h => (by rw [ho] at h; cases h), .inr ⟨g, cap, rfl, hBg, ?_⟩⟩
      rw [ho]
      exact hC.same (hb.block g hlt)
    | none =>
      have ho : opn (m + 1) fi = true := by simp [opn, hfi]
      rw [hfi] at g2
      have h := end_open B 0 g 0 m cap ec es (nsecOf t) (secOf t) w (by omega) hs.2.1 ⟨_, by simpa using g0⟩ ⟨_, by simpa using g3⟩ (by simpa using g2) hC.frozen hlt hs.1
      refine h.mono ?_
      rintro e w' ⟨he, k, hw⟩
      simp only [Nat.zero_add] at hw
      subst hw
      have hb1 : Below w.heap.size w ((w.alloc (timeObj (nsecOf t) (secOf t))).drewN k) := below_drewN ((Below.refl _ _).alloc (Nat.le_refl _) _) k
      have hT1 : ((w.alloc (timeObj (nsecOf t) (secOf t))).drewN k).heap[w.heap.size]? = some (.cells (timeCells t) 33 (0, 0)) := Go.Deep.blk_alloc_new _ _
      have hC1 : LogC ((w.alloc (timeObj (nsecOf t) (secOf t))).drewN k) g (m + 1) cap ex fi er := hC.same (hb1.block g hlt)
      have hS1 := hS.below hb1
      have hK1 : Keep B w ((w.alloc (timeObj (nsecOf t) (secOf t))).drewN k) := .of_below hb1 (Nat.le_of_lt hsb)
      generalize ((w.alloc (timeObj (nsecOf t) (secOf t))).drewN k) = w1 at *
      obtain ⟨cur1, hcur1⟩ := hC1.block
      have hne : B ≠ g := by
        intro hBg
        unfold StepB at hS1
        rw [hBg, hcur1] at hS1
        simp only [Option.some.injEq, Obj.cells.injEq] at hS1
        exact absurd hS1.2.1 (by decide)
      have hC2 := hC1.setEx m ec
      have hK2 : Keep B w1 (w1.setCell ⟨g, m * 6, none⟩ (.pointer ec)) := .setCell hcur1 (.inl rfl) hBg _
      obtain ⟨cur2, hcur2⟩ := hC2.block
      have hC3 := hC2.setEr m es
      have hK3 : Keep B _ ((w1.setCell ⟨g, m * 6, none⟩ (.pointer ec)).setCell ⟨g, m * 6 + 3, none⟩ (.string es)) := .setCell hcur2 (.inl rfl) hBg _
      obtain ⟨cur3, hcur3⟩ := hC3.block
      have hC4 := hC3.setFi m (some ⟨w.heap.size, 0, none⟩)
      have hK4 : Keep B _ (((w1.setCell ⟨g, m * 6, none⟩ (.pointer ec)).setCell ⟨g, m * 6 + 3, none⟩ (.string es)).setCell ⟨g, m * 6 + 2, none⟩ (.pointer (some ⟨w.heap.size, 0, none⟩))) := .setCell hcur3 (.inl rfl) hBg _
      have hK := (hK2.trans hK3).trans hK4
      refine ⟨he, hK1.trans hK, ?_, ⟨w.heap.size, 0, none⟩, fun _ => ⟨_, rfl, hK.other _ _ _ hT1 (by decide) (by decide)⟩, .inr ⟨g, cap, rfl, hBg, ?_⟩⟩
      · unfold StepB at hS1 ⊢
        rw [Below.heap_setCell _ _ _ _ hne, Below.heap_setCell _ _ _ _ hne, Below.heap_setCell _ _ _ _ hne]
        exact hS1
      · rw [if_pos ho, if_pos ho, if_pos ho]
        exact hC4
end Go.Proofs.Qxb6630566a
