/-
  THE WALKS THAT BOTH LAWS SHARE: (Address).String (7), toAddress (6), zzBytes (5, 8). Own work on this program.
-/
import Derived.Test.Qxb6630617aBuilder
import Derived.Test.Qxb6630617aText
import Derived.Deep.OwnRows
import Derived.RegionTactic
import Derived.Deep.QuietTactic
import Derived.BigQuiet
namespace Go.Proofs.Qxb6630617a
open Go.RowKit

def bytesOf (s : ByteArray) : List UInt8 := s.data.toList
theorem bytesOf_length (s : ByteArray) : (bytesOf s).length = s.size := by simp [bytesOf]

/-- A slice of elements (two strings each) that came in or was made. -/
def ElemsIn (w : World) (a : Option Addr) (len : Nat) (tg vl : Nat → ByteArray) : Prop :=
  ∀ i, i < len → ∃ b o, a = some ⟨b, o, none⟩ ∧ b < w.heap.size ∧ w.cell? ⟨b, o + i * 2, none⟩ = some (.string (tg i)) ∧ w.cell? ⟨b, o + i * 2 + 1, none⟩ = some (.string (vl i))
theorem ElemsIn.below {w w' : World} {a : Option Addr} {len : Nat} {tg vl : Nat → ByteArray} (h : ElemsIn w a len tg vl) (hb : Below w.heap.size w w') : ElemsIn w' a len tg vl := by
  intro i hi
  obtain ⟨b, o, h1, h2, h3, h4⟩ := h i hi
  exact ⟨b, o, h1, Nat.lt_of_lt_of_le h2 hb.size, (hb.cell h2).trans h3, (hb.cell h2).trans h4⟩

theorem isBuilder_alloc {T e : TypeId} {B b : Nat} {bs : List Value} {w : World} (h : Lib.IsBuilder T e B b bs w) (o : Obj) : Lib.IsBuilder T e B b bs (w.alloc o) := by
  rcases h with ⟨h1, v, h2, h3, h4⟩ | ⟨h1, v, h2, h3, h4⟩
  · exact .inl ⟨h1, v, (Lib.alloc_old w o b (Lib.BuilderAt.lt ⟨h1, v, h2, h3, h4⟩)).trans h2, h3.alloc o, h4⟩
  · exact .inr ⟨h1, v, (Lib.alloc_old w o b (Lib.BuilderAt.lt ⟨h1, v, h2, h3, h4⟩)).trans h2, h3.alloc o, h4⟩

theorem isBuilder_lt {T e : TypeId} {B b : Nat} {bs : List Value} {w : World} (h : Lib.IsBuilder T e B b bs w) : b < w.heap.size := by
  rcases h with h | h
  · exact h.lt
  · exact h.lt

/-- The loop variable's block. -/
def ElAt (w : World) (eb : Nat) (t v : ByteArray) : Prop := w.heap[eb]? = some (.cells #[.string t, .string v] 33 (0, 0))
theorem ElAt.cell0 {w : World} {eb : Nat} {t v : ByteArray} (h : ElAt w eb t v) : w.cell? ⟨eb, 0, none⟩ = some (.string t) := by unfold ElAt at h; simp [World.cell?, h]
theorem ElAt.cell1 {w : World} {eb : Nat} {t v : ByteArray} (h : ElAt w eb t v) : w.cell? ⟨eb, 1, none⟩ = some (.string v) := by unfold ElAt at h; simp [World.cell?, h]
theorem ElAt.kept {w w' : World} {eb b : Nat} {t v : ByteArray} (h : ElAt w eb t v) (hk : Lib.OthersKept 5 (some b) w w') (hne : eb ≠ b) : ElAt w' eb t v := by
  refine hk eb _ h (by simpa using hne) ?_
  intro c fz he
  simp only [Obj.cells.injEq] at he
  exact absurd he.2.1 (by decide)

theorem cells_snoc (l : List UInt8) (c : UInt8) : Lib.byteCells l ++ [.int .u8 (c.toNat : Int)] = Lib.byteCells (l ++ [c]) := by simp [Lib.byteCells]
theorem cells_str (l : List UInt8) (s : ByteArray) : Lib.byteCells l ++ Lib.strCells s = Lib.byteCells (l ++ bytesOf s) := by simp [Lib.byteCells, Lib.strCells, bytesOf]

set_option maxHeartbeats 1000000 in
/-- '(Address).String'. -/
theorem string_any (a : Option Addr) (n c : Nat) (tg vl : Nat → ByteArray) (w : World) (h : ElemsIn w a n tg vl)
    (hlen : (bodyTo (fun i => bytesOf (tg i)) (fun i => bytesOf (vl i)) n).length ≤ 1073741824) (hn : n ≤ 1073741824) :
    Calls Try.prog 7 #[.slice a n c] w fun e w' => e = .returned (.string ⟨(txt (fun i => bytesOf (tg i)) (fun i => bytesOf (vl i)) n).toArray⟩) ∧ Below w.heap.size w w' := by
  go_enter Try.func7, Try.ntmps7
  go_wp2_with fail
  refine (writeByte_any w.heap.size w.heap.size [] 40 _ (Lib.fresh_isBuilder 37 5 w) (by simp) (by simp)).mono ?_
  rintro e w1 ⟨rfl, hI1, hb1, hk1⟩
  have hI : Lib.IsBuilder 37 5 w.heap.size w.heap.size (Lib.byteCells [40]) w1 := hI1
  have hb : Below w.heap.size w w1 := ((Below.refl _ _).alloc (Nat.le_refl _) _).trans hb1
  clear hI1 hb1 hk1
  go_wp2_with fail
  go_loopw [9] (fun i wr => ∃ k : Nat, k ≤ n ∧ i = .int .i64 k ∧ Lib.IsBuilder 37 5 w.heap.size w.heap.size (Lib.byteCells (40 :: bodyTo (fun i => bytesOf (tg i)) (fun i => bytesOf (vl i)) k)) wr ∧ Below w.heap.size w wr) (fun i _ => n - (intOf i).toNat)
  case atStart => exact ⟨0, Nat.zero_le _, rfl, hI, hb⟩
  case round =>
    obtain ⟨k, hk, rfl, hIr, hbr⟩ := hrel
    have HI : Hid (Lib.IsBuilder 37 5 w.heap.size w.heap.size (Lib.byteCells (40 :: bodyTo (fun i => bytesOf (tg i)) (fun i => bytesOf (vl i)) k)) wr) := hIr
    clear hI hb hIr
    by_cases hlt : k < n
    · obtain ⟨bb, oo, ha, hbb, g0, g1⟩ := (h.below hbr) k hlt
      subst ha
      have HE : Hid (ElAt (wr.alloc (.cells #[.string (tg k), .string (vl k)] 33)) wr.heap.size (tg k) (vl k)) := Go.Deep.blk_alloc_new _ _
      have hblt : w.heap.size < wr.heap.size := isBuilder_lt HI.out
      have hm := bodyTo_mono (fun i => bytesOf (tg i)) (fun i => bytesOf (vl i)) (show k + 1 ≤ n from hlt)
      have hsucc := bodyTo_succ (fun i => bytesOf (tg i)) (fun i => bytesOf (vl i)) k
      have HS : Hid (bodyTo (fun i => bytesOf (tg i)) (fun i => bytesOf (vl i)) (k + 1) = bodyTo (fun i => bytesOf (tg i)) (fun i => bytesOf (vl i)) k ++ ((if 0 < k then [32] else []) ++ (bytesOf (tg k) ++ (58 :: bytesOf (vl k))))) := hsucc
      rw [hsucc] at hm
      simp only [List.length_append, List.length_cons, bytesOf_length] at hm
      clear hsucc
      by_cases hk0 : 0 < k
      · rw [if_pos hk0] at hm
        simp only [List.length_cons, List.length_nil] at hm
        go_wp2_with fail
        refine (writeByte_any w.heap.size w.heap.size _ 32 _ (isBuilder_alloc HI.out _) (by simp only [Lib.byteCells_length, List.length_cons]; omega) (by simp; omega)).mono ?_
        rintro e w1 ⟨rfl, hI1, hb1, hk1⟩
        have E1 := HE.out.kept hk1 (Nat.ne_of_gt hblt)
        have J1 : Hid (Lib.IsBuilder 37 5 w.heap.size w.heap.size (Lib.byteCells ((40 :: bodyTo (fun i => bytesOf (tg i)) (fun i => bytesOf (vl i)) k) ++ [32])) w1) := by rw [← cells_snoc]; exact hI1
        have B1 : Hid (Below w.heap.size w w1) := (hbr.alloc hbr.size _).trans hb1
        have e0 := E1.cell0
        have HE1 : Hid (ElAt w1 wr.heap.size (tg k) (vl k)) := E1
        clear hI1 hb1 hk1 E1 HE HI g0 g1
        go_wp2_with fail
        refine (writeString_any w.heap.size w.heap.size _ (tg k) _ J1.out (by simp only [Lib.byteCells_length, List.length_append, List.length_cons, List.length_nil]; omega) B1.out.size).mono ?_
        rintro e w2 ⟨rfl, hI2, hb2, hk2⟩
        have J2 : Hid (Lib.IsBuilder 37 5 w.heap.size w.heap.size (Lib.byteCells (((40 :: bodyTo (fun i => bytesOf (tg i)) (fun i => bytesOf (vl i)) k) ++ [32]) ++ bytesOf (tg k))) w2) := by rw [← cells_str]; exact hI2
        have HE2 : Hid (ElAt w2 wr.heap.size (tg k) (vl k)) := HE1.out.kept hk2 (Nat.ne_of_gt hblt)
        have B2 : Hid (Below w.heap.size w w2) := B1.out.trans hb2
        clear hI2 hb2 hk2 e0 HE1 J1 B1
        go_wp2_with fail
        refine (writeByte_any w.heap.size w.heap.size _ 58 _ J2.out (by simp only [Lib.byteCells_length, List.length_append, List.length_cons, List.length_nil, bytesOf_length]; omega) B2.out.size).mono ?_
        rintro e w3 ⟨rfl, hI3, hb3, hk3⟩
        have J3 : Hid (Lib.IsBuilder 37 5 w.heap.size w.heap.size (Lib.byteCells ((((40 :: bodyTo (fun i => bytesOf (tg i)) (fun i => bytesOf (vl i)) k) ++ [32]) ++ bytesOf (tg k)) ++ [58])) w3) := by rw [← cells_snoc]; exact hI3
        have HE3 := HE2.out.kept hk3 (Nat.ne_of_gt hblt)
        have e1 := HE3.cell1
        have B3 : Hid (Below w.heap.size w w3) := B2.out.trans hb3
        clear hI3 hb3 hk3 HE3 HE2 J2 B2
        go_wp2_with fail
        refine (writeString_any w.heap.size w.heap.size _ (vl k) _ J3.out (by simp only [Lib.byteCells_length, List.length_append, List.length_cons, List.length_nil, bytesOf_length]; omega) B3.out.size).mono ?_
        rintro e w4 ⟨rfl, hI4, hb4, hk4⟩
        have J4 : Hid (Lib.IsBuilder 37 5 w.heap.size w.heap.size (Lib.byteCells (40 :: bodyTo (fun i => bytesOf (tg i)) (fun i => bytesOf (vl i)) (k + 1))) w4) := by
          unfold Hid
          rw [HS.out, if_pos hk0]
          rw [cells_str] at hI4
          simpa using hI4
        have B4 : Hid (Below w.heap.size w w4) := B3.out.trans hb4
        clear hI4 hb4 hk4 e1 J3 B3 HS
        go_wp2
        go_roundw
        case rel => exact ⟨k + 1, by omega, by go_num, J4.out, B4.out⟩
        case measure => simp [intOf]; omega
      · rw [if_neg hk0] at hm
        simp only [List.length_nil] at hm
        go_wp2_with fail
        refine (writeString_any w.heap.size w.heap.size _ (tg k) _ (isBuilder_alloc HI.out _) (by simp only [Lib.byteCells_length, List.length_cons]; omega) (by simp; omega)).mono ?_
        rintro e w2 ⟨rfl, hI2, hb2, hk2⟩
        have J2 : Hid (Lib.IsBuilder 37 5 w.heap.size w.heap.size (Lib.byteCells ((40 :: bodyTo (fun i => bytesOf (tg i)) (fun i => bytesOf (vl i)) k) ++ bytesOf (tg k))) w2) := by rw [← cells_str]; exact hI2
        have HE2 : Hid (ElAt w2 wr.heap.size (tg k) (vl k)) := HE.out.kept hk2 (Nat.ne_of_gt hblt)
        have B2 : Hid (Below w.heap.size w w2) := (hbr.alloc hbr.size _).trans hb2
        clear hI2 hb2 hk2 HE HI g0 g1
        go_wp2_with fail
        refine (writeByte_any w.heap.size w.heap.size _ 58 _ J2.out (by simp only [Lib.byteCells_length, List.length_append, List.length_cons, bytesOf_length]; omega) B2.out.size).mono ?_
        rintro e w3 ⟨rfl, hI3, hb3, hk3⟩
        have J3 : Hid (Lib.IsBuilder 37 5 w.heap.size w.heap.size (Lib.byteCells (((40 :: bodyTo (fun i => bytesOf (tg i)) (fun i => bytesOf (vl i)) k) ++ bytesOf (tg k)) ++ [58])) w3) := by rw [← cells_snoc]; exact hI3
        have HE3 := HE2.out.kept hk3 (Nat.ne_of_gt hblt)
        have e1 := HE3.cell1
        have B3 : Hid (Below w.heap.size w w3) := B2.out.trans hb3
        clear hI3 hb3 hk3 HE3 HE2 J2 B2
        go_wp2_with fail
        refine (writeString_any w.heap.size w.heap.size _ (vl k) _ J3.out (by simp only [Lib.byteCells_length, List.length_append, List.length_cons, List.length_nil, bytesOf_length]; omega) B3.out.size).mono ?_
        rintro e w4 ⟨rfl, hI4, hb4, hk4⟩
        have J4 : Hid (Lib.IsBuilder 37 5 w.heap.size w.heap.size (Lib.byteCells (40 :: bodyTo (fun i => bytesOf (tg i)) (fun i => bytesOf (vl i)) (k + 1))) w4) := by
          unfold Hid
          rw [HS.out, if_neg hk0]
          rw [cells_str] at hI4
          simpa using hI4
        have B4 : Hid (Below w.heap.size w w4) := B3.out.trans hb4
        clear hI4 hb4 hk4 e1 J3 B3 HS
        go_wp2
        go_roundw
        case rel => exact ⟨k + 1, by omega, by go_num, J4.out, B4.out⟩
        case measure => simp [intOf]; omega
    · have hkn : k = n := by omega
      subst hkn
      go_wp2_with fail
      refine (writeByte_any w.heap.size w.heap.size _ 41 _ HI.out (by simp only [Lib.byteCells_length, List.length_cons]; omega) hbr.size).mono ?_
      rintro e w1 ⟨rfl, hI1, hb1, hk1⟩
      have J1 : Hid (Lib.IsBuilder 37 5 w.heap.size w.heap.size (Lib.byteCells (txt (fun i => bytesOf (tg i)) (fun i => bytesOf (vl i)) k)) w1) := by
        have e : txt (fun i => bytesOf (tg i)) (fun i => bytesOf (vl i)) k = (40 :: bodyTo (fun i => bytesOf (tg i)) (fun i => bytesOf (vl i)) k) ++ [41] := rfl
        rw [e, ← cells_snoc]; exact hI1
      have B1 : Hid (Below w.heap.size w w1) := hbr.trans hb1
      clear hI1 hb1 hk1 HI
      go_wp2_with fail
      refine (Try.Builder_String_any w.heap.size w.heap.size _ _ J1.out B1.out.size).mono ?_
      rintro e w2 ⟨rfl, hb2⟩
      go_wp2
      go_ret
      exact ⟨rfl, B1.out.trans hb2⟩

/-- Every string is small. -/
def Small (n : Nat) (tg vl : Nat → ByteArray) : Prop := ∀ i, i < n → (tg i).size ≤ 1048576 ∧ (vl i).size ≤ 1048576
theorem small_step {k : Nat} {tg vl : Nat → ByteArray} (h : Small k tg vl) (h1 : (tg k).size ≤ 1048576) (h2 : (vl k).size ≤ 1048576) : Small (k + 1) tg vl := by
  intro i hi
  by_cases hik : i = k
  · subst hik; exact ⟨h1, h2⟩
  · exact h i (by omega)
/-- The bound's answer: some bool; if true, the slice and every string are small. -/
def Guard (n : Nat) (tg vl : Nat → ByteArray) (e : Ending) : Prop := ∃ b : Bool, e = .returned (.bool b) ∧ (b = true → n ≤ 1048576 ∧ Small n tg vl)
theorem guard_no (n : Nat) (tg vl : Nat → ByteArray) : Guard n tg vl (.returned (.bool false)) := ⟨false, rfl, fun h => by cases h⟩
theorem guard_yes {n : Nat} {tg vl : Nat → ByteArray} (h1 : n ≤ 1048576) (h : Small n tg vl) : Guard n tg vl (.returned (.bool true)) := ⟨true, rfl, fun _ => ⟨h1, h⟩⟩

set_option maxHeartbeats 400000 in
theorem bytes5_any (a : Option Addr) (n c : Nat) (tg vl : Nat → ByteArray) (x : Int) (w : World) (h : ElemsIn w a n tg vl) :
    Calls Try.prog 5 #[.slice a n c, .int .i64 x] w fun e w' => Guard n tg vl e ∧ w' = w := by
  go_enter Try.func5, Try.ntmps5
  go_wp2
  · go_ret; exact ⟨guard_no _ _ _, rfl⟩
  go_loop [5, 6] (fun z i => ∃ k : Nat, k ≤ n ∧ i = .int .i64 k ∧ Small k tg vl ∧ ∃ v : Int, 0 ≤ v ∧ v ≤ 1048576 ∧ z = .int .i64 v) (fun _ i => n - (intOf i).toNat)
  case atStart => exact ⟨0, Nat.zero_le _, rfl, fun i hi => absurd hi (Nat.not_lt_zero _), _, by omega, by omega, rfl⟩
  case round =>
    obtain ⟨k, hk, rfl, hsm, v, hv0, hv1, rfl⟩ := hrel
    have HS : Hid (Small k tg vl) := hsm
    clear hsm
    by_cases hlt : k < n
    · obtain ⟨b, o, ha, hb, g0, g1⟩ := h k hlt
      subst ha
      go_wp2
      · go_ret; exact ⟨guard_no _ _ _, rfl⟩
      · go_ret; exact ⟨guard_no _ _ _, rfl⟩
      · go_ret; exact ⟨guard_no _ _ _, rfl⟩
      · go_ret; exact ⟨guard_no _ _ _, rfl⟩
      · go_round
        case rel => exact ⟨k + 1, by omega, by go_num, small_step HS.out (by omega) (by omega), _, by omega, by omega, rfl⟩
        case measure => simp [intOf]; omega
    · have hkn : k = n := by omega
      subst hkn
      go_wp2
      go_ret
      exact ⟨guard_yes (by omega) HS.out, rfl⟩

set_option maxHeartbeats 400000 in
theorem bytes8_any (a : Option Addr) (n c : Nat) (tg vl : Nat → ByteArray) (w : World) (h : ElemsIn w a n tg vl) :
    Calls Try.prog 8 #[.slice a n c] w fun e w' => Guard n tg vl e ∧ w' = w := by
  go_enter Try.func8, Try.ntmps8
  go_wp2
  · go_ret; exact ⟨guard_no _ _ _, rfl⟩
  go_loop [3, 4] (fun z i => ∃ k : Nat, k ≤ n ∧ i = .int .i64 k ∧ Small k tg vl ∧ ∃ v : Int, 0 ≤ v ∧ v ≤ 1048576 ∧ z = .int .i64 v) (fun _ i => n - (intOf i).toNat)
  case atStart => exact ⟨0, Nat.zero_le _, rfl, fun i hi => absurd hi (Nat.not_lt_zero _), _, by omega, by omega, rfl⟩
  case round =>
    obtain ⟨k, hk, rfl, hsm, v, hv0, hv1, rfl⟩ := hrel
    have HS : Hid (Small k tg vl) := hsm
    clear hsm
    by_cases hlt : k < n
    · obtain ⟨b, o, ha, hb, g0, g1⟩ := h k hlt
      subst ha
      go_wp2
      · go_ret; exact ⟨guard_no _ _ _, rfl⟩
      · go_ret; exact ⟨guard_no _ _ _, rfl⟩
      · go_ret; exact ⟨guard_no _ _ _, rfl⟩
      · go_ret; exact ⟨guard_no _ _ _, rfl⟩
      · go_round
        case rel => exact ⟨k + 1, by omega, by go_num, small_step HS.out (by omega) (by omega), _, by omega, by omega, rfl⟩
        case measure => simp [intOf]; omega
    · have hkn : k = n := by omega
      subst hkn
      go_wp2
      go_ret
      exact ⟨guard_yes (by omega) HS.out, rfl⟩

/-- A new row of n elements, two cells each. -/
def freshEls (n : Nat) : Obj := .cells (madeCells #[.string ⟨#[]⟩, .string ⟨#[]⟩] (n * 2)) 33
theorem Try.info33 : (Try.prog.info? 33).map (fun i => (i.zero, i.size, i.bytes)) = some (some (.agg #[.string ⟨#[]⟩, .string ⟨#[]⟩]), 2, 32) := by kernel_rfl
theorem run_make_els (n : Nat) (hn : n ≤ 1048576) (w : World) :
    (Instr.makeSlice 27 (.int .i64 (n : Int)) (.int .i64 (n : Int))).run Try.prog w = .ok (.slice (some ⟨w.heap.size, 0, none⟩) n n) (w.alloc (freshEls n)) := by
  obtain ⟨i, hi, hz, hs, hb⟩ := info_parts Try.info33
  have hr := run_make (P := Try.prog) w 27 33 i _ Try.underlying27 hi hz .i64 .i64 n n (by omega) (Int.le_refl _) (by rw [hb]; omega) (by omega)
  simp only [Int.toNat_natCast, hs] at hr
  exact hr

/-- The row behind k rounds of the copy. -/
def Copied (w : World) (g n k : Nat) (tg vl : Nat → ByteArray) : Prop :=
  ∃ f, w.rowIs g 33 (n * 2) f ∧ ∀ i, i < k → f (i * 2) = .string (tg i) ∧ f (i * 2 + 1) = .string (vl i)

theorem copied_start (w : World) (n : Nat) (tg vl : Nat → ByteArray) : Copied (w.alloc (freshEls n)) w.heap.size n 0 tg vl := by
  refine ⟨fun j => (#[.string ⟨#[]⟩, .string ⟨#[]⟩] : Array Value)[j % 2]!, ⟨_, Go.Deep.blk_alloc_new _ _, size_madeCells _ _, fun i hi => ?_⟩, fun i hi => absurd hi (Nat.not_lt_zero _)⟩
  simp [madeCells, hi]
theorem copied_step {w : World} {g n k : Nat} {tg vl : Nat → ByteArray} (h : Copied w g n k tg vl) (hk : k < n) :
    Copied ((w.setCell ⟨g, k * 2, none⟩ (.string (tg k))).setCell ⟨g, k * 2 + 1, none⟩ (.string (vl k))) g n (k + 1) tg vl := by
  obtain ⟨f, hr, hf⟩ := h
  refine ⟨_, (hr.set (k * 2) (.string (tg k))).set (k * 2 + 1) (.string (vl k)), fun i hi => ?_⟩
  by_cases hik : i = k
  · subst hik
    exact ⟨by simp, by simp⟩
  · have h1 : ¬ i * 2 = k * 2 + 1 := by omega
    have h2 : ¬ i * 2 = k * 2 := by omega
    have h3 : ¬ i * 2 + 1 = k * 2 + 1 := by omega
    have h4 : ¬ i * 2 + 1 = k * 2 := by omega
    simp only [h1, h2, h3, h4, if_false]
    exact hf i (by omega)
/-- What the copy gives its reader: from element j on. -/
theorem Copied.elems {w : World} {g n : Nat} {tg vl : Nat → ByteArray} (h : Copied w g n n tg vl) (j m : Nat) (hj : j + m ≤ n) : ElemsIn w (some ⟨g, j * 2, none⟩) m (fun i => tg (j + i)) (fun i => vl (j + i)) := by
  obtain ⟨f, hr, hf⟩ := h
  intro i hi
  have := hf (j + i) (by omega)
  refine ⟨g, j * 2, rfl, hr.lt, ?_, ?_⟩
  · rw [show j * 2 + i * 2 = (j + i) * 2 from by omega, hr.cell (by omega), this.1]
  · rw [show j * 2 + i * 2 + 1 = (j + i) * 2 + 1 from by omega, hr.cell (by omega), this.2]

set_option maxHeartbeats 1000000 in
/-- 'toAddress'. -/
theorem toAddress_any (a : Option Addr) (n c : Nat) (tg vl : Nat → ByteArray) (w : World) (h : ElemsIn w a n tg vl) (hn : n ≤ 1048576) :
    Calls Try.prog 6 #[.slice a n c] w fun e w' => e = .returned (.slice (some ⟨w.heap.size, 0, none⟩) n n) ∧ Copied w' w.heap.size n n tg vl ∧ Below w.heap.size w w' := by
  have hmk := run_make_els n hn
  go_enter Try.func6, Try.ntmps6
  go_wp2_with fail
  go_loopw [10] (fun i wr => ∃ k : Nat, k ≤ n ∧ i = .int .i64 k ∧ Copied wr w.heap.size n k tg vl ∧ Below w.heap.size w wr) (fun i _ => n - (intOf i).toNat)
  case atStart => exact ⟨0, Nat.zero_le _, rfl, copied_start w n tg vl, (Below.refl _ _).alloc (Nat.le_refl _) _⟩
  case round =>
    obtain ⟨k, hk, rfl, hC, hbr⟩ := hrel
    have HC : Hid (Copied wr w.heap.size n k tg vl) := hC
    by_cases hlt : k < n
    · obtain ⟨bb, oo, ha, hbb, g0, g1⟩ := h k hlt
      subst ha
      have k0 : wr.cell? ⟨bb, oo + k * 2, none⟩ = some (.string (tg k)) := (hbr.cell hbb).trans g0
      have k1 : wr.cell? ⟨bb, oo + k * 2 + 1, none⟩ = some (.string (vl k)) := (hbr.cell hbb).trans g1
      obtain ⟨f, hr, _⟩ := hC
      have q0 := hr.cell (show k * 2 < n * 2 by omega)
      have q1 := hr.cell (show k * 2 + 1 < n * 2 by omega)
      have fz := hr.frozen
      have hne : ¬ bb = w.heap.size := by omega
      have hi1 : (k : Int) < (n : Int) := by omega
      clear hr g0 g1
      go_wp2_with fail
      go_region
      all_goals
        go_wp2
        go_roundw
        case rel => exact ⟨k + 1, by omega, by go_num, copied_step HC.out hlt, ((hbr.setCell (p := ⟨w.heap.size, k * 2, none⟩) (Nat.le_refl _) _).setCell (p := ⟨w.heap.size, k * 2 + 1, none⟩) (Nat.le_refl _) _).drew⟩
        case measure => simp [intOf]; omega
    · have hkn : k = n := by omega
      subst hkn
      clear hC
      go_wp2
      go_ret
      exact ⟨rfl, HC.out, hbr⟩
end Go.Proofs.Qxb6630617a
