/-
  THE WALK OF THE FIRST LAW (3). Own work on this program.
-/
import Derived.Test.Qxb6625996aSkip
import Derived.Laws.CopyOwn
import Derived.Deep.OwnRows
namespace Go.Proofs.Qxb6625996a
open Go.RowKit

theorem Try.info5 : (Try.prog.info? 5).map (fun i => (i.zero, i.size, i.bytes)) = some (some (.int .u8 0), 1, 1) := by kernel_rfl
theorem Try.size5 : (Try.prog.info? 5).map (·.size) = some 1 := by kernel_rfl

theorem addr_add (b o j : Nat) : (⟨b, o, none⟩ : Addr).add j = ⟨b, o + j, none⟩ := by
  unfold Addr.add
  split
  · subst_vars; rfl
  · rfl

/-- A new row of n bytes. -/
def freshBytes (n : Nat) : Obj := .cells (madeCells #[.int .u8 0] n) 5
theorem run_make_bytes (n : Nat) (hn : n ≤ 1048576) (w : World) :
    (Instr.makeSlice 22 (.int .i64 (n : Int)) (.int .i64 (n : Int))).run Try.prog w = .ok (.slice (some ⟨w.heap.size, 0, none⟩) n n) (w.alloc (freshBytes n)) :=
  run_make_row' 22 5 (.int .u8 0) 1 Try.underlying22 Try.info5 rfl .i64 .i64 n (by omega) (by omega) w

def cellsOfF (n : Nat) (f : Nat → Int) : List Value := (List.range n).map fun i => .int .u8 (f i)
theorem cellsOfF_length (n : Nat) (f : Nat → Int) : (cellsOfF n f).length = n := by simp [cellsOfF]
theorem cellsOfF_get {n : Nat} {f : Nat → Int} {j : Nat} {v : Value} (h : (cellsOfF n f)[j]? = some v) : j < n ∧ v = .int .u8 (f j) := by
  simp only [cellsOfF, List.getElem?_map, Option.map_eq_some_iff] at h
  obtain ⟨i, h1, rfl⟩ := h
  obtain ⟨h2, h3⟩ := List.getElem?_eq_some_iff.1 h1
  simp at h2 h3
  subst h3
  exact ⟨h2, rfl⟩
theorem cellsOfF_one {n : Nat} {f : Nat → Int} : ∀ v ∈ cellsOfF n f, v.oneCell' = true := by
  intro v hv
  simp only [cellsOfF, List.mem_map] at hv
  obtain ⟨i, _, rfl⟩ := hv
  rfl
def zeroRow (n : Nat) : List Value := (madeCells #[.int .u8 0] n).toList
theorem zeroRow_length (n : Nat) : (zeroRow n).length = n := by simp [zeroRow, size_madeCells]
theorem fresh_heap (w : World) (n : Nat) : (w.alloc (freshBytes n)).heap[w.heap.size]? = some (.cells (zeroRow n).toArray 5 (0, 0)) := by
  simp only [zeroRow, Array.toArray_toList]
  exact Go.Deep.blk_alloc_new _ _
theorem splice_whole (n : Nat) (f : Nat → Int) : splice (zeroRow n) 0 (cellsOfF n f) = cellsOfF n f := by
  simp [splice, cellsOfF_length, zeroRow_length, List.drop_eq_nil_of_le]
theorem bytes_of_row {w : World} {g n : Nat} {f : Nat → Int} (h : w.heap[g]? = some (.cells (splice (zeroRow n) 0 (cellsOfF n f)).toArray 5 (0, 0))) : BytesIn w (some ⟨g, 0, none⟩) n f := by
  rw [splice_whole] at h
  intro i hi
  refine ⟨g, 0, rfl, ?_, ?_⟩
  · exact (Array.getElem?_eq_some_iff.1 h).1
  · have : (cellsOfF n f)[i]? = some (.int .u8 (f i)) := by simp [cellsOfF, hi]
    simp [World.cell?, h, this]

set_option maxHeartbeats 1000000 in
theorem first_some (x : Addr) (len c s : Nat) (f : Nat → Int) (w : World) (h : BytesIn w (some x) len f) (hlen : len ≤ 1048576) :
    Calls Try.prog 3 #[.slice (some x) len c, .int .i64 s] w fun e w' => e = .returned (.bool true) ∧ Below w.heap.size w w' := by
  have hmk := run_make_bytes len hlen
  have hne := fun (w : World) (a : Option Addr) (l c : Nat) => run_neq_slice_nil (P := Try.prog) w 22 5 a l c Try.underlying22
  have h1 : decide ((1048576 : Int) < (len : Int)) = false := decide_eq_false (by omega)
  have h2 : decide ((s : Int) < 0) = false := decide_eq_false (by omega)
  have HI : Hid (BytesIn w (some x) len f) := h
  clear h
  go_enter Try.func3, Try.ntmps3
  go_wp2_with fail
  refine (bytes5 _ _ _ _ _).mono ?_
  rintro e w1 ⟨rfl, hw⟩
  obtain rfl : w = w1 := hw.symm
  rw [decide_eq_true hlen]
  go_wp2_with (first | (refine wpList_copy_splice rfl _ _ 22 22 rfl 5 Try.underlying22 Try.size5 _ _ _ _ _ _ rfl rfl w.heap.size 0 (zeroRow len) 5 (fresh_heap w len) (cellsOfF len f) ?c1 ?c2 ?c3 cellsOfF_one w.heap.size w ((Below.refl _ _).alloc (Nat.le_refl _) _) (Nat.le_refl _) ?_))
  case c1 => simp [cellsOfF_length]
  case c2 =>
    intro h0
    intro j v hv
    obtain ⟨hj, rfl⟩ := cellsOfF_get hv
    obtain ⟨bb, oo, hxx, hbb, hcell⟩ := HI.out j hj
    obtain rfl : x = ⟨bb, oo, none⟩ := Option.some.inj hxx
    have hq := (((Below.refl w.heap.size w).alloc (Nat.le_refl _) (freshBytes len)).cell (p := ⟨bb, oo + j, none⟩) hbb).trans hcell
    rw [addr_add]
    exact hq
  case c3 => simp [cellsOfF_length, zeroRow_length]
  intro w2 HG2 hB2
  have HB : Hid (BytesIn w2 (some ⟨w.heap.size, 0, none⟩) len f) := bytes_of_row HG2.out
  clear HG2 HI
  go_wp2_with fail
  refine (zzSkip _ _ _ _ f _ HB.out hlen).mono ?_
  rintro e w1 ⟨⟨r, rfl, hr⟩, hw'⟩
  obtain rfl : w2 = w1 := hw'.symm
  rcases hr with ⟨g1, g2⟩ | ⟨g1, g2, g3, g4, g5⟩
  · subst g2
    have k1 : (len : Int) ≤ (r : Int) := by omega
    go_wp2
    go_ret
    exact ⟨rfl, hB2⟩
  have k1 : decide (len ≤ s) = false := decide_eq_false (by omega)
  have k2 : decide (r < s) = false := decide_eq_false (by omega)
  have k3 : decide (len < r) = false := decide_eq_false (by omega)
  have H4 : Hid (∀ i, s ≤ i → i < r → sp (f i) = true) := g4
  have H5 : Hid (r < len → sp (f r) = false) := g5
  clear g4 g5
  go_wp2_with fail
  go_loop [7] (fun i => ∃ k : Nat, i = .int .i64 k ∧ s ≤ k ∧ k ≤ r) (fun i => r - (intOf i).toNat)
  case atStart => exact ⟨s, rfl, Nat.le_refl _, g2⟩
  case round =>
    obtain ⟨k, rfl, hsk, hk⟩ := hrel
    by_cases hlt : k < r
    · obtain ⟨bb, oo, ha, hbb, g0⟩ := HB.out k (by omega)
      obtain ⟨rfl, rfl⟩ : w.heap.size = bb ∧ 0 = oo := by simpa using ha
      rw [Nat.zero_add] at g0
      have hi1 : (k : Int) < (r : Int) := by omega
      have hi2 : (k : Int) < (len : Int) := by omega
      have hsp := H4.out k hsk hlt
      go_wp2_with fail
      refine (isSpace _ _).mono ?_
      rintro e w1 ⟨rfl, hw'⟩
      obtain rfl : w2 = w1 := hw'.symm
      rw [hsp]
      go_wp2
      go_round
      case rel => exact ⟨k + 1, by go_num, by omega, by omega⟩
      case measure => simp [intOf]; omega
    · obtain rfl : k = r := by omega
      by_cases hrl : k < len
      · obtain ⟨bb, oo, ha, hbb, g0⟩ := HB.out k (by omega)
        obtain ⟨rfl, rfl⟩ : w.heap.size = bb ∧ 0 = oo := by simpa using ha
        rw [Nat.zero_add] at g0
        have hi2 : (k : Int) < (len : Int) := by omega
        have hsp := H5.out hrl
        go_wp2_with fail
        refine (isSpace _ _).mono ?_
        rintro e w1 ⟨rfl, hw'⟩
        obtain rfl : w2 = w1 := hw'.symm
        rw [hsp]
        go_wp2_with fail
        refine (zzSkip _ _ _ _ f _ HB.out hlen).mono ?_
        rintro e w1 ⟨⟨r', rfl, hr⟩, hw'⟩
        obtain rfl : w2 = w1 := hw'.symm
        obtain rfl : r' = k := hr.uniq (.inr ⟨hrl, Nat.le_refl _, Nat.le_of_lt hrl, fun i h1 h2 => absurd h2 (by omega), fun _ => hsp⟩)
        go_wp2
        go_ret
        exact ⟨rfl, hB2⟩
      · have hi2 : ¬ (k : Int) < (len : Int) := by omega
        go_wp2_with fail
        refine (zzSkip _ _ _ _ f _ HB.out hlen).mono ?_
        rintro e w1 ⟨⟨r', rfl, hr⟩, hw'⟩
        obtain rfl : w2 = w1 := hw'.symm
        obtain rfl : r' = k := hr.uniq (.inl ⟨by omega, rfl⟩)
        go_wp2
        go_ret
        exact ⟨rfl, hB2⟩

theorem first_none (s : Nat) (w : World) :
    Calls Try.prog 3 #[.slice none 0 0, .int .i64 s] w fun e w' => e = .returned (.bool true) ∧ Below w.heap.size w w' := by
  have hne := fun (w : World) (a : Option Addr) (l c : Nat) => run_neq_slice_nil (P := Try.prog) w 22 5 a l c Try.underlying22
  have h2 : decide ((s : Int) < 0) = false := decide_eq_false (by omega)
  go_enter Try.func3, Try.ntmps3
  go_wp2_with fail
  refine (bytes5 _ _ _ _ _).mono ?_
  rintro e w1 ⟨rfl, hw⟩
  obtain rfl : w = w1 := hw.symm
  rw [decide_eq_true (by omega)]
  go_wp2_with fail
  refine (zzSkip none 0 0 s (fun _ => 0) _ (fun i hi => absurd hi (Nat.not_lt_zero _)) (by omega)).mono ?_
  rintro e w1 ⟨⟨r, rfl, hr⟩, hw'⟩
  obtain rfl : w = w1 := hw'.symm
  obtain rfl : r = s := hr.uniq (.inl ⟨Nat.zero_le _, rfl⟩)
  have k1 : (0 : Int) ≤ (r : Int) := by omega
  go_wp2
  go_ret
  exact ⟨rfl, Below.refl _ _⟩

/-- The first law, whatever came in. -/
theorem first_any (a : Option Addr) (len c : Nat) (z : Int) (f : Nat → Int) (w : World) (h : BytesIn w a len f) (hnone : a = none → len = 0 ∧ c = 0) :
    Calls Try.prog 3 #[.slice a len c, .int .i64 z] w fun e w' => e = .returned (.bool true) ∧ Below w.heap.size w w' := by
  by_cases hlen : len ≤ 1048576
  · by_cases hz : z < 0
    · have h1 : decide ((1048576 : Int) < (len : Int)) = false := decide_eq_false (by omega)
      clear h
      go_enter Try.func3, Try.ntmps3
      go_wp2_with fail
      refine (bytes5 _ _ _ _ _).mono ?_
      rintro e w1 ⟨rfl, hw⟩
      obtain rfl : w = w1 := hw.symm
      rw [decide_eq_true hlen]
      go_wp2
      go_ret
      exact ⟨rfl, Below.refl _ _⟩
    · obtain ⟨s, rfl⟩ : ∃ s : Nat, z = (s : Int) := ⟨z.toNat, by omega⟩
      cases a with
      | none =>
        obtain ⟨rfl, rfl⟩ := hnone rfl
        exact first_none s w
      | some x => exact first_some x len c s f w h hlen
  · clear h
    go_enter Try.func3, Try.ntmps3
    go_wp2_with fail
    refine (bytes5 _ _ _ _ _).mono ?_
    rintro e w1 ⟨rfl, hw⟩
    obtain rfl : w = w1 := hw.symm
    rw [decide_eq_false hlen]
    go_wp2
    go_ret
    exact ⟨rfl, Below.refl _ _⟩
end Go.Proofs.Qxb6625996a
