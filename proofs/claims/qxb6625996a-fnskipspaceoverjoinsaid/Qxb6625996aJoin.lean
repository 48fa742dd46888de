/-
  THE WALK OF THE SECOND LAW (4). Own work on this program.
-/
import Derived.Test.Qxb6625996aFirst
import Derived.OwnWalk
namespace Go.Proofs.Qxb6625996a
open Go.RowKit
set_option linter.unnecessarySimpa false

/-- zzBytes of the second law. -/
theorem bytes8 (a b : Option Addr) (la ca lb cb : Nat) (z : Int) (w : World) :
    Calls Try.prog 8 #[.slice a la ca, .slice b lb cb, .int .i64 z] w fun e w' => e = .returned (.bool (decide (la ≤ 1048576 ∧ lb ≤ 1048576 ∧ la + lb ≤ 1048576))) ∧ w' = w := by
  by_cases h1 : la ≤ 1048576
  · have k1 : ¬ (1048576 : Int) < (la : Int) := by omega
    by_cases h2 : lb ≤ 1048576
    · have k2 : ¬ (1048576 : Int) < (lb : Int) := by omega
      by_cases h3 : la + lb ≤ 1048576
      · have k3 : ¬ (1048576 : Int) < (la : Int) + (lb : Int) := by omega
        rw [decide_eq_true ⟨h1, h2, h3⟩]
        go_enter Try.func8, Try.ntmps8
        go_wp2
        go_ret
        exact ⟨rfl, rfl⟩
      · have k3 : (1048576 : Int) < (la : Int) + (lb : Int) := by omega
        rw [decide_eq_false (by omega)]
        go_enter Try.func8, Try.ntmps8
        go_wp2
        go_ret
        exact ⟨rfl, rfl⟩
    · have k2 : (1048576 : Int) < (lb : Int) := by omega
      rw [decide_eq_false (by omega)]
      go_enter Try.func8, Try.ntmps8
      go_wp2
      go_ret
      exact ⟨rfl, rfl⟩
  · have k1 : (1048576 : Int) < (la : Int) := by omega
    rw [decide_eq_false (by omega)]
    go_enter Try.func8, Try.ntmps8
    go_wp2
    go_ret
    exact ⟨rfl, rfl⟩

/-- The two parts, one behind the other. -/
def joined (la : Nat) (f g : Nat → Int) : Nat → Int := fun i => if i < la then f i else g (i - la)

theorem joined_cells (la lb : Nat) (f g : Nat → Int) (i : Nat) (hi : i < la + lb) : (cellsOfF la f ++ cellsOfF lb g)[i]? = some (.int .u8 (joined la f g i)) := by
  unfold joined
  by_cases h : i < la
  · rw [List.getElem?_append_left (by rw [cellsOfF_length]; exact h), if_pos h]
    simp [cellsOfF, h]
  · rw [List.getElem?_append_right (by rw [cellsOfF_length]; omega), cellsOfF_length, if_neg h]
    have : i - la < lb := by omega
    simp [cellsOfF, this]

theorem bytes_of_own {w : World} {base g n cap : Nat} {xs : List Value} {f : Nat → Int} (h : w.ownsRow base 5 1 (.slice (some ⟨g, 0, none⟩) n cap) n xs) (hx : ∀ i, i < n → xs[i]? = some (.int .u8 (f i))) :
    BytesIn w (some ⟨g, 0, none⟩) n f := by
  rcases h.2 with ⟨h', _⟩ | ⟨g', cap', cur, h', hb, hg, hnc, hcm, hcs, htake⟩
  · simp at h'
  · simp only [Value.slice.injEq, Option.some.injEq, Addr.mk.injEq] at h'
    obtain ⟨⟨rfl, _⟩, _, rfl⟩ := h'
    intro i hi
    refine ⟨g, 0, rfl, (Array.getElem?_eq_some_iff.1 hg).1, ?_⟩
    have hxi := hx i hi
    rw [← htake, List.getElem?_take_of_lt (by omega)] at hxi
    simpa [World.cell?, hg] using hxi

theorem below_grown {B : Nat} {w0 w w' : World} {g : Nat} (hb : Below B w0 w) (hB : B ≤ g) (h : w.grownBy w' (some g)) (hs : B ≤ w.heap.size) : Below B w0 w' :=
  hb.trans ⟨h.os, h.tape, h.output, h.size, fun k hk => h.block k (by omega) (by simp; omega)⟩
theorem below_grown0 {B : Nat} {w0 w w' : World} (hb : Below B w0 w) (h : w.grownBy w' none) (hs : B ≤ w.heap.size) : Below B w0 w' :=
  hb.trans ⟨h.os, h.tape, h.output, h.size, fun k hk => h.block k (by omega) (by simp)⟩

/-- The plain law of the join. -/
theorem join_plain {la lb s ra rb r : Nat} {f g : Nat → Int} (hs : s ≤ la) (ha : Skip f la s ra) (hb : Skip g lb 0 rb) (hab : Skip (joined la f g) (la + lb) s r) :
    (ra < la → r = ra) ∧ (¬ ra < la → r = la + rb) ∧ s ≤ r ∧ r ≤ la + lb ∧ (∀ i, s ≤ i → i < r → sp (joined la f g i) = true) ∧ (r < la + lb → sp (joined la f g r) = false) := by
  have hA : s ≤ ra ∧ ra ≤ la ∧ (∀ i, s ≤ i → i < ra → sp (f i) = true) ∧ (ra < la → sp (f ra) = false) := by
    rcases ha with ⟨h1, rfl⟩ | ⟨h1, h2, h3, h4, h5⟩
    · exact ⟨Nat.le_refl _, hs, fun i h1 h2 => absurd h2 (by omega), fun h => absurd h (by omega)⟩
    · exact ⟨h2, h3, h4, h5⟩
  have hB : rb ≤ lb ∧ (∀ i, i < rb → sp (g i) = true) ∧ (rb < lb → sp (g rb) = false) := by
    rcases hb with ⟨h1, rfl⟩ | ⟨h1, h2, h3, h4, h5⟩
    · exact ⟨Nat.zero_le _, fun i h2 => absurd h2 (by omega), fun h => absurd h (by omega)⟩
    · exact ⟨h3, fun i h => h4 i (Nat.zero_le _) h, h5⟩
  obtain ⟨a1, a2, a3, a4⟩ := hA
  obtain ⟨b1, b2, b3⟩ := hB
  -- the one answer
  have key : Skip (joined la f g) (la + lb) s (if ra < la then ra else la + rb) := by
    by_cases hlt : s < la + lb
    · refine .inr ⟨hlt, ?_⟩
      by_cases h : ra < la
      · rw [if_pos h]
        refine ⟨a1, by omega, fun i h1 h2 => ?_, fun _ => ?_⟩
        · unfold joined; rw [if_pos (by omega)]; exact a3 i h1 h2
        · unfold joined; rw [if_pos h]; exact a4 h
      · rw [if_neg h]
        refine ⟨by omega, by omega, fun i h1 h2 => ?_, fun h2 => ?_⟩
        · unfold joined
          by_cases hi : i < la
          · rw [if_pos hi]; exact a3 i h1 (by omega)
          · rw [if_neg hi]; exact b2 _ (by omega)
        · unfold joined; rw [if_neg (by omega), Nat.add_sub_cancel_left]; exact b3 (by omega)
    · refine .inl ⟨by omega, ?_⟩
      rw [if_neg (by omega)]; omega
  have hr := hab.uniq key
  refine ⟨fun h => by rw [hr, if_pos h], fun h => by rw [hr, if_neg h], ?_⟩
  rcases key with ⟨h1, h2⟩ | ⟨h1, h2, h3, h4, h5⟩
  · rw [← hr] at h2
    subst h2
    exact ⟨Nat.le_refl _, by omega, fun i h1 h2 => absurd h2 (by omega), fun h => absurd h (by omega)⟩
  · rw [← hr] at h2 h3 h4 h5
    exact ⟨h2, h3, h4, h5⟩

/-- One copy's cells. -/
theorem copy_cells {w : World} {x : Addr} {n : Nat} {f : Nat → Int} (h : BytesIn w (some x) n f) (m : Nat) : ∀ j v, (cellsOfF n f)[j]? = some v → (w.alloc (freshBytes m)).cell? (x.add j) = some v := by
  intro j v hv
  obtain ⟨hj, rfl⟩ := cellsOfF_get hv
  obtain ⟨bb, oo, hxx, hbb, hcell⟩ := h j hj
  obtain rfl : x = ⟨bb, oo, none⟩ := Option.some.inj hxx
  have hq := (((Below.refl w.heap.size w).alloc (Nat.le_refl _) (freshBytes m)).cell (p := ⟨bb, oo + j, none⟩) hbb).trans hcell
  rw [addr_add]
  exact hq
theorem src_cells {w : World} {a : Option Addr} {n : Nat} {f : Nat → Int} (h : BytesIn w a n f) : ∀ ad, a = some ad → ∀ j v, (cellsOfF n f)[j]? = some v → w.cell? (ad.add j) = some v := by
  rintro ad rfl j v hv
  obtain ⟨hj, rfl⟩ := cellsOfF_get hv
  obtain ⟨bb, oo, hxx, hbb, hcell⟩ := h j hj
  obtain rfl : ad = ⟨bb, oo, none⟩ := Option.some.inj hxx
  rw [addr_add]
  exact hcell

set_option maxRecDepth 100000 in
set_option maxHeartbeats 2000000 in
theorem join_ss (x : Addr) (la ca : Nat) (y : Addr) (lb cb : Nat) (s : Nat) (f g : Nat → Int) (w : World) (ha : BytesIn w (some x) la f) (hla : la ≤ 524288) (hb : BytesIn w (some y) lb g) (hlb : lb ≤ 524288) (hs : s ≤ la) :
    Calls Try.prog 4 #[.slice (some x) la ca, .slice (some y) lb cb, .int .i64 s] w fun e w' => e = .returned (.bool true) ∧ Below w.heap.size w w' := by
  obtain ⟨i5, hi5, hz0, hz1, hz2⟩ := info_parts Try.info5
  have hmka := run_make_bytes la (by omega)
  have hmkb := run_make_bytes lb (by omega)
  have hne := fun (w : World) (a : Option Addr) (l c : Nat) => run_neq_slice_nil (P := Try.prog) w 22 5 a l c Try.underlying22
  have h1 : decide ((524288 : Int) < (la : Int)) = false := decide_eq_false (by omega)
  have h2 : decide ((524288 : Int) < (lb : Int)) = false := decide_eq_false (by omega)
  have h3 : decide ((s : Int) < 0) = false := decide_eq_false (by omega)
  have h4 : decide (la < s) = false := decide_eq_false (by omega)
  have HA : Hid (BytesIn w (some x) la f) := ha
  clear ha
  have HB : Hid (BytesIn w (some y) lb g) := hb
  clear hb
  have H0 : Hid (Below w.heap.size w w) := Below.refl _ _
  go_enter Try.func4, Try.ntmps4
  go_wp2_with fail
  refine (bytes8 _ _ _ _ _ _ _ _).mono ?_
  rintro e w1 ⟨rfl, hw⟩
  obtain rfl : w = w1 := hw.symm
  rw [decide_eq_true (by omega)]
  go_wp2_with (refine wpList_copy_splice rfl _ _ 22 22 rfl 5 Try.underlying22 Try.size5 _ _ _ _ _ _ rfl rfl w.heap.size 0 (zeroRow la) 5 (fresh_heap w la) (cellsOfF la f) ?c1a ?c2a ?c3a cellsOfF_one w.heap.size w ((Below.refl _ _).alloc (Nat.le_refl _) _) (Nat.le_refl _) ?_)
  case c1a => simp [cellsOfF_length]
  case c2a => exact fun _ => copy_cells HA.out la
  case c3a => simp [cellsOfF_length, zeroRow_length]
  intro wa HGa hBa
  have HCa : Hid (BytesIn wa (some ⟨w.heap.size, 0, none⟩) la f) := bytes_of_row HGa.out
  have HWa : Hid (Below w.heap.size w wa) := hBa
  clear HGa hBa
  have HB2 : Hid (BytesIn wa (some y) lb g) := HB.out.below HWa.out
  clear HB
  have HB : Hid (BytesIn wa (some y) lb g) := HB2
  clear HB2
  have HT : Hid (Below w.heap.size w wa) := HWa.out
  have hsz : w.heap.size ≤ wa.heap.size := HWa.out.size
  clear H0
  go_wp2_with (refine wpList_copy_splice rfl _ _ 22 22 rfl 5 Try.underlying22 Try.size5 _ _ _ _ _ _ rfl rfl wa.heap.size 0 (zeroRow lb) 5 (fresh_heap wa lb) (cellsOfF lb g) ?c1b ?c2b ?c3b cellsOfF_one wa.heap.size wa ((Below.refl _ _).alloc (Nat.le_refl _) _) (Nat.le_refl _) ?_)
  case c1b => simp [cellsOfF_length]
  case c2b => exact fun _ => copy_cells HB.out lb
  case c3b => simp [cellsOfF_length, zeroRow_length]
  intro wb HGb hBb
  have HCb : Hid (BytesIn wb (some ⟨wa.heap.size, 0, none⟩) lb g) := bytes_of_row HGb.out
  have HWb : Hid (Below wa.heap.size wa wb) := hBb
  clear HGb hBb
  have HC2 : Hid (BytesIn wb (some ⟨w.heap.size, 0, none⟩) la f) := HCa.out.below HWb.out
  clear HCa
  have HCa : Hid (BytesIn wb (some ⟨w.heap.size, 0, none⟩) la f) := HC2
  clear HC2
  have HT2 : Hid (Below w.heap.size w wb) := HT.out.trans (HWb.out.mono hsz)
  clear HT
  have HT := HT2
  clear HT2
  have hsz2 : wa.heap.size ≤ wb.heap.size := HWb.out.size
  have hsz3 : w.heap.size ≤ wb.heap.size := by omega
  go_wp2_with (first | (at_make; refine wpList_make_own _ rfl _ _ 22 rfl wb.heap.size 5 i5 (.int .u8 0) 1 Try.underlying22 hi5 hz0 hz1 _ _ _ (la + lb) rfl rfl (by omega) ?m1 ?m2 ?m3 ?_))
  case m1 => rw [hz2]; omega
  case m2 => unfold maxLen; omega
  case m3 => exact Nat.le_refl _
  intro w4 hown4 hgrow4
  have HO4 : Hid (w4.ownsRow wb.heap.size 5 1 (.slice (some ⟨wb.heap.size, 0, none⟩) 0 (la + lb)) 0 []) := hown4
  have HW4 : Hid (Below wb.heap.size wb w4) := below_grown0 (Below.refl _ _) hgrow4 (Nat.le_refl _)
  clear hown4 hgrow4
  have hsz4 : wb.heap.size ≤ w4.heap.size := HW4.out.size
  go_wp2_with (first | (at_builtin; refine wpList_append_fits_any _ rfl _ _ 22 rfl wb.heap.size 5 i5 1 Try.underlying22 hi5 hz1 wb.heap.size 0 (la + lb) [] rfl HO4.out (some ⟨w.heap.size, 0, none⟩) _ _ (cellsOfF la f) rfl (by simp [cellsOfF_length]) (by simp) (src_cells (HCa.out.below HW4.out)) cellsOfF_one (by omega) ?_))
  intro w5 hown5 hgrow5
  have HO5 : Hid (w5.ownsRow wb.heap.size 5 1 (.slice (some ⟨wb.heap.size, 0, none⟩) (la) (la + lb)) (la) (cellsOfF la f)) := (by simpa using hown5 : w5.ownsRow wb.heap.size 5 1 (.slice (some ⟨wb.heap.size, 0, none⟩) (la) (la + lb)) (la) (cellsOfF la f))
  have HW5 : Hid (Below wb.heap.size wb w5) := below_grown HW4.out (Nat.le_refl _) hgrow5 hsz4
  clear hown5 hgrow5
  have hsz5 : wb.heap.size ≤ w5.heap.size := HW5.out.size
  go_wp2_with (first | (at_builtin; refine wpList_append_fits_any _ rfl _ _ 22 rfl wb.heap.size 5 i5 1 Try.underlying22 hi5 hz1 wb.heap.size (la) (la + lb) (cellsOfF la f) rfl HO5.out (some ⟨wa.heap.size, 0, none⟩) _ _ (cellsOfF lb g) rfl (by simp [cellsOfF_length]) (by simp) (src_cells (HCb.out.below HW5.out)) cellsOfF_one (by omega) ?_))
  intro w6 hown6 hgrow6
  have HCj : Hid (BytesIn w6 (some ⟨wb.heap.size, 0, none⟩) (la + lb) (joined la f g)) := bytes_of_own (f := joined la f g) (by simpa using hown6) (fun i hi => joined_cells _ _ _ _ _ (by omega))
  have HW6 : Hid (Below wb.heap.size wb w6) := below_grown HW5.out (Nat.le_refl _) hgrow6 hsz5
  clear hown6 hgrow6
  have HA6 : Hid (BytesIn w6 (some ⟨w.heap.size, 0, none⟩) la f) := HCa.out.below HW6.out
  have HB6 : Hid (BytesIn w6 (some ⟨wa.heap.size, 0, none⟩) lb g) := HCb.out.below HW6.out
  have HT6 : Hid (Below w.heap.size w w6) := HT.out.trans (HW6.out.mono hsz3)
  clear HT HCa HCb HO4 HO5 HW4 HW5
  go_wp2_with fail
  refine (zzSkip _ _ _ _ f _ HA6.out (by omega)).mono ?_
  rintro e w1 ⟨⟨ra, rfl, hra⟩, hw'⟩
  obtain rfl : w6 = w1 := hw'.symm
  have HRA : Hid (Skip f la _ ra) := hra
  clear hra
  go_wp2_with fail
  refine (zzSkip _ _ _ 0 g _ HB6.out (by omega)).mono ?_
  rintro e w1 ⟨⟨rb, rfl, hrb⟩, hw'⟩
  obtain rfl : w6 = w1 := hw'.symm
  have HRB : Hid (Skip g lb 0 rb) := hrb
  clear hrb
  go_wp2_with fail
  refine (zzSkip _ _ _ _ (joined la f g) _ HCj.out (by omega)).mono ?_
  rintro e w1 ⟨⟨r, rfl, hr⟩, hw'⟩
  obtain rfl : w6 = w1 := hw'.symm
  obtain ⟨g1, g2, g3, g4, g5, g6⟩ := join_plain (la := la) (lb := lb) (by omega) HRA.out HRB.out (by simpa using hr)
  clear hr
  by_cases hc : ra < la
  · obtain rfl : r = ra := g1 hc
    have e1 : decide (r < la) = true := decide_eq_true hc
    have e2 : decide (r < s) = false := decide_eq_false (by omega)
    have e3 : decide (la + lb < r) = false := decide_eq_false (by omega)
    have H5 : Hid (∀ i, s ≤ i → i < r → sp (joined la f g i) = true) := g5
    have H6 : Hid (r < la + lb → sp (joined la f g r) = false) := (fun h => g6 (by omega))
    clear g5 g6 g1 g2
    go_wp2_with fail
    go_loop [13] (fun i => ∃ k : Nat, i = .int .i64 k ∧ s ≤ k ∧ k ≤ r) (fun i => r - (intOf i).toNat)
    case atStart => exact ⟨s, rfl, Nat.le_refl _, g3⟩
    case round =>
      obtain ⟨k, rfl, hsk, hk⟩ := hrel
      by_cases hlt : k < r
      · obtain ⟨bb, oo, hq, hbb, g0⟩ := HCj.out k (by omega)
        obtain ⟨rfl, rfl⟩ : wb.heap.size = bb ∧ 0 = oo := by simpa using hq
        rw [Nat.zero_add] at g0
        have i1 : (k : Int) < (r : Int) := by omega
        have i2 : k < la + lb := by omega
        have i3 : (k : Int) < ((la + lb : Nat) : Int) := by omega
        have hsp := H5.out k hsk hlt
        go_wp2_with fail
        refine (isSpace _ _).mono ?_
        rintro e w1 ⟨rfl, hw'⟩
        obtain rfl : w6 = w1 := hw'.symm
        rw [hsp]
        go_wp2
        go_round
        case rel => exact ⟨k + 1, by go_num, by omega, by omega⟩
        case measure => simp [intOf]; omega
      · obtain rfl : k = r := by omega
        by_cases hrl : k < la + lb
        · obtain ⟨bb, oo, hq, hbb, g0⟩ := HCj.out k (by omega)
          obtain ⟨rfl, rfl⟩ : wb.heap.size = bb ∧ 0 = oo := by simpa using hq
          rw [Nat.zero_add] at g0
          have i3 : (k : Int) < ((la + lb : Nat) : Int) := by omega
          have hsp := H6.out hrl
          go_wp2_with fail
          refine (isSpace _ _).mono ?_
          rintro e w1 ⟨rfl, hw'⟩
          obtain rfl : w6 = w1 := hw'.symm
          rw [hsp]
          go_wp2
          go_ret
          exact ⟨rfl, HT6.out⟩
        · exact absurd hrl (by omega)
  · have hrr : Hid (r = la + rb) := g2 hc
    have e1 : decide (ra < la) = false := decide_eq_false hc
    have hr2 : (la : Int) + (rb : Int) = (r : Int) := by have := hrr.out; omega
    have hr3 : ((r : Int) == (r : Int)) = true := beq_self_eq_true _
    have e2 : decide (r < s) = false := decide_eq_false (by omega)
    have e3 : decide (la + lb < r) = false := decide_eq_false (by omega)
    have H5 : Hid (∀ i, s ≤ i → i < r → sp (joined la f g i) = true) := g5
    have H6 : Hid (r < la + lb → sp (joined la f g r) = false) := (fun h => g6 (by omega))
    clear g5 g6 g1 g2
    go_wp2_with fail
    go_loop [13] (fun i => ∃ k : Nat, i = .int .i64 k ∧ s ≤ k ∧ k ≤ r) (fun i => r - (intOf i).toNat)
    case atStart => exact ⟨s, rfl, Nat.le_refl _, g3⟩
    case round =>
      obtain ⟨k, rfl, hsk, hk⟩ := hrel
      by_cases hlt : k < r
      · obtain ⟨bb, oo, hq, hbb, g0⟩ := HCj.out k (by omega)
        obtain ⟨rfl, rfl⟩ : wb.heap.size = bb ∧ 0 = oo := by simpa using hq
        rw [Nat.zero_add] at g0
        have i1 : (k : Int) < (r : Int) := by omega
        have i2 : k < la + lb := by omega
        have i3 : (k : Int) < ((la + lb : Nat) : Int) := by omega
        have hsp := H5.out k hsk hlt
        go_wp2_with fail
        refine (isSpace _ _).mono ?_
        rintro e w1 ⟨rfl, hw'⟩
        obtain rfl : w6 = w1 := hw'.symm
        rw [hsp]
        go_wp2
        go_round
        case rel => exact ⟨k + 1, by go_num, by omega, by omega⟩
        case measure => simp [intOf]; omega
      · obtain rfl : k = r := by omega
        by_cases hrl : k < la + lb
        · obtain ⟨bb, oo, hq, hbb, g0⟩ := HCj.out k (by omega)
          obtain ⟨rfl, rfl⟩ : wb.heap.size = bb ∧ 0 = oo := by simpa using hq
          rw [Nat.zero_add] at g0
          have i3 : (k : Int) < ((la + lb : Nat) : Int) := by omega
          have hsp := H6.out hrl
          go_wp2_with fail
          refine (isSpace _ _).mono ?_
          rintro e w1 ⟨rfl, hw'⟩
          obtain rfl : w6 = w1 := hw'.symm
          rw [hsp]
          go_wp2
          go_ret
          exact ⟨rfl, HT6.out⟩
        · have i3 : ¬ (k : Int) < ((la + lb : Nat) : Int) := by omega
          go_wp2
          go_ret
          exact ⟨rfl, HT6.out⟩


set_option maxRecDepth 100000 in
set_option maxHeartbeats 2000000 in
theorem join_sn (x : Addr) (la ca : Nat) (s : Nat) (f g : Nat → Int) (w : World) (ha : BytesIn w (some x) la f) (hla : la ≤ 524288) (hs : s ≤ la) :
    Calls Try.prog 4 #[.slice (some x) la ca, .slice none 0 0, .int .i64 s] w fun e w' => e = .returned (.bool true) ∧ Below w.heap.size w w' := by
  obtain ⟨i5, hi5, hz0, hz1, hz2⟩ := info_parts Try.info5
  have hmka := run_make_bytes la (by omega)
  have hne := fun (w : World) (a : Option Addr) (l c : Nat) => run_neq_slice_nil (P := Try.prog) w 22 5 a l c Try.underlying22
  have h1 : decide ((524288 : Int) < (la : Int)) = false := decide_eq_false (by omega)
  have h3 : decide ((s : Int) < 0) = false := decide_eq_false (by omega)
  have h4 : decide (la < s) = false := decide_eq_false (by omega)
  have HA : Hid (BytesIn w (some x) la f) := ha
  clear ha
  have H0 : Hid (Below w.heap.size w w) := Below.refl _ _
  go_enter Try.func4, Try.ntmps4
  go_wp2_with fail
  refine (bytes8 _ _ _ _ _ _ _ _).mono ?_
  rintro e w1 ⟨rfl, hw⟩
  obtain rfl : w = w1 := hw.symm
  rw [decide_eq_true (by omega)]
  go_wp2_with (refine wpList_copy_splice rfl _ _ 22 22 rfl 5 Try.underlying22 Try.size5 _ _ _ _ _ _ rfl rfl w.heap.size 0 (zeroRow la) 5 (fresh_heap w la) (cellsOfF la f) ?c1a ?c2a ?c3a cellsOfF_one w.heap.size w ((Below.refl _ _).alloc (Nat.le_refl _) _) (Nat.le_refl _) ?_)
  case c1a => simp [cellsOfF_length]
  case c2a => exact fun _ => copy_cells HA.out la
  case c3a => simp [cellsOfF_length, zeroRow_length]
  intro wa HGa hBa
  have HCa : Hid (BytesIn wa (some ⟨w.heap.size, 0, none⟩) la f) := bytes_of_row HGa.out
  have HWa : Hid (Below w.heap.size w wa) := hBa
  clear HGa hBa
  have HT : Hid (Below w.heap.size w wa) := HWa.out
  have hsz : w.heap.size ≤ wa.heap.size := HWa.out.size
  clear H0
  have HCb : Hid (BytesIn wa none 0 g) := fun i hi => absurd hi (Nat.not_lt_zero _)
  have hsz3 : w.heap.size ≤ wa.heap.size := by omega
  go_wp2_with (first | (at_make; refine wpList_make_own _ rfl _ _ 22 rfl wa.heap.size 5 i5 (.int .u8 0) 1 Try.underlying22 hi5 hz0 hz1 _ _ _ (la) rfl rfl (by omega) ?m1 ?m2 ?m3 ?_))
  case m1 => rw [hz2]; omega
  case m2 => unfold maxLen; omega
  case m3 => exact Nat.le_refl _
  intro w4 hown4 hgrow4
  have HO4 : Hid (w4.ownsRow wa.heap.size 5 1 (.slice (some ⟨wa.heap.size, 0, none⟩) 0 (la)) 0 []) := hown4
  have HW4 : Hid (Below wa.heap.size wa w4) := below_grown0 (Below.refl _ _) hgrow4 (Nat.le_refl _)
  clear hown4 hgrow4
  have hsz4 : wa.heap.size ≤ w4.heap.size := HW4.out.size
  go_wp2_with (first | (at_builtin; refine wpList_append_fits_any _ rfl _ _ 22 rfl wa.heap.size 5 i5 1 Try.underlying22 hi5 hz1 wa.heap.size 0 (la) [] rfl HO4.out (some ⟨w.heap.size, 0, none⟩) _ _ (cellsOfF la f) rfl (by simp [cellsOfF_length]) (by simp) (src_cells (HCa.out.below HW4.out)) cellsOfF_one (by omega) ?_))
  intro w5 hown5 hgrow5
  have HO5 : Hid (w5.ownsRow wa.heap.size 5 1 (.slice (some ⟨wa.heap.size, 0, none⟩) (la) (la)) (la) (cellsOfF la f)) := (by simpa using hown5 : w5.ownsRow wa.heap.size 5 1 (.slice (some ⟨wa.heap.size, 0, none⟩) (la) (la)) (la) (cellsOfF la f))
  have HW5 : Hid (Below wa.heap.size wa w5) := below_grown HW4.out (Nat.le_refl _) hgrow5 hsz4
  clear hown5 hgrow5
  have hsz5 : wa.heap.size ≤ w5.heap.size := HW5.out.size
  go_wp2_with (first | (at_builtin; refine wpList_append_fits_any _ rfl _ _ 22 rfl wa.heap.size 5 i5 1 Try.underlying22 hi5 hz1 wa.heap.size (la) (la) (cellsOfF la f) rfl HO5.out (none) _ _ (cellsOfF 0 g) rfl (by simp [cellsOfF_length]) (by simp) (src_cells (HCb.out.below HW5.out)) cellsOfF_one (by omega) ?_))
  intro w6 hown6 hgrow6
  have HCj : Hid (BytesIn w6 (some ⟨wa.heap.size, 0, none⟩) (la) (joined la f g)) := bytes_of_own (f := joined la f g) (by simpa using hown6) (fun i hi => joined_cells _ _ _ _ _ (by omega))
  have HW6 : Hid (Below wa.heap.size wa w6) := below_grown HW5.out (Nat.le_refl _) hgrow6 hsz5
  clear hown6 hgrow6
  have HA6 : Hid (BytesIn w6 (some ⟨w.heap.size, 0, none⟩) la f) := HCa.out.below HW6.out
  have HB6 : Hid (BytesIn w6 (none) 0 g) := HCb.out.below HW6.out
  have HT6 : Hid (Below w.heap.size w w6) := HT.out.trans (HW6.out.mono hsz3)
  clear HT HCa HCb HO4 HO5 HW4 HW5
  go_wp2_with fail
  refine (zzSkip _ _ _ _ f _ HA6.out (by omega)).mono ?_
  rintro e w1 ⟨⟨ra, rfl, hra⟩, hw'⟩
  obtain rfl : w6 = w1 := hw'.symm
  have HRA : Hid (Skip f la _ ra) := hra
  clear hra
  go_wp2_with fail
  refine (zzSkip _ _ _ 0 g _ HB6.out (by omega)).mono ?_
  rintro e w1 ⟨⟨rb, rfl, hrb⟩, hw'⟩
  obtain rfl : w6 = w1 := hw'.symm
  have HRB : Hid (Skip g 0 0 rb) := hrb
  clear hrb
  go_wp2_with fail
  refine (zzSkip _ _ _ _ (joined la f g) _ HCj.out (by omega)).mono ?_
  rintro e w1 ⟨⟨r, rfl, hr⟩, hw'⟩
  obtain rfl : w6 = w1 := hw'.symm
  obtain ⟨g1, g2, g3, g4, g5, g6⟩ := join_plain (la := la) (lb := 0) (by omega) HRA.out HRB.out (by simpa using hr)
  clear hr
  by_cases hc : ra < la
  · obtain rfl : r = ra := g1 hc
    have e1 : decide (r < la) = true := decide_eq_true hc
    have e2 : decide (r < s) = false := decide_eq_false (by omega)
    have e3 : decide (la < r) = false := decide_eq_false (by omega)
    have H5 : Hid (∀ i, s ≤ i → i < r → sp (joined la f g i) = true) := g5
    have H6 : Hid (r < la → sp (joined la f g r) = false) := (fun h => g6 (by omega))
    clear g5 g6 g1 g2
    go_wp2_with fail
    go_loop [13] (fun i => ∃ k : Nat, i = .int .i64 k ∧ s ≤ k ∧ k ≤ r) (fun i => r - (intOf i).toNat)
    case atStart => exact ⟨s, rfl, Nat.le_refl _, g3⟩
    case round =>
      obtain ⟨k, rfl, hsk, hk⟩ := hrel
      by_cases hlt : k < r
      · obtain ⟨bb, oo, hq, hbb, g0⟩ := HCj.out k (by omega)
        obtain ⟨rfl, rfl⟩ : wa.heap.size = bb ∧ 0 = oo := by simpa using hq
        rw [Nat.zero_add] at g0
        have i1 : (k : Int) < (r : Int) := by omega
        have i2 : k < la := by omega
        have i3 : (k : Int) < ((la : Nat) : Int) := by omega
        have hsp := H5.out k hsk hlt
        go_wp2_with fail
        refine (isSpace _ _).mono ?_
        rintro e w1 ⟨rfl, hw'⟩
        obtain rfl : w6 = w1 := hw'.symm
        rw [hsp]
        go_wp2
        go_round
        case rel => exact ⟨k + 1, by go_num, by omega, by omega⟩
        case measure => simp [intOf]; omega
      · obtain rfl : k = r := by omega
        by_cases hrl : k < la
        · obtain ⟨bb, oo, hq, hbb, g0⟩ := HCj.out k (by omega)
          obtain ⟨rfl, rfl⟩ : wa.heap.size = bb ∧ 0 = oo := by simpa using hq
          rw [Nat.zero_add] at g0
          have i3 : (k : Int) < ((la : Nat) : Int) := by omega
          have hsp := H6.out hrl
          go_wp2_with fail
          refine (isSpace _ _).mono ?_
          rintro e w1 ⟨rfl, hw'⟩
          obtain rfl : w6 = w1 := hw'.symm
          rw [hsp]
          go_wp2
          go_ret
          exact ⟨rfl, HT6.out⟩
        · exact absurd hrl (by omega)
  · have hrr : Hid (r = la + rb) := g2 hc
    have e1 : decide (ra < la) = false := decide_eq_false hc
    have hr2 : (la : Int) + (rb : Int) = (r : Int) := by have := hrr.out; omega
    have hr3 : ((r : Int) == (r : Int)) = true := beq_self_eq_true _
    have e2 : decide (r < s) = false := decide_eq_false (by omega)
    have e3 : decide (la < r) = false := decide_eq_false (by omega)
    have H5 : Hid (∀ i, s ≤ i → i < r → sp (joined la f g i) = true) := g5
    have H6 : Hid (r < la → sp (joined la f g r) = false) := (fun h => g6 (by omega))
    clear g5 g6 g1 g2
    go_wp2_with fail
    go_loop [13] (fun i => ∃ k : Nat, i = .int .i64 k ∧ s ≤ k ∧ k ≤ r) (fun i => r - (intOf i).toNat)
    case atStart => exact ⟨s, rfl, Nat.le_refl _, g3⟩
    case round =>
      obtain ⟨k, rfl, hsk, hk⟩ := hrel
      by_cases hlt : k < r
      · obtain ⟨bb, oo, hq, hbb, g0⟩ := HCj.out k (by omega)
        obtain ⟨rfl, rfl⟩ : wa.heap.size = bb ∧ 0 = oo := by simpa using hq
        rw [Nat.zero_add] at g0
        have i1 : (k : Int) < (r : Int) := by omega
        have i2 : k < la := by omega
        have i3 : (k : Int) < ((la : Nat) : Int) := by omega
        have hsp := H5.out k hsk hlt
        go_wp2_with fail
        refine (isSpace _ _).mono ?_
        rintro e w1 ⟨rfl, hw'⟩
        obtain rfl : w6 = w1 := hw'.symm
        rw [hsp]
        go_wp2
        go_round
        case rel => exact ⟨k + 1, by go_num, by omega, by omega⟩
        case measure => simp [intOf]; omega
      · obtain rfl : k = r := by omega
        by_cases hrl : k < la
        · obtain ⟨bb, oo, hq, hbb, g0⟩ := HCj.out k (by omega)
          obtain ⟨rfl, rfl⟩ : wa.heap.size = bb ∧ 0 = oo := by simpa using hq
          rw [Nat.zero_add] at g0
          have i3 : (k : Int) < ((la : Nat) : Int) := by omega
          have hsp := H6.out hrl
          go_wp2_with fail
          refine (isSpace _ _).mono ?_
          rintro e w1 ⟨rfl, hw'⟩
          obtain rfl : w6 = w1 := hw'.symm
          rw [hsp]
          go_wp2
          go_ret
          exact ⟨rfl, HT6.out⟩
        · have i3 : ¬ (k : Int) < ((la : Nat) : Int) := by omega
          go_wp2
          go_ret
          exact ⟨rfl, HT6.out⟩


set_option maxRecDepth 100000 in
set_option maxHeartbeats 2000000 in
theorem join_ns (y : Addr) (lb cb : Nat) (s : Nat) (f g : Nat → Int) (w : World) (hb : BytesIn w (some y) lb g) (hlb : lb ≤ 524288) (hs : s ≤ 0) :
    Calls Try.prog 4 #[.slice none 0 0, .slice (some y) lb cb, .int .i64 s] w fun e w' => e = .returned (.bool true) ∧ Below w.heap.size w w' := by
  obtain ⟨i5, hi5, hz0, hz1, hz2⟩ := info_parts Try.info5
  have hmkb := run_make_bytes lb (by omega)
  have hne := fun (w : World) (a : Option Addr) (l c : Nat) => run_neq_slice_nil (P := Try.prog) w 22 5 a l c Try.underlying22
  have h2 : decide ((524288 : Int) < (lb : Int)) = false := decide_eq_false (by omega)
  have h3 : decide ((s : Int) < 0) = false := decide_eq_false (by omega)
  have h4 : decide (0 < s) = false := decide_eq_false (by omega)
  obtain rfl : s = 0 := by omega
  clear h3 h4 hs
  have HB : Hid (BytesIn w (some y) lb g) := hb
  clear hb
  have H0 : Hid (Below w.heap.size w w) := Below.refl _ _
  go_enter Try.func4, Try.ntmps4
  go_wp2_with fail
  refine (bytes8 _ _ _ _ _ _ _ _).mono ?_
  rintro e w1 ⟨rfl, hw⟩
  obtain rfl : w = w1 := hw.symm
  rw [decide_eq_true (by omega)]
  have HT : Hid (Below w.heap.size w w) := H0
  have hsz : w.heap.size ≤ w.heap.size := Nat.le_refl _
  have HCa : Hid (BytesIn w none 0 f) := fun i hi => absurd hi (Nat.not_lt_zero _)
  clear H0
  go_wp2_with (refine wpList_copy_splice rfl _ _ 22 22 rfl 5 Try.underlying22 Try.size5 _ _ _ _ _ _ rfl rfl w.heap.size 0 (zeroRow lb) 5 (fresh_heap w lb) (cellsOfF lb g) ?c1b ?c2b ?c3b cellsOfF_one w.heap.size w ((Below.refl _ _).alloc (Nat.le_refl _) _) (Nat.le_refl _) ?_)
  case c1b => simp [cellsOfF_length]
  case c2b => exact fun _ => copy_cells HB.out lb
  case c3b => simp [cellsOfF_length, zeroRow_length]
  intro wb HGb hBb
  have HCb : Hid (BytesIn wb (some ⟨w.heap.size, 0, none⟩) lb g) := bytes_of_row HGb.out
  have HWb : Hid (Below w.heap.size w wb) := hBb
  clear HGb hBb
  have HC2 : Hid (BytesIn wb (none) 0 f) := HCa.out.below HWb.out
  clear HCa
  have HCa : Hid (BytesIn wb (none) 0 f) := HC2
  clear HC2
  have HT2 : Hid (Below w.heap.size w wb) := HT.out.trans (HWb.out.mono hsz)
  clear HT
  have HT := HT2
  clear HT2
  have hsz2 : w.heap.size ≤ wb.heap.size := HWb.out.size
  have hsz3 : w.heap.size ≤ wb.heap.size := by omega
  go_wp2_with (first | (at_make; refine wpList_make_own _ rfl _ _ 22 rfl wb.heap.size 5 i5 (.int .u8 0) 1 Try.underlying22 hi5 hz0 hz1 _ _ _ (lb) rfl rfl (by omega) ?m1 ?m2 ?m3 ?_))
  case m1 => rw [hz2]; omega
  case m2 => unfold maxLen; omega
  case m3 => exact Nat.le_refl _
  intro w4 hown4 hgrow4
  have HO4 : Hid (w4.ownsRow wb.heap.size 5 1 (.slice (some ⟨wb.heap.size, 0, none⟩) 0 (lb)) 0 []) := hown4
  have HW4 : Hid (Below wb.heap.size wb w4) := below_grown0 (Below.refl _ _) hgrow4 (Nat.le_refl _)
  clear hown4 hgrow4
  have hsz4 : wb.heap.size ≤ w4.heap.size := HW4.out.size
  go_wp2_with (first | (at_builtin; refine wpList_append_fits_any _ rfl _ _ 22 rfl wb.heap.size 5 i5 1 Try.underlying22 hi5 hz1 wb.heap.size 0 (lb) [] rfl HO4.out (none) _ _ (cellsOfF 0 f) rfl (by simp [cellsOfF_length]) (by simp) (src_cells (HCa.out.below HW4.out)) cellsOfF_one (by omega) ?_))
  intro w5 hown5 hgrow5
  have HO5 : Hid (w5.ownsRow wb.heap.size 5 1 (.slice (some ⟨wb.heap.size, 0, none⟩) (0) (lb)) (0) (cellsOfF 0 f)) := (by simpa using hown5 : w5.ownsRow wb.heap.size 5 1 (.slice (some ⟨wb.heap.size, 0, none⟩) (0) (lb)) (0) (cellsOfF 0 f))
  have HW5 : Hid (Below wb.heap.size wb w5) := below_grown HW4.out (Nat.le_refl _) hgrow5 hsz4
  clear hown5 hgrow5
  have hsz5 : wb.heap.size ≤ w5.heap.size := HW5.out.size
  go_wp2_with (first | (at_builtin; refine wpList_append_fits_any _ rfl _ _ 22 rfl wb.heap.size 5 i5 1 Try.underlying22 hi5 hz1 wb.heap.size (0) (lb) (cellsOfF 0 f) rfl HO5.out (some ⟨w.heap.size, 0, none⟩) _ _ (cellsOfF lb g) rfl (by simp [cellsOfF_length]) (by simp) (src_cells (HCb.out.below HW5.out)) cellsOfF_one (by omega) ?_))
  intro w6 hown6 hgrow6
  have HCj : Hid (BytesIn w6 (some ⟨wb.heap.size, 0, none⟩) (lb) (joined 0 f g)) := bytes_of_own (f := joined 0 f g) (by simpa using hown6) (fun i hi => joined_cells _ _ _ _ _ (by omega))
  have HW6 : Hid (Below wb.heap.size wb w6) := below_grown HW5.out (Nat.le_refl _) hgrow6 hsz5
  clear hown6 hgrow6
  have HA6 : Hid (BytesIn w6 (none) 0 f) := HCa.out.below HW6.out
  have HB6 : Hid (BytesIn w6 (some ⟨w.heap.size, 0, none⟩) lb g) := HCb.out.below HW6.out
  have HT6 : Hid (Below w.heap.size w w6) := HT.out.trans (HW6.out.mono hsz3)
  clear HT HCa HCb HO4 HO5 HW4 HW5
  go_wp2_with fail
  refine (zzSkip _ _ _ _ f _ HA6.out (by omega)).mono ?_
  rintro e w1 ⟨⟨ra, rfl, hra⟩, hw'⟩
  obtain rfl : w6 = w1 := hw'.symm
  have HRA : Hid (Skip f 0 _ ra) := hra
  clear hra
  go_wp2_with fail
  refine (zzSkip _ _ _ 0 g _ HB6.out (by omega)).mono ?_
  rintro e w1 ⟨⟨rb, rfl, hrb⟩, hw'⟩
  obtain rfl : w6 = w1 := hw'.symm
  have HRB : Hid (Skip g lb 0 rb) := hrb
  clear hrb
  go_wp2_with fail
  refine (zzSkip _ _ _ _ (joined 0 f g) _ HCj.out (by omega)).mono ?_
  rintro e w1 ⟨⟨r, rfl, hr⟩, hw'⟩
  obtain rfl : w6 = w1 := hw'.symm
  obtain ⟨g1, g2, g3, g4, g5, g6⟩ := join_plain (la := 0) (lb := lb) (by omega) HRA.out HRB.out (by simpa using hr)
  clear hr
  by_cases hc : ra < 0
  · exact absurd hc (Nat.not_lt_zero _)
  · have hrr : Hid (r = 0 + rb) := g2 hc
    have e1 : decide (ra < 0) = false := decide_eq_false hc
    have hr2 : (0 : Int) + (rb : Int) = (r : Int) := by have := hrr.out; omega
    have hr3 : ((r : Int) == (r : Int)) = true := beq_self_eq_true _
    have e2 : decide (r < 0) = false := decide_eq_false (by omega)
    have e3 : decide (lb < r) = false := decide_eq_false (by omega)
    have H5 : Hid (∀ i, 0 ≤ i → i < r → sp (joined 0 f g i) = true) := g5
    have H6 : Hid (r < lb → sp (joined 0 f g r) = false) := (fun h => g6 (by omega))
    clear g5 g6 g1 g2
    go_wp2_with fail
    go_loop [13] (fun i => ∃ k : Nat, i = .int .i64 k ∧ 0 ≤ k ∧ k ≤ r) (fun i => r - (intOf i).toNat)
    case atStart => exact ⟨0, rfl, Nat.le_refl _, g3⟩
    case round =>
      obtain ⟨k, rfl, hsk, hk⟩ := hrel
      by_cases hlt : k < r
      · obtain ⟨bb, oo, hq, hbb, g0⟩ := HCj.out k (by omega)
        obtain ⟨rfl, rfl⟩ : wb.heap.size = bb ∧ 0 = oo := by simpa using hq
        rw [Nat.zero_add] at g0
        have i1 : (k : Int) < (r : Int) := by omega
        have i2 : k < lb := by omega
        have i3 : (k : Int) < ((lb : Nat) : Int) := by omega
        have hsp := H5.out k hsk hlt
        go_wp2_with fail
        refine (isSpace _ _).mono ?_
        rintro e w1 ⟨rfl, hw'⟩
        obtain rfl : w6 = w1 := hw'.symm
        rw [hsp]
        go_wp2
        go_round
        case rel => exact ⟨k + 1, by go_num, by omega, by omega⟩
        case measure => simp [intOf]; omega
      · obtain rfl : k = r := by omega
        by_cases hrl : k < lb
        · obtain ⟨bb, oo, hq, hbb, g0⟩ := HCj.out k (by omega)
          obtain ⟨rfl, rfl⟩ : wb.heap.size = bb ∧ 0 = oo := by simpa using hq
          rw [Nat.zero_add] at g0
          have i3 : (k : Int) < ((lb : Nat) : Int) := by omega
          have hsp := H6.out hrl
          go_wp2_with fail
          refine (isSpace _ _).mono ?_
          rintro e w1 ⟨rfl, hw'⟩
          obtain rfl : w6 = w1 := hw'.symm
          rw [hsp]
          go_wp2
          go_ret
          exact ⟨rfl, HT6.out⟩
        · have i3 : ¬ (k : Int) < ((lb : Nat) : Int) := by omega
          go_wp2
          go_ret
          exact ⟨rfl, HT6.out⟩


set_option maxRecDepth 100000 in
set_option maxHeartbeats 2000000 in
theorem join_nn (s : Nat) (f g : Nat → Int) (w : World) (hs : s ≤ 0) :
    Calls Try.prog 4 #[.slice none 0 0, .slice none 0 0, .int .i64 s] w fun e w' => e = .returned (.bool true) ∧ Below w.heap.size w w' := by
  obtain ⟨i5, hi5, hz0, hz1, hz2⟩ := info_parts Try.info5
  have hne := fun (w : World) (a : Option Addr) (l c : Nat) => run_neq_slice_nil (P := Try.prog) w 22 5 a l c Try.underlying22
  have h3 : decide ((s : Int) < 0) = false := decide_eq_false (by omega)
  have h4 : decide (0 < s) = false := decide_eq_false (by omega)
  obtain rfl : s = 0 := by omega
  clear h3 h4 hs
  have H0 : Hid (Below w.heap.size w w) := Below.refl _ _
  go_enter Try.func4, Try.ntmps4
  go_wp2_with fail
  refine (bytes8 _ _ _ _ _ _ _ _).mono ?_
  rintro e w1 ⟨rfl, hw⟩
  obtain rfl : w = w1 := hw.symm
  rw [decide_eq_true (by omega)]
  have HT : Hid (Below w.heap.size w w) := H0
  have hsz : w.heap.size ≤ w.heap.size := Nat.le_refl _
  have HCa : Hid (BytesIn w none 0 f) := fun i hi => absurd hi (Nat.not_lt_zero _)
  clear H0
  have HCb : Hid (BytesIn w none 0 g) := fun i hi => absurd hi (Nat.not_lt_zero _)
  have hsz3 : w.heap.size ≤ w.heap.size := by omega
  go_wp2_with (first | (at_make; refine wpList_make_own _ rfl _ _ 22 rfl w.heap.size 5 i5 (.int .u8 0) 1 Try.underlying22 hi5 hz0 hz1 _ _ _ (0) rfl rfl (by omega) ?m1 ?m2 ?m3 ?_))
  case m1 => rw [hz2]; omega
  case m2 => unfold maxLen; omega
  case m3 => exact Nat.le_refl _
  intro w4 hown4 hgrow4
  have HO4 : Hid (w4.ownsRow w.heap.size 5 1 (.slice (some ⟨w.heap.size, 0, none⟩) 0 (0)) 0 []) := hown4
  have HW4 : Hid (Below w.heap.size w w4) := below_grown0 (Below.refl _ _) hgrow4 (Nat.le_refl _)
  clear hown4 hgrow4
  have hsz4 : w.heap.size ≤ w4.heap.size := HW4.out.size
  go_wp2_with (first | (at_builtin; refine wpList_append_fits_any _ rfl _ _ 22 rfl w.heap.size 5 i5 1 Try.underlying22 hi5 hz1 w.heap.size 0 (0) [] rfl HO4.out (none) _ _ (cellsOfF 0 f) rfl (by simp [cellsOfF_length]) (by simp) (src_cells (HCa.out.below HW4.out)) cellsOfF_one (by omega) ?_))
  intro w5 hown5 hgrow5
  have HO5 : Hid (w5.ownsRow w.heap.size 5 1 (.slice (some ⟨w.heap.size, 0, none⟩) (0) (0)) (0) (cellsOfF 0 f)) := (by simpa using hown5 : w5.ownsRow w.heap.size 5 1 (.slice (some ⟨w.heap.size, 0, none⟩) (0) (0)) (0) (cellsOfF 0 f))
  have HW5 : Hid (Below w.heap.size w w5) := below_grown HW4.out (Nat.le_refl _) hgrow5 hsz4
  clear hown5 hgrow5
  have hsz5 : w.heap.size ≤ w5.heap.size := HW5.out.size
  go_wp2_with (first | (at_builtin; refine wpList_append_fits_any _ rfl _ _ 22 rfl w.heap.size 5 i5 1 Try.underlying22 hi5 hz1 w.heap.size (0) (0) (cellsOfF 0 f) rfl HO5.out (none) _ _ (cellsOfF 0 g) rfl (by simp [cellsOfF_length]) (by simp) (src_cells (HCb.out.below HW5.out)) cellsOfF_one (by omega) ?_))
  intro w6 hown6 hgrow6
  have HCj : Hid (BytesIn w6 (some ⟨w.heap.size, 0, none⟩) (0) (joined 0 f g)) := bytes_of_own (f := joined 0 f g) (by simpa using hown6) (fun i hi => joined_cells _ _ _ _ _ (by omega))
  have HW6 : Hid (Below w.heap.size w w6) := below_grown HW5.out (Nat.le_refl _) hgrow6 hsz5
  clear hown6 hgrow6
  have HA6 : Hid (BytesIn w6 (none) 0 f) := HCa.out.below HW6.out
  have HB6 : Hid (BytesIn w6 (none) 0 g) := HCb.out.below HW6.out
  have HT6 : Hid (Below w.heap.size w w6) := HT.out.trans (HW6.out.mono hsz3)
  clear HT HCa HCb HO4 HO5 HW4 HW5
  go_wp2_with fail
  refine (zzSkip _ _ _ _ f _ HA6.out (by omega)).mono ?_
  rintro e w1 ⟨⟨ra, rfl, hra⟩, hw'⟩
  obtain rfl : w6 = w1 := hw'.symm
  have HRA : Hid (Skip f 0 _ ra) := hra
  clear hra
  go_wp2_with fail
  refine (zzSkip _ _ _ 0 g _ HB6.out (by omega)).mono ?_
  rintro e w1 ⟨⟨rb, rfl, hrb⟩, hw'⟩
  obtain rfl : w6 = w1 := hw'.symm
  have HRB : Hid (Skip g 0 0 rb) := hrb
  clear hrb
  go_wp2_with fail
  refine (zzSkip _ _ _ _ (joined 0 f g) _ HCj.out (by omega)).mono ?_
  rintro e w1 ⟨⟨r, rfl, hr⟩, hw'⟩
  obtain rfl : w6 = w1 := hw'.symm
  obtain ⟨g1, g2, g3, g4, g5, g6⟩ := join_plain (la := 0) (lb := 0) (by omega) HRA.out HRB.out (by simpa using hr)
  clear hr
  by_cases hc : ra < 0
  · exact absurd hc (Nat.not_lt_zero _)
  · have hrr : Hid (r = 0 + rb) := g2 hc
    have e1 : decide (ra < 0) = false := decide_eq_false hc
    have hr2 : (0 : Int) + (rb : Int) = (r : Int) := by have := hrr.out; omega
    have hr3 : ((r : Int) == (r : Int)) = true := beq_self_eq_true _
    have e2 : decide (r < 0) = false := decide_eq_false (by omega)
    have e3 : decide (0 < r) = false := decide_eq_false (by omega)
    have H5 : Hid (∀ i, 0 ≤ i → i < r → sp (joined 0 f g i) = true) := g5
    have H6 : Hid (r < 0 → sp (joined 0 f g r) = false) := (fun h => g6 (by omega))
    clear g5 g6 g1 g2
    go_wp2_with fail
    go_loop [13] (fun i => ∃ k : Nat, i = .int .i64 k ∧ 0 ≤ k ∧ k ≤ r) (fun i => r - (intOf i).toNat)
    case atStart => exact ⟨0, rfl, Nat.le_refl _, g3⟩
    case round =>
      obtain ⟨k, rfl, hsk, hk⟩ := hrel
      by_cases hlt : k < r
      · exact absurd hlt (by omega)
      · obtain rfl : k = r := by omega
        by_cases hrl : k < 0
        · exact absurd hrl (Nat.not_lt_zero _)
        · have i3 : ¬ (k : Int) < ((0 : Nat) : Int) := by omega
          go_wp2
          go_ret
          exact ⟨rfl, HT6.out⟩


/-- The second law, whatever came in. -/
theorem join_any (a b : Option Addr) (la ca lb cb : Nat) (z : Int) (f g : Nat → Int) (w : World) (ha : BytesIn w a la f) (hb : BytesIn w b lb g) (na : a = none → la = 0 ∧ ca = 0) (nb : b = none → lb = 0 ∧ cb = 0) :
    Calls Try.prog 4 #[.slice a la ca, .slice b lb cb, .int .i64 z] w fun e w' => e = .returned (.bool true) ∧ Below w.heap.size w w' := by
  by_cases hall : la ≤ 524288 ∧ lb ≤ 524288 ∧ 0 ≤ z ∧ z ≤ la
  · obtain ⟨hla, hlb, h0, h1⟩ := hall
    obtain ⟨s, rfl⟩ : ∃ s : Nat, z = (s : Int) := ⟨z.toNat, by omega⟩
    cases a with
    | none =>
      obtain ⟨rfl, rfl⟩ := na rfl
      cases b with
      | none =>
        obtain ⟨rfl, rfl⟩ := nb rfl
        exact join_nn s f g w (by omega)
      | some y => exact join_ns y lb cb s f g w hb hlb (by omega)
    | some x =>
      cases b with
      | none =>
        obtain ⟨rfl, rfl⟩ := nb rfl
        exact join_sn x la ca s f g w ha hla (by omega)
      | some y => exact join_ss x la ca y lb cb s f g w ha hla hb hlb (by omega)
  · clear ha hb na nb
    by_cases hq : la ≤ 1048576 ∧ lb ≤ 1048576 ∧ la + lb ≤ 1048576
    · by_cases h1 : la ≤ 524288
      · have k1 : decide ((524288 : Int) < (la : Int)) = false := decide_eq_false (by omega)
        by_cases h2 : lb ≤ 524288
        · have k2 : decide ((524288 : Int) < (lb : Int)) = false := decide_eq_false (by omega)
          by_cases h3 : z < 0
          · clear hall
            go_enter Try.func4, Try.ntmps4
            go_wp2_with fail
            refine (bytes8 _ _ _ _ _ _ _ _).mono ?_
            rintro e w1 ⟨rfl, hw⟩
            obtain rfl : w = w1 := hw.symm
            rw [decide_eq_true hq]
            go_wp2
            go_ret
            exact ⟨rfl, Below.refl _ _⟩
          · have h4 : (la : Int) < z := by omega
            clear hall
            go_enter Try.func4, Try.ntmps4
            go_wp2_with fail
            refine (bytes8 _ _ _ _ _ _ _ _).mono ?_
            rintro e w1 ⟨rfl, hw⟩
            obtain rfl : w = w1 := hw.symm
            rw [decide_eq_true hq]
            go_wp2
            go_ret
            exact ⟨rfl, Below.refl _ _⟩
        · have k2 : decide ((524288 : Int) < (lb : Int)) = true := decide_eq_true (by omega)
          clear hall
          go_enter Try.func4, Try.ntmps4
          go_wp2_with fail
          refine (bytes8 _ _ _ _ _ _ _ _).mono ?_
          rintro e w1 ⟨rfl, hw⟩
          obtain rfl : w = w1 := hw.symm
          rw [decide_eq_true hq]
          go_wp2
          go_ret
          exact ⟨rfl, Below.refl _ _⟩
      · have k1 : decide ((524288 : Int) < (la : Int)) = true := decide_eq_true (by omega)
        clear hall
        go_enter Try.func4, Try.ntmps4
        go_wp2_with fail
        refine (bytes8 _ _ _ _ _ _ _ _).mono ?_
        rintro e w1 ⟨rfl, hw⟩
        obtain rfl : w = w1 := hw.symm
        rw [decide_eq_true hq]
        go_wp2
        go_ret
        exact ⟨rfl, Below.refl _ _⟩
    · clear hall
      go_enter Try.func4, Try.ntmps4
      go_wp2_with fail
      refine (bytes8 _ _ _ _ _ _ _ _).mono ?_
      rintro e w1 ⟨rfl, hw⟩
      obtain rfl : w = w1 := hw.symm
      rw [decide_eq_false hq]
      go_wp2
      go_ret
      exact ⟨rfl, Below.refl _ _⟩
end Go.Proofs.Qxb6625996a
