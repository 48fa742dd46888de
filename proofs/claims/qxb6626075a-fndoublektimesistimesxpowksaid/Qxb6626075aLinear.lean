/-
  THE WALK OF THE FIRST LAW (3). Own work on this program.
-/
import Derived.Test.Qxb6626075aMul
import Derived.Deep.RegionHeld3
import Derived.BigQuiet
import Derived.Stop.BytesEq
namespace Go.Proofs.Qxb6626075a
open Go.RowKit
set_option linter.unusedSimpArgs false
attribute [local simp] F_set

theorem gfTimes (v k : Nat) (hv : v < 2 ^ 128) (hk : k < 128) (w : World) : Calls Try.prog 6 #[.agg (A16 v), .agg (A16 (2 ^ k))] w fun e w' => e = .returned (.agg (A16 (dblPow k v))) ∧ Below w.heap.size w w' := by
  have h := gfMul v (2 ^ k) w
  rwa [times_pow hv k hk] at h

theorem F_cells (n : Nat) (f : Nat → Nat) (h : ∀ i, i < n → f i < 256) : F n f = (((List.range n).map fun i => UInt8.ofNat (f i)).map Extern.Stop.cell).toArray := by
  apply Array.ext (by simp [F])
  intro i h1 h2
  have hi : i < n := by simpa [F] using h1
  simp [F, Extern.Stop.cell, Nat.mod_eq_of_lt (h i hi)]
theorem size5 (w : World) : (sizeOf 5).run Try.prog w = .ok 1 w := Try.sizeOf5 w
theorem eq22 (N : Nat) (w : World) : (Op.equalIn 10000 22 (.agg (A16 N)) (.agg (A16 N))).run Try.prog w = .ok true w := by
  have e : A16 N = (((List.range 16).map fun i => UInt8.ofNat (byteAt N (15 - i))).map Extern.Stop.cell).toArray := F_cells 16 _ (fun i _ => byteAt_lt _ _)
  rw [e, run_equalIn_bytes w 9998 22 5 16 Try.underlying22 Try.underlying5 size5 _ _ (by simp) (by simp)]
  simp

theorem range_of_row {w : World} {g : Nat} {f : Nat → Nat} (h : Row w g 22 16 f) : w.rangeAt g 0 (F 16 f).toList := by
  intro j v hv
  have hj : j < 16 := by
    have := (List.getElem?_eq_some_iff.1 hv).1
    rwa [Array.length_toList, F_size] at this
  rw [Array.getElem?_toList, F_get hj] at hv
  rw [Nat.zero_add, h.cell hj]
  exact hv
theorem range_below {w w' : World} {g : Nat} {cs : List Value} (h : w.rangeAt g 0 cs) (hg : g < w.heap.size) (hb : Below w.heap.size w w') : w'.rangeAt g 0 cs :=
  fun j v hv => (hb.cell (p := ⟨g, 0 + j, none⟩) hg).trans (h j v hv)

theorem below_drewN {B : Nat} {w0 w : World} (h : Below B w0 w) (n : Nat) : Below B w0 (w.drewN n) := h.trans ⟨rfl, rfl, rfl, Nat.le_refl _, fun _ _ => rfl⟩
/-- What a region of calls keeps. -/
theorem keep2 {w0 w1 w2 : World} {g h : Nat} {cs ds : List Value} {B : Nat} (hb : Below w1.heap.size w1 w2)
    (hS : w1.rangeAt g 0 cs ∧ w1.rangeAt h 0 ds ∧ g < w1.heap.size ∧ h < w1.heap.size ∧ B ≤ w1.heap.size ∧ Below B w0 w1) :
    w2.rangeAt g 0 cs ∧ w2.rangeAt h 0 ds ∧ g < w2.heap.size ∧ h < w2.heap.size ∧ B ≤ w2.heap.size ∧ Below B w0 w2 :=
  ⟨range_below hS.1 hS.2.2.1 hb, range_below hS.2.1 hS.2.2.2.1 hb, Nat.lt_of_lt_of_le hS.2.2.1 hb.size, Nat.lt_of_lt_of_le hS.2.2.2.1 hb.size, Nat.le_trans hS.2.2.2.2.1 hb.size, hS.2.2.2.2.2.trans (hb.mono hS.2.2.2.2.1)⟩

/-- The three blocks at the start. -/
def startL (w : World) (a b : Nat) : World := ((w.alloc (.cells (A16 a) 22)).alloc (.cells (A16 b) 22)).alloc (.cells (F 16 fun _ => 0) 22)
theorem startL_a (w : World) (a b : Nat) : Row (startL w a b) w.heap.size 22 16 (fun i => byteAt a (15 - i)) := ((row_new w 22 16 _).alloc _).alloc _
theorem startL_b (w : World) (a b : Nat) : Row (startL w a b) (w.heap.size + 1) 22 16 (fun i => byteAt b (15 - i)) := (row_new1 w _ 22 16 _).alloc _
theorem startL_x (w : World) (a b : Nat) : Row (startL w a b) (w.heap.size + 2) 22 16 (fun _ => 0) := by
  have := row_new1 (w.alloc (.cells (A16 a) 22)) (.cells (A16 b) 22) 22 16 (fun _ => 0)
  rwa [show (w.alloc (.cells (A16 a) 22)).heap.size + 1 = w.heap.size + 2 from by simp] at this
theorem startL_below (w : World) (a b : Nat) : Below w.heap.size w (startL w a b) := (((Below.refl _ _).alloc (Nat.le_refl _) _).alloc (by simp) _).alloc (by simp; omega) _

/-- A row lives through a call, a new block, a store into that block. -/
theorem Row.kept {w1 w2 w3 : World} {g n : Nat} {t : TypeId} {f : Nat → Nat} {o : Obj} (h : Row w1 g t n f) (hb2 : Below w1.heap.size w1 w2) (hb3 : Below w2.heap.size (w2.alloc o) w3) : Row w3 g t n f :=
  ((h.below hb2 h.lt).alloc o).below hb3 (Nat.lt_of_lt_of_le h.lt hb2.size)
theorem below_kept {B : Nat} {w0 w1 w2 w3 : World} {o : Obj} (h : Below B w0 w1) (hB : B ≤ w1.heap.size) (hb2 : Below w1.heap.size w1 w2) (hb3 : Below w2.heap.size (w2.alloc o) w3) : Below B w0 w3 :=
  (h.trans (hb2.mono hB)).trans (((Below.refl _ _).alloc (Nat.le_trans hB hb2.size) o).trans (hb3.mono (Nat.le_trans hB hb2.size)))

set_option maxRecDepth 100000 in
set_option maxHeartbeats 2000000 in
theorem linear (a b : Nat) (ha : a < 2 ^ 128) (w : World) : Calls Try.prog 3 #[.agg (A16 a), .agg (A16 b)] w fun e w' => e = .returned (.bool true) ∧ Below w.heap.size w w' := by
  have hz22 := zero22
  go_enter Try.func3, Try.ntmps3
  go_wp2_with fail
  go_loopw [6] (fun i wr => ∃ k : Nat, k ≤ 16 ∧ i = .int .i64 k ∧ Row wr (w.heap.size + 2) 22 16 (fun j => if j < k then byteAt (a ^^^ b) (15 - j) else 0) ∧ Below (w.heap.size + 2) (startL w a b) wr) (fun i _ => 16 - (intOf i).toNat)
  case atStart => exact ⟨0, by omega, rfl, (startL_x w a b).congr (fun i _ => by simp), Below.refl _ _⟩
  case round =>
    obtain ⟨k, hk, rfl, hR, hB⟩ := hrel
    have HR : Hid (Row wr (w.heap.size + 2) 22 16 (fun j => if j < k then byteAt (a ^^^ b) (15 - j) else 0)) := hR
    have HB : Hid (Below (w.heap.size + 2) (startL w a b) wr) := hB
    have HA : Hid (Row wr w.heap.size 22 16 (fun i => byteAt a (15 - i))) := (startL_a w a b).below hB (by omega)
    have HC : Hid (Row wr (w.heap.size + 1) 22 16 (fun i => byteAt b (15 - i))) := (startL_b w a b).below hB (by omega)
    have hsz : w.heap.size + 2 < wr.heap.size := hR.lt
    clear hR hB
    by_cases hlt : k < 16
    · have i1 : (k : Int) < 16 := by omega
      have c0 := HA.out.cell hlt
      have c1 := HC.out.cell hlt
      have c2 := HR.out.cell hlt
      have f2 := HR.out.frozen k
      have hx : bits .xor .u8 (byteAt a (15 - k) : Int) (byteAt b (15 - k) : Int) = ((byteAt (a ^^^ b) (15 - k) : Nat) : Int) := by
        rw [byteAt_xor]; exact u8_xor_nat _ _ (byteAt_lt _ _) (byteAt_lt _ _)
      go_wp2_with fail
      go_region
      all_goals
        go_wp2
        go_roundw
        case rel =>
          refine ⟨k + 1, by omega, by go_num, (HR.out.set k _).congr (fun i hi => ?_), (HB.out.setCell (p := ⟨w.heap.size + 2, k, none⟩) (Nat.le_refl _) _).drew⟩
          by_cases h1 : i = k
          · subst h1; simp
          · have h2 : (i < k + 1) = (i < k) := propext ⟨fun _ => by omega, fun _ => by omega⟩
            simp [h1, h2]
        case measure => simp [intOf]; omega
    · have hk16 : k = 16 := by omega
      have HX : Hid (Row wr (w.heap.size + 2) 22 16 (fun i => byteAt (a ^^^ b) (15 - i))) := HR.out.congr (fun i hi => by simp; omega)
      have i1 : decide ((k : Int) < 16) = false := decide_eq_false (by omega)
      clear HR hk16
      obtain ⟨w1, rfl⟩ : ∃ w1, w1 = wr := ⟨_, rfl⟩
      have HB0 : Hid (Below w.heap.size w w1) := (startL_below w a b).trans (HB.out.mono (by omega))
      clear HB
      go_wp2_with (first | (refine load22 rfl _ rfl w.heap.size _ rfl HA.out ?_))
      refine (zzDouble a _).mono ?_
      rintro e w2 ⟨rfl, hb2⟩
      have HZ2 : Hid (Row (w2.alloc (.cells (F 16 fun _ => 0) 22)) w2.heap.size 22 16 (fun _ => 0)) := row_new w2 22 16 _
      have HB2 : Hid (Below w1.heap.size w1 w2) := hb2
      clear hb2
      go_wp2_with (first | (refine store22 rfl _ _ rfl w2.heap.size _ (fun i => byteAt (dbl a) (15 - i)) rfl rfl HZ2.out ?_))
      intro w3 HD3 hb3 hs3
      have HA3 : Hid (Row w3 w.heap.size 22 16 (fun i => byteAt a (15 - i))) := HA.out.kept HB2.out hb3.out
      have HC3 : Hid (Row w3 (w.heap.size + 1) 22 16 (fun i => byteAt b (15 - i))) := HC.out.kept HB2.out hb3.out
      have HX3 : Hid (Row w3 (w.heap.size + 2) 22 16 (fun i => byteAt (a ^^^ b) (15 - i))) := HX.out.kept HB2.out hb3.out
      have HB3 : Hid (Below w.heap.size w w3) := below_kept HB0.out (by omega) HB2.out hb3.out
      have hsz3 : w.heap.size + 2 < w2.heap.size := Nat.lt_of_lt_of_le hsz HB2.out.size
      have hsz3' : w2.heap.size < w3.heap.size := HD3.out.lt
      clear HA HC HX HB0 HB2 HZ2 hb3 hs3
      go_wp2_with (first | (refine load22 rfl _ rfl (w.heap.size + 1) _ rfl HC3.out ?_))
      refine (zzDouble b _).mono ?_
      rintro e w4 ⟨rfl, hb4⟩
      have HZ4 : Hid (Row (w4.alloc (.cells (F 16 fun _ => 0) 22)) w4.heap.size 22 16 (fun _ => 0)) := row_new w4 22 16 _
      have HB4 : Hid (Below w3.heap.size w3 w4) := hb4
      clear hb4
      go_wp2_with (first | (refine store22 rfl _ _ rfl w4.heap.size _ (fun i => byteAt (dbl b) (15 - i)) rfl rfl HZ4.out ?_))
      intro w5 HE5 hb5 hs5
      have HA5 : Hid (Row w5 w.heap.size 22 16 (fun i => byteAt a (15 - i))) := HA3.out.kept HB4.out hb5.out
      have HD5 : Hid (Row w5 w2.heap.size 22 16 (fun i => byteAt (dbl a) (15 - i))) := HD3.out.kept HB4.out hb5.out
      have HX5 : Hid (Row w5 (w.heap.size + 2) 22 16 (fun i => byteAt (a ^^^ b) (15 - i))) := HX3.out.kept HB4.out hb5.out
      have HB5 : Hid (Below w.heap.size w w5) := below_kept HB3.out (by omega) HB4.out hb5.out
      have hsz5 : w2.heap.size < w4.heap.size := Nat.lt_of_lt_of_le hsz3' HB4.out.size
      have hsz5' : w4.heap.size < w5.heap.size := HE5.out.lt
      clear HA3 HC3 HX3 HB3 HB4 HZ4 hb5 hs5 HD3
      go_wp2_with (first | (refine load22 rfl _ rfl (w.heap.size + 2) _ rfl HX5.out ?_))
      refine (zzDouble (a ^^^ b) _).mono ?_
      rintro e w6 ⟨rfl, hb6⟩
      have HZ6 : Hid (Row (w6.alloc (.cells (F 16 fun _ => 0) 22)) w6.heap.size 22 16 (fun _ => 0)) := row_new w6 22 16 _
      have HB6 : Hid (Below w5.heap.size w5 w6) := hb6
      clear hb6
      go_wp2_with (first | (refine store22 rfl _ _ rfl w6.heap.size _ (fun i => byteAt (dbl (a ^^^ b)) (15 - i)) rfl rfl HZ6.out ?_))
      intro w7 HF7 hb7 hs7
      have HA7 : Hid (Row w7 w.heap.size 22 16 (fun i => byteAt a (15 - i))) := HA5.out.kept HB6.out hb7.out
      have HD7 : Hid (Row w7 w2.heap.size 22 16 (fun i => byteAt (dbl a) (15 - i))) := HD5.out.kept HB6.out hb7.out
      have HE7 : Hid (Row w7 w4.heap.size 22 16 (fun i => byteAt (dbl b) (15 - i))) := HE5.out.kept HB6.out hb7.out
      have HB7 : Hid (Below w.heap.size w w7) := below_kept HB5.out (by omega) HB6.out hb7.out
      have hsz7 : w4.heap.size < w6.heap.size := Nat.lt_of_lt_of_le hsz5' HB6.out.size
      have hsz7' : w6.heap.size < w7.heap.size := HF7.out.lt
      clear HA5 HX5 HB5 HB6 HZ6 hb7 hs7 HD5 HE5
      go_wp2_with fail
      go_loopw [10] (fun i wr => ∃ m : Nat, m ≤ 16 ∧ i = .int .i64 m ∧ Below w7.heap.size w7 wr) (fun i _ => 16 - (intOf i).toNat)
      case atStart => exact ⟨0, by omega, rfl, Below.refl _ _⟩
      case round =>
        obtain ⟨m, hm, rfl, hbr⟩ := hrel
        have HBR : Hid (Below w7.heap.size w7 wr) := hbr
        clear hbr
        by_cases hmt : m < 16
        · have i2 : (m : Int) < 16 := by omega
          have c0 := (HD7.out.below HBR.out HD7.out.lt).cell hmt
          have c1 := (HE7.out.below HBR.out HE7.out.lt).cell hmt
          have c2 := (HF7.out.below HBR.out HF7.out.lt).cell hmt
          have hx : bits .xor .u8 (byteAt (dbl a) (15 - m) : Int) (byteAt (dbl b) (15 - m) : Int) = ((byteAt (dbl (a ^^^ b)) (15 - m) : Nat) : Int) := by
            rw [dbl_xor, byteAt_xor]; exact u8_xor_nat _ _ (byteAt_lt _ _) (byteAt_lt _ _)
          go_wp2_with fail
          go_quiet (fail)
          go_wp2
          go_roundw
          case rel => exact ⟨m + 1, by omega, by go_num, below_drewN HBR.out _⟩
          case measure => simp [intOf]; omega
        · have i2 : decide ((m : Int) < 16) = false := decide_eq_false (by omega)
          have HS : Hid (wr.rangeAt w2.heap.size 0 (A16 (dbl a)).toList ∧ wr.rangeAt w.heap.size 0 (A16 a).toList ∧ w2.heap.size < wr.heap.size ∧ w.heap.size < wr.heap.size ∧ w.heap.size ≤ wr.heap.size ∧ Below w.heap.size w wr) :=
            keep2 HBR.out ⟨range_of_row HD7.out, range_of_row HA7.out, HD7.out.lt, HA7.out.lt, Nat.le_of_lt HA7.out.lt, HB7.out⟩
          have hu22 := Try.underlying22
          have hi1 : (Try.prog.info? 22).map (·.size) = some (A16 (dbl a)).toList.length := by rw [Array.length_toList]; exact Try.info22.trans (congrArg some (F_size _ _).symm)
          have hi2 : (Try.prog.info? 22).map (·.size) = some (A16 a).toList.length := by rw [Array.length_toList]; exact Try.info22.trans (congrArg some (F_size _ _).symm)
          have hq : ∀ w, (Op.equalIn 10000 22 (.agg (A16 (dbl a))) (.agg (A16 (dblPow 1 a)))).run Try.prog w = .ok true w := eq22 (dbl a)
          clear HD7 HA7 HE7 HF7 HB7 HBR
          go_wp2_with fail
          refine wp_region_held_drew (S := fun w' => w'.rangeAt w2.heap.size 0 (A16 (dbl a)).toList ∧ w'.rangeAt w.heap.size 0 (A16 a).toList ∧ w2.heap.size < w'.heap.size ∧ w.heap.size < w'.heap.size ∧ w.heap.size ≤ w'.heap.size ∧ Below w.heap.size w w') (by kernel_rfl) (keep2 (Below.refl _ _).drew HS.out) (fun hHeld => ?_)
          refine wpAnyH_take (i := 0) rfl (by kernel_rfl) (by kernel_rfl) (by kernel_rfl) (fun _ _ _ h => h) (yieldsIf_load_mid (by rfl) 22 (.tmp 7) rfl w2.heap.size 0 rfl (A16 (dbl a)).toList _ (fun _ h => h.1) Try.underlying22 rfl hi1) hHeld ?_
          simp only [Act.put, List.setIfInBounds_toArray, List.set_cons_zero, List.set_cons_succ]
          refine wpAnyH_take (i := 1) rfl (by kernel_rfl) (by kernel_rfl) (by kernel_rfl) (fun _ _ _ h => h) (yieldsIf_load_mid (by rfl) 22 (.tmp 2) rfl w.heap.size 0 rfl (A16 a).toList _ (fun _ h => h.2.1) Try.underlying22 rfl hi2) hHeld ?_
          simp only [Act.put, List.setIfInBounds_toArray, List.set_cons_zero, List.set_cons_succ]
          refine wpAnyH_ready (rs := [2]) (by kernel_rfl) (by simp) ?_
          refine AllReadyH.cons rfl (fun K hK => ?_) AllReadyH.nil
          go_simp
          refine (monomial 1 (by decide) _).mono ?_
          rintro e w8 ⟨rfl, h8⟩
          go_wp2_with fail
          refine hK.out _ _ (keep2 h8 hHeld) (fun hHeld8 => ?_)
          clear hK K hHeld h8
          try simp only [Act.put, List.setIfInBounds_toArray, List.set_cons_zero, List.set_cons_succ]
          refine wpAnyH_ready (rs := [3]) (by kernel_rfl) (by simp) ?_
          refine AllReadyH.cons rfl (fun K hK => ?_) AllReadyH.nil
          go_simp
          refine (gfTimes a 1 ha (by decide) _).mono ?_
          rintro e w9 ⟨rfl, h9⟩
          go_wp2_with fail
          refine hK.out _ _ (keep2 h9 hHeld8) (fun hHeld9 => ?_)
          clear hK K hHeld8 h9
          try simp only [Act.put, List.setIfInBounds_toArray, List.set_cons_zero, List.set_cons_succ]
          refine wpAnyH_ready (rs := [4]) (by kernel_rfl) (by simp) ?_
          refine AllReadyH.cons rfl (fun K hK => ?_) AllReadyH.nil
          go_simp
          refine hK.out _ _ hHeld9 (fun hHeld10 => ?_)
          clear hK K hHeld9
          try simp only [Act.put, List.setIfInBounds_toArray, List.set_cons_zero, List.set_cons_succ]
          refine wpAnyH_ready (rs := [5]) (by kernel_rfl) (by simp) ?_
          refine AllReadyH.cons rfl (fun K hK => ?_) AllReadyH.nil
          go_simp
          refine hK.out _ _ hHeld10 (fun hHeld11 => ?_)
          clear hK K hHeld10
          try simp only [Act.put, List.setIfInBounds_toArray, List.set_cons_zero, List.set_cons_succ]
          refine wpAnyH_done (by kernel_rfl) ?_ _
          have HF : Hid (Below w.heap.size w w9) := hHeld11.2.2.2.2.2
          clear hHeld11 HS
          go_wp2
          go_ret
          exact ⟨rfl, HF.out⟩
end Go.Proofs.Qxb6626075a
