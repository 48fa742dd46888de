/-
  THE WALK OF THE SECOND LAW (4). Own work on this program.
-/
import Derived.Test.Qxb6626075aLinear
namespace Go.Proofs.Qxb6626075a
open Go.RowKit
set_option linter.unusedSimpArgs false
attribute [local simp] F_set

set_option maxRecDepth 100000 in
set_option maxHeartbeats 2000000 in
theorem kTimes (v k : Nat) (hv : v < 2 ^ 128) (hk : k < 128) (w : World) : Calls Try.prog 4 #[.agg (A16 v), .int .u8 (k : Int)] w fun e w' => e = .returned (.bool true) ∧ Below w.heap.size w w' := by
  have h0 : decide ((127 : Int) < (k : Int)) = false := decide_eq_false (by omega)
  have HA : Hid (Row (w.alloc (.cells (A16 v) 22)) w.heap.size 22 16 (fun i => byteAt v (15 - i))) := row_new w 22 16 _
  have HZ : Hid (Row ((w.alloc (.cells (A16 v) 22)).alloc (.cells (F 16 fun _ => 0) 22)) (w.heap.size + 1) 22 16 (fun _ => 0)) := row_new1 w _ 22 16 _
  have hz22 := zero22
  go_enter Try.func4, Try.ntmps4
  go_wp2_with (first | (refine load22 rfl _ rfl w.heap.size _ rfl HA.out ?_) | (refine store22 rfl _ _ rfl (w.heap.size + 1) _ _ rfl rfl HZ.out ?_))
  intro w1 HD1 hb1 hs1
  have HA1 : Hid (Row w1 w.heap.size 22 16 (fun i => byteAt v (15 - i))) := (row_old1 w _ 22 16 _).below hb1.out (by omega)
  have HB1 : Hid (Below w.heap.size w w1) := (((Below.refl _ _).alloc (Nat.le_refl _) _).alloc (by simp) _).trans (hb1.out.mono (by omega))
  clear HA HZ hb1 hs1
  go_wp2_with fail
  go_loopw [6] (fun i wr => ∃ j : Nat, j ≤ k ∧ i = .int .u8 j ∧ Row wr (w.heap.size + 1) 22 16 (fun i => byteAt (dblPow j v) (15 - i)) ∧ Below (w.heap.size + 1) w1 wr) (fun i _ => k - (intOf i).toNat)
  case atStart => exact ⟨0, by omega, rfl, HD1.out, Below.refl _ _⟩
  case round =>
    obtain ⟨j, hj, rfl, hR, hB⟩ := hrel
    have HR : Hid (Row wr (w.heap.size + 1) 22 16 (fun i => byteAt (dblPow j v) (15 - i))) := hR
    have HB : Hid (Below (w.heap.size + 1) w1 wr) := hB
    have hsz : w.heap.size + 1 < wr.heap.size := hR.lt
    clear hR hB HD1
    by_cases hlt : j < k
    · have i1 : (j : Int) < (k : Int) := by omega
      have i2 : j < k := hlt
      go_wp2_with (first | (refine load22 rfl _ rfl (w.heap.size + 1) _ rfl HR.out ?_))
      refine (zzDouble (dblPow j v) _).mono ?_
      rintro e w2 ⟨rfl, hb2⟩
      have HR2 : Hid (Row w2 (w.heap.size + 1) 22 16 (fun i => byteAt (dblPow j v) (15 - i))) := HR.out.below hb2 hsz
      have HB2 : Hid (Below (w.heap.size + 1) w1 w2) := HB.out.trans (hb2.mono (by omega))
      clear HR HB hb2
      go_wp2_with (first | (refine store22 rfl _ _ rfl (w.heap.size + 1) _ (fun i => byteAt (dbl (dblPow j v)) (15 - i)) rfl rfl HR2.out ?_))
      intro w3 HR3 hb3 hs3
      have HB3 : Hid (Below (w.heap.size + 1) w1 w3) := HB2.out.trans hb3.out
      clear HR2 HB2 hb3 hs3
      have hw : ((j : Int) + 1) % 256 = (j : Int) + 1 := by omega
      go_wp2
      go_roundw
      case rel => exact ⟨j + 1, by omega, by go_num, HR3.out, HB3.out⟩
      case measure => simp [intOf]; omega
    · have hjk : j = k := by omega
      have HD : Hid (Row wr (w.heap.size + 1) 22 16 (fun i => byteAt (dblPow k v) (15 - i))) := (by rw [← hjk]; exact HR.out : Row _ _ _ _ _)
      have i1 : decide (j < k) = false := decide_eq_false (by omega)
      clear HR hjk
      have HA2 : Hid (Row wr w.heap.size 22 16 (fun i => byteAt v (15 - i))) := HA1.out.below HB.out (by omega)
      have HS : Hid (wr.rangeAt (w.heap.size + 1) 0 (A16 (dblPow k v)).toList ∧ wr.rangeAt w.heap.size 0 (A16 v).toList ∧ w.heap.size + 1 < wr.heap.size ∧ w.heap.size < wr.heap.size ∧ w.heap.size ≤ wr.heap.size ∧ Below w.heap.size w wr) :=
        ⟨range_of_row HD.out, range_of_row HA2.out, hsz, by omega, by omega, HB1.out.trans (HB.out.mono (by omega))⟩
      have hi1 : (Try.prog.info? 22).map (·.size) = some (A16 (dblPow k v)).toList.length := by rw [Array.length_toList]; exact Try.info22.trans (congrArg some (F_size _ _).symm)
      have hi2 : (Try.prog.info? 22).map (·.size) = some (A16 v).toList.length := by rw [Array.length_toList]; exact Try.info22.trans (congrArg some (F_size _ _).symm)
      have hq := eq22 (dblPow k v)
      have hwr : IntKind.i64.wrap (k : Int) = (k : Int) := by simp [IntKind.wrap, IntKind.bits, IntKind.signed]; omega
      clear HD HA2 HA1 HB1 HB
      go_wp2_with fail
      refine wp_region_held_drew (S := fun w' => w'.rangeAt (w.heap.size + 1) 0 (A16 (dblPow k v)).toList ∧ w'.rangeAt w.heap.size 0 (A16 v).toList ∧ w.heap.size + 1 < w'.heap.size ∧ w.heap.size < w'.heap.size ∧ w.heap.size ≤ w'.heap.size ∧ Below w.heap.size w w') (by kernel_rfl) (keep2 (Below.refl _ _).drew HS.out) (fun hHeld => ?_)
      refine wpAnyH_take (i := 0) rfl (by kernel_rfl) (by kernel_rfl) (by kernel_rfl) (fun _ _ _ h => h) (yieldsIf_load_mid (by rfl) 22 (.tmp 5) rfl (w.heap.size + 1) 0 rfl (A16 (dblPow k v)).toList _ (fun _ h => h.1) Try.underlying22 rfl hi1) hHeld ?_
      simp only [Act.put, List.setIfInBounds_toArray, List.set_cons_zero, List.set_cons_succ]
      refine wpAnyH_take (i := 1) rfl (by kernel_rfl) (by kernel_rfl) (by kernel_rfl) (fun _ _ _ h => h) (yieldsIf_load_mid (by rfl) 22 (.tmp 2) rfl w.heap.size 0 rfl (A16 v).toList _ (fun _ h => h.2.1) Try.underlying22 rfl hi2) hHeld ?_
      simp only [Act.put, List.setIfInBounds_toArray, List.set_cons_zero, List.set_cons_succ]
      refine wpAnyH_ready (rs := [2]) (by kernel_rfl) (by simp) ?_
      refine AllReadyH.cons rfl (fun K hK => ?_) AllReadyH.nil
      go_simp
      refine hK.out _ _ hHeld (fun hHeld2 => ?_)
      clear hK K hHeld
      try simp only [Act.put, List.setIfInBounds_toArray, List.set_cons_zero, List.set_cons_succ]
      refine wpAnyH_ready (rs := [3]) (by kernel_rfl) (by simp) ?_
      refine AllReadyH.cons rfl (fun K hK => ?_) AllReadyH.nil
      go_simp
      refine hK.out _ _ hHeld2 (fun hHeld3 => ?_)
      clear hK K hHeld2
      try simp only [Act.put, List.setIfInBounds_toArray, List.set_cons_zero, List.set_cons_succ]
      refine wpAnyH_ready (rs := [4]) (by kernel_rfl) (by simp) ?_
      refine AllReadyH.cons rfl (fun K hK => ?_) AllReadyH.nil
      go_simp
      refine (monomial k hk _).mono ?_
      rintro e w8 ⟨rfl, h8⟩
      go_wp2_with fail
      refine hK.out _ _ (keep2 h8 hHeld3) (fun hHeld8 => ?_)
      clear hK K hHeld3 h8
      try simp only [Act.put, List.setIfInBounds_toArray, List.set_cons_zero, List.set_cons_succ]
      refine wpAnyH_ready (rs := [5]) (by kernel_rfl) (by simp) ?_
      refine AllReadyH.cons rfl (fun K hK => ?_) AllReadyH.nil
      go_simp
      refine (gfTimes v k hv hk _).mono ?_
      rintro e w9 ⟨rfl, h9⟩
      go_wp2_with fail
      refine hK.out _ _ (keep2 h9 hHeld8) (fun hHeld9 => ?_)
      clear hK K hHeld8 h9
      try simp only [Act.put, List.setIfInBounds_toArray, List.set_cons_zero, List.set_cons_succ]
      refine wpAnyH_ready (rs := [6]) (by kernel_rfl) (by simp) ?_
      refine AllReadyH.cons rfl (fun K hK => ?_) AllReadyH.nil
      go_simp
      refine hK.out _ _ hHeld9 (fun hHeld10 => ?_)
      clear hK K hHeld9
      try simp only [Act.put, List.setIfInBounds_toArray, List.set_cons_zero, List.set_cons_succ]
      refine wpAnyH_ready (rs := [7]) (by kernel_rfl) (by simp) ?_
      refine AllReadyH.cons rfl (fun K hK => ?_) AllReadyH.nil
      go_simp
      refine hK.out _ _ hHeld10 (fun hHeld11 => ?_)
      clear hK K hHeld10
      try simp only [Act.put, List.setIfInBounds_toArray, List.set_cons_zero, List.set_cons_succ]
      refine wpAnyH_done (by kernel_rfl) ?_ _
      have HF : Hid (Below w.heap.size w w9) := hHeld11.2.2.2.2.2
      clear hHeld11 HS
      go_wp2
      go_ret
      exact ⟨rfl, HF.out⟩

theorem kTimes_any (v : Nat) (hv : v < 2 ^ 128) (z : Int) (hz : 0 ≤ z) (w : World) : Calls Try.prog 4 #[.agg (A16 v), .int .u8 z] w fun e w' => e = .returned (.bool true) ∧ Below w.heap.size w w' := by
  by_cases h : z ≤ 127
  · obtain ⟨k, rfl⟩ : ∃ k : Nat, z = (k : Int) := ⟨z.toNat, by omega⟩
    exact kTimes v k hv (by omega) w
  · have h0 : decide ((127 : Int) < z) = true := decide_eq_true (by omega)
    have hz22 := zero22
    go_enter Try.func4, Try.ntmps4
    go_wp2
    go_ret
    exact ⟨rfl, (Below.refl _ _).alloc (Nat.le_refl _) _⟩
end Go.Proofs.Qxb6626075a
