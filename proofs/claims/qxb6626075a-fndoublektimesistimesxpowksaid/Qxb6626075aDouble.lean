/-
  THE WALKS OF double (8) AND ZZdouble (5). Own work on this program.
-/
import Derived.Test.Qxb6626075aBlocks
namespace Go.Proofs.Qxb6626075a
open Go.RowKit
attribute [local simp] F_set

theorem Row.other {w : World} {g n : Nat} {t : TypeId} {f : Nat → Nat} (h : Row w g t n f) {b i : Nat} (v : Value) (hne : g ≠ b) : Row (w.setCell ⟨b, i, none⟩ v) g t n f := (heap_setCell_other w ⟨b, i, none⟩ g v hne).trans h

/-- 'load22', and the walk stands still behind it. -/
theorem load22s {ops : Array Oper} {rest : List Oper} {o : Oper} {a : Act} {w : World} {Q : Exit → Act → World → Prop} (hgd : o.guard = none) (x : Operand) (ho : o.op = .load 22 x)
    (g : Nat) (f : Nat → Nat) (hx : a.eval x = .pointer (some ⟨g, 0, none⟩)) (h : Row w g 22 16 f) (hK : ∀ c, Hid (c = F 16 f) → wpList Try.prog ops Q rest (a.put o.dst (.agg c)) w) : wpList Try.prog ops Q (o :: rest) a w :=
  load22 hgd x ho g f hx h (hK _ (show _ = _ from rfl))

/-- The three blocks at the start. -/
def start3 (w : World) (N : Nat) : World := ((w.alloc (.cells (A16 N) 22)).alloc (.cells (F 16 fun _ => 0) 22)).alloc (.cells (F 16 fun _ => 0) 22)
theorem start3_size (w : World) (N : Nat) : (start3 w N).heap.size = w.heap.size + 3 := by simp [start3]
theorem start3_v (w : World) (N : Nat) : Row (start3 w N) w.heap.size 22 16 (fun i => byteAt N (15 - i)) := ((row_new w 22 16 _).alloc _).alloc _
theorem start3_r (w : World) (N : Nat) : Row (start3 w N) (w.heap.size + 1) 22 16 (fun _ => 0) := (row_new1 w _ 22 16 _).alloc _
theorem start3_d (w : World) (N : Nat) : Row (start3 w N) (w.heap.size + 2) 22 16 (fun _ => 0) := by
  have := row_new1 (w.alloc (.cells (A16 N) 22)) (.cells (F 16 fun _ => 0) 22) 22 16 (fun _ => 0)
  rwa [show (w.alloc (.cells (A16 N) 22)).heap.size + 1 = w.heap.size + 2 from by simp] at this
theorem start3_below (w : World) (N : Nat) : Below w.heap.size w (start3 w N) := (((Below.refl _ _).alloc (Nat.le_refl _) _).alloc (by simp) _).alloc (by simp; omega) _

theorem or_step (N k : Nat) (hk : k < 15) : bits .or .u8 ((byteAt N (15 - k) : Int) * 2 % 256) ((byteAt N (14 - k) : Int) / 128) = ((byteAt (dbl N) (15 - k) : Nat) : Int) := by
  have e1 : (byteAt N (15 - k) : Int) * 2 % 256 = ((byteAt N (15 - k) * 2 % 256 : Nat) : Int) := by simp
  have e2 : (byteAt N (14 - k) : Int) / 128 = ((byteAt N (14 - k) / 128 : Nat) : Int) := by simp
  rw [e1, e2, u8_or_nat _ _ (Nat.mod_lt _ (by decide)) (Nat.lt_of_le_of_lt (Nat.div_le_self _ _) (byteAt_lt _ _)), byteAt_dbl_hi N (15 - k) (by omega) (by omega), show 15 - k - 1 = 14 - k from by omega]

set_option maxHeartbeats 1000000 in
theorem double (N : Nat) (w : World) : Calls Try.prog 8 #[.agg (A16 N)] w fun e w' => e = .returned (.agg (A16 (dbl N))) ∧ Below w.heap.size w w' := by
  have hz22 := zero22
  go_enter Try.func8, Try.ntmps8
  go_wp2_with fail
  go_loopw [5] (fun i wr => ∃ k : Nat, k ≤ 15 ∧ i = .int .i64 k ∧ Row wr (w.heap.size + 2) 22 16 (fun j => if j < k then byteAt (dbl N) (15 - j) else 0) ∧ Below (w.heap.size + 2) (start3 w N) wr) (fun i _ => 15 - (intOf i).toNat)
  case atStart => exact ⟨0, by omega, rfl, (start3_d w N).congr (fun i _ => by simp), Below.refl _ _⟩
  case round =>
    obtain ⟨k, hk, rfl, hR, hB⟩ := hrel
    have hV := (start3_v w N).below hB (by omega)
    have HR : Hid (Row wr (w.heap.size + 2) 22 16 (fun j => if j < k then byteAt (dbl N) (15 - j) else 0)) := hR
    have HB : Hid (Below (w.heap.size + 2) (start3 w N) wr) := hB
    have HV : Hid (Row wr w.heap.size 22 16 (fun i => byteAt N (15 - i))) := hV
    clear hR hB hV
    by_cases hlt : k < 15
    · have i1 : (k : Int) < 15 := by omega
      have i2 : k < 16 := by omega
      have i3 : k + 1 < 16 := by omega
      have i4 : (k : Int) < 16 := by omega
      have c0 := HV.out.cell i2
      have c1 := HV.out.cell i3
      rw [show 15 - (k + 1) = 14 - k from by omega] at c1
      have c2 := HR.out.cell i2
      have f2 := HR.out.frozen k
      have hor := or_step N k hlt
      go_wp2_with fail
      go_region
      all_goals
        go_wp2
        go_roundw
        case rel =>
          refine ⟨k + 1, by omega, by go_num, (HR.out.set k _).congr (fun i hi => ?_), (HB.out.setCell (p := ⟨w.heap.size + 2, k, none⟩) (Nat.le_refl _) _).drew⟩
          by_cases h1 : i = k
          · subst h1; simp
          · have h2 : (i < k + 1) = (i < k) := propext ⟨fun _ => by omega, fun _ => by omega⟩
            simp [h1, h2]
        case measure => simp [intOf]; omega
    · obtain rfl : k = 15 := by omega
      have c0 : wr.cell? ⟨w.heap.size, 0, none⟩ = some (.int .u8 (byteAt N 15 : Int)) := HV.out.cell (by decide)
      have c1 : wr.cell? ⟨w.heap.size, 15, none⟩ = some (.int .u8 (byteAt N 0 : Int)) := HV.out.cell (by decide)
      have c2 : wr.cell? ⟨w.heap.size + 2, 15, none⟩ = some (.int .u8 0) := HR.out.cell (by decide)
      have f2 := HR.out.frozen 15
      have hr := (start3_r w N).below HB.out (by omega)
      have HS : Hid (Row wr (w.heap.size + 1) 22 16 (fun _ => 0)) := hr
      have hlt' := HR.out.lt
      clear hr
      obtain ⟨x2, hx2⟩ : ∃ x2 : Nat, x2 = byteAt N 0 * 2 % 256 := ⟨_, rfl⟩
      have e2 : (byteAt N 0 : Int) * 2 % 256 = (x2 : Int) := by rw [hx2]; simp
      have HX : Hid (x2 = byteAt N 0 * 2 % 256) := hx2
      clear hx2
      by_cases hb : N.testBit 127 = true
      · have a1 : bits .and .u8 (byteAt N 15 : Int) 128 = 128 := by
          have := u8_and_nat (byteAt N 15) 128 (byteAt_lt _ _) (by decide)
          rw [top_bit, if_pos hb] at this
          exact this
        obtain ⟨u, hu⟩ : ∃ u : Nat, u = byteAt (dbl N) 0 := ⟨_, rfl⟩
        have a2 : bits .xor .u8 (x2 : Int) 135 = (u : Int) := by
          have := u8_xor_nat x2 135 (by rw [HX.out]; exact Nat.mod_lt _ (by decide)) (by decide)
          rw [hu, byteAt_dbl_lo, if_pos hb, ← HX.out]
          exact this
        have HU : Hid (u = byteAt (dbl N) 0) := hu
        clear hu hb
        go_wp2_with (first | (refine load22s rfl _ rfl (w.heap.size + 2) _ rfl ((HR.out.set 15 x2).set 15 u) ?_))
        intro c HC
        obtain rfl := HC.out
        refine store22 rfl _ _ rfl (w.heap.size + 1) _ _ rfl rfl ((HS.out.other (b := w.heap.size + 2) (i := 15) _ (by omega)).other (b := w.heap.size + 2) (i := 15) _ (by omega)) ?_
        intro w2 HR2 HB2 hs2
        go_wp2_with fail
        refine bodyPost_ret (v := .agg _) (result22 rfl _ _ (w.heap.size + 1) _ rfl HR2.out) rfl ⟨?_, ?_⟩
        · congr 2
          refine F_congr fun i hi => ?_
          by_cases hi15 : i = 15
          · subst hi15; simp [HU.out]
          · have : i < 15 := by omega
            simp [hi15, this]
        · exact (start3_below w N).trans (((HB.out.mono (by omega : w.heap.size ≤ w.heap.size + 2)).setCell (p := ⟨w.heap.size + 2, 15, none⟩) (by simp) _).setCell (p := ⟨w.heap.size + 2, 15, none⟩) (by simp) _ |>.trans (HB2.out.mono (by omega)))
      · have a1 : bits .and .u8 (byteAt N 15 : Int) 128 = 0 := by
          have := u8_and_nat (byteAt N 15) 128 (byteAt_lt _ _) (by decide)
          rw [top_bit, if_neg hb] at this
          exact this
        have hu : x2 = byteAt (dbl N) 0 := by rw [byteAt_dbl_lo, if_neg hb, ← HX.out]
        have HU : Hid (x2 = byteAt (dbl N) 0) := hu
        clear hu hb
        go_wp2_with (first | (refine load22s rfl _ rfl (w.heap.size + 2) _ rfl (HR.out.set 15 x2) ?_))
        intro c HC
        obtain rfl := HC.out
        refine store22 rfl _ _ rfl (w.heap.size + 1) _ _ rfl rfl (HS.out.other (b := w.heap.size + 2) (i := 15) _ (by omega)) ?_
        intro w2 HR2 HB2 hs2
        go_wp2_with fail
        refine bodyPost_ret (v := .agg _) (result22 rfl _ _ (w.heap.size + 1) _ rfl HR2.out) rfl ⟨?_, ?_⟩
        · congr 2
          refine F_congr fun i hi => ?_
          by_cases hi15 : i = 15
          · subst hi15; simp [HU.out]
          · have : i < 15 := by omega
            simp [hi15, this]
        · exact (start3_below w N).trans ((HB.out.mono (by omega : w.heap.size ≤ w.heap.size + 2)).setCell (p := ⟨w.heap.size + 2, 15, none⟩) (by simp) _ |>.trans (HB2.out.mono (by omega)))

theorem zzDouble (N : Nat) (w : World) : Calls Try.prog 5 #[.agg (A16 N)] w fun e w' => e = .returned (.agg (A16 (dbl N))) ∧ Below w.heap.size w w' := by
  have hz22 := zero22
  go_enter Try.func5, Try.ntmps5
  go_wp2_with (first | (refine load22 rfl _ rfl w.heap.size _ rfl (row_old1 w _ 22 16 (fun i => byteAt N (15 - i))) ?_))
  refine (double N _).mono ?_
  rintro e w1 ⟨rfl, hb1⟩
  have HB1 : Hid (Below (w.heap.size + 2) ((w.alloc (.cells (A16 N) 22)).alloc (.cells (F 16 fun _ => 0) 22)) w1) := (by simpa using hb1 : Below _ _ _)
  have HR1 : Hid (Row w1 (w.heap.size + 1) 22 16 (fun _ => 0)) := (row_new1 w _ 22 16 _).below HB1.out (by omega)
  clear hb1
  go_wp2_with (first | (refine store22 rfl _ _ rfl (w.heap.size + 1) _ (fun i => byteAt (dbl N) (15 - i)) rfl rfl HR1.out ?_))
  intro w2 HR2 HB2 hs2
  go_wp2_with fail
  refine bodyPost_ret (v := .agg _) (result22 rfl _ _ (w.heap.size + 1) _ rfl HR2.out) rfl ⟨rfl, ?_⟩
  exact ((((Below.refl _ _).alloc (Nat.le_refl _) _).alloc (by simp) _).trans (HB1.out.mono (by omega))).trans (HB2.out.mono (by omega))
end Go.Proofs.Qxb6626075a
