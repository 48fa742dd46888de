/-
  THE WALK OF gfMulModel (6). Own work on this program.
-/
import Derived.Test.Qxb6626075aDouble
namespace Go.Proofs.Qxb6626075a
open Go.RowKit
attribute [local simp] F_set

/-- The four blocks at the start. -/
def start4 (w : World) (N M : Nat) : World := (((w.alloc (.cells (A16 N) 22)).alloc (.cells (A16 M) 22)).alloc (.cells (F 16 fun _ => 0) 22)).alloc (.cells (F 32 fun _ => 0) 28)
theorem start4_size (w : World) (N M : Nat) : (start4 w N M).heap.size = w.heap.size + 4 := by simp [start4]
theorem start4_a (w : World) (N M : Nat) : Row (start4 w N M) w.heap.size 22 16 (fun i => byteAt N (15 - i)) := (((row_new w 22 16 _).alloc _).alloc _).alloc _
theorem start4_b (w : World) (N M : Nat) : Row (start4 w N M) (w.heap.size + 1) 22 16 (fun i => byteAt M (15 - i)) := ((row_new1 w _ 22 16 _).alloc _).alloc _
theorem start4_r (w : World) (N M : Nat) : Row (start4 w N M) (w.heap.size + 2) 22 16 (fun _ => 0) := by
  have := (row_new1 (w.alloc (.cells (A16 N) 22)) (.cells (A16 M) 22) 22 16 (fun _ => 0)).alloc (.cells (F 32 fun _ => 0) 28)
  rwa [show (w.alloc (.cells (A16 N) 22)).heap.size + 1 = w.heap.size + 2 from by simp] at this
theorem start4_p (w : World) (N M : Nat) : Row (start4 w N M) (w.heap.size + 3) 28 32 (fun _ => 0) := by
  have := row_new1 ((w.alloc (.cells (A16 N) 22)).alloc (.cells (A16 M) 22)) (.cells (F 16 fun _ => 0) 22) 28 32 (fun _ => 0)
  rwa [show ((w.alloc (.cells (A16 N) 22)).alloc (.cells (A16 M) 22)).heap.size + 1 = w.heap.size + 3 from by simp] at this
theorem start4_below (w : World) (N M : Nat) : Below w.heap.size w (start4 w N M) := ((((Below.refl _ _).alloc (Nat.le_refl _) _).alloc (by simp) _).alloc (by simp; omega) _).alloc (by simp; omega) _

/-- The product's block. -/
def PRow (w : World) (g P : Nat) : Prop := Row w g 28 32 (fun i => byteAt P (31 - i))

theorem bit_test (P t : Nat) : bits .and .u8 ((byteAt P (t / 8) : Int) / 2 ^ (t % 8)) 1 = ((P.testBit t).toNat : Int) := by
  have e : (byteAt P (t / 8) : Int) / 2 ^ (t % 8) = ((byteAt P (t / 8) / 2 ^ (t % 8) : Nat) : Int) := by simp
  rw [e, show (1 : Int) = ((1 : Nat) : Int) from rfl, u8_and_nat _ _ (Nat.lt_of_le_of_lt (Nat.div_le_self _ _) (byteAt_lt P _)) (by decide), Nat.and_one_is_mod, one_bit]

set_option maxRecDepth 100000 in
set_option maxHeartbeats 2000000 in
theorem gfMul (N M : Nat) (w : World) : Calls Try.prog 6 #[.agg (A16 N), .agg (A16 M)] w fun e w' => e = .returned (.agg (A16 (redDown 127 (mulTo N M 128)))) ∧ Below w.heap.size w w' := by
  have hz22 := zero22
  have hz28 := zero28
  go_enter Try.func6, Try.ntmps6
  go_wp2_with fail
  go_loopw [6] (fun i wr => ∃ k : Nat, k ≤ 128 ∧ i = .int .i64 k ∧ PRow wr (w.heap.size + 3) (mulTo N M k) ∧ Below (w.heap.size + 3) (start4 w N M) wr) (fun i _ => 128 - (intOf i).toNat)
  case atStart => exact ⟨0, by omega, rfl, (start4_p w N M).congr (fun i _ => by simp [mulTo, byteAt_none]), Below.refl _ _⟩
  case round =>
    obtain ⟨k, hk, rfl, hP, hB⟩ := hrel
    have HP : Hid (PRow wr (w.heap.size + 3) (mulTo N M k)) := hP
    have HB : Hid (Below (w.heap.size + 3) (start4 w N M) wr) := hB
    have HA : Hid (Row wr w.heap.size 22 16 (fun i => byteAt N (15 - i))) := (start4_a w N M).below hB (by omega)
    have hsz : w.heap.size + 3 < wr.heap.size := hP.lt
    clear hP hB
    by_cases hlt : k < 128
    · have i1 : (k : Int) < 128 := by omega
      by_cases hb : N.testBit k = true
      · go_wp2_with (first | (refine load22 rfl _ rfl w.heap.size _ rfl HA.out ?_))
        refine (bit16 N k hlt _).mono ?_
        rintro e w1 ⟨rfl, hb1⟩
        have HP1 : Hid (PRow w1 (w.heap.size + 3) (mulTo N M k)) := Row.below HP.out hb1 hsz
        have HB1 : Hid (Below (w.heap.size + 3) (start4 w N M) w1) := HB.out.trans (hb1.mono (by omega))
        clear HP HB HA hb1
        rw [hb]
        go_wp2_with fail
        go_loopw [7] (fun j wr => ∃ m : Nat, m ≤ 128 ∧ j = .int .i64 m ∧ PRow wr (w.heap.size + 3) (mulTo N M k ^^^ rowTo M k m) ∧ Below (w.heap.size + 3) (start4 w N M) wr) (fun j _ => 128 - (intOf j).toNat)
        case atStart => exact ⟨0, by omega, rfl, (by rw [rowTo, Nat.xor_zero]; exact HP1.out), HB1.out⟩
        case round =>
          obtain ⟨m, hm, rfl, hP, hB⟩ := hrel
          have HP : Hid (PRow wr (w.heap.size + 3) (mulTo N M k ^^^ rowTo M k m)) := hP
          have HB : Hid (Below (w.heap.size + 3) (start4 w N M) wr) := hB
          have HA : Hid (Row wr (w.heap.size + 1) 22 16 (fun i => byteAt M (15 - i))) := (start4_b w N M).below hB (by omega)
          have hsz : w.heap.size + 3 < wr.heap.size := hP.lt
          clear hP hB HP1 HB1
          by_cases hmt : m < 128
          · have i2 : (m : Int) < 128 := by omega
            by_cases hc : M.testBit m = true
            · go_wp2_with (first | (refine load22 rfl _ rfl (w.heap.size + 1) _ rfl HA.out ?_))
              refine (bit16 M m hmt _).mono ?_
              rintro e w1 ⟨rfl, hb1⟩
              have HP1 : Hid (PRow w1 (w.heap.size + 3) (mulTo N M k ^^^ rowTo M k m)) := Row.below HP.out hb1 hsz
              have HB1 : Hid (Below (w.heap.size + 3) (start4 w N M) w1) := HB.out.trans (hb1.mono (by omega))
              clear HP HB HA hb1
              rw [hc]
              obtain ⟨t, ht⟩ : ∃ t : Nat, t = k + m := ⟨_, rfl⟩
              have e1 : (k : Int) + (m : Int) = (t : Int) := by omega
              have HT : Hid (t = k + m) := ht
              clear ht
              go_wp2_with fail
              refine (toggle32 (w.heap.size + 3) (mulTo N M k ^^^ rowTo M k m) t (by rw [HT.out]; omega) _ HP1.out).mono ?_
              rintro e w2 ⟨rfl, hp2, hb2⟩
              have HP2 : Hid (PRow w2 (w.heap.size + 3) (mulTo N M k ^^^ rowTo M k (m + 1))) := by
                show PRow _ _ _
                rw [rowTo, if_pos hc, ← Nat.xor_assoc, ← HT.out]; exact hp2
              have HB2 : Hid (Below (w.heap.size + 3) (start4 w N M) w2) := HB1.out.trans hb2
              clear hp2 hb2 HP1 HB1
              go_wp2
              go_roundw
              case rel => exact ⟨m + 1, by omega, by go_num, HP2.out, HB2.out⟩
              case measure => simp [intOf]; omega
            · have hc' : M.testBit m = false := by simpa using hc
              go_wp2_with (first | (refine load22 rfl _ rfl (w.heap.size + 1) _ rfl HA.out ?_))
              refine (bit16 M m hmt _).mono ?_
              rintro e w1 ⟨rfl, hb1⟩
              have HP1 : Hid (PRow w1 (w.heap.size + 3) (mulTo N M k ^^^ rowTo M k (m + 1))) := by
                show PRow _ _ _
                rw [rowTo, if_neg hc]; exact Row.below HP.out hb1 hsz
              have HB1 : Hid (Below (w.heap.size + 3) (start4 w N M) w1) := HB.out.trans (hb1.mono (by omega))
              clear HP HB HA hb1
              rw [hc']
              go_wp2
              go_roundw
              case rel => exact ⟨m + 1, by omega, by go_num, HP1.out, HB1.out⟩
              case measure => simp [intOf]; omega
          · obtain rfl : m = 128 := by omega
            have HP2 : Hid (PRow wr (w.heap.size + 3) (mulTo N M (k + 1))) := by
              show PRow _ _ _
              rw [mulTo, if_pos hb]; exact HP.out
            clear HP
            go_wp2
            go_roundw
            case rel => exact ⟨k + 1, by omega, by go_num, HP2.out, HB.out⟩
            case measure => simp [intOf]; omega
      · have hb' : N.testBit k = false := by simpa using hb
        go_wp2_with (first | (refine load22 rfl _ rfl w.heap.size _ rfl HA.out ?_))
        refine (bit16 N k hlt _).mono ?_
        rintro e w1 ⟨rfl, hb1⟩
        have HP1 : Hid (PRow w1 (w.heap.size + 3) (mulTo N M (k + 1))) := by
          show PRow _ _ _
          rw [mulTo, if_neg hb]; exact Row.below HP.out hb1 hsz
        have HB1 : Hid (Below (w.heap.size + 3) (start4 w N M) w1) := HB.out.trans (hb1.mono (by omega))
        clear HP HB HA hb1
        rw [hb']
        go_wp2
        go_roundw
        case rel => exact ⟨k + 1, by omega, by go_num, HP1.out, HB1.out⟩
        case measure => simp [intOf]; omega
    · have hk128 : k = 128 := by omega
      have HP' : Hid (PRow wr (w.heap.size + 3) (mulTo N M 128)) := (by rw [← hk128]; exact HP.out : PRow _ _ _)
      have i1 : decide ((k : Int) < 128) = false := decide_eq_false (by omega)
      clear HA hsz HP hk128
      go_wp2_with fail
      go_loopw [8] (fun i wr => ∃ t : Nat, 127 ≤ t ∧ t ≤ 254 ∧ i = .int .i64 t ∧ (∃ P, redDown (t - 127) P = redDown 127 (mulTo N M 128) ∧ PRow wr (w.heap.size + 3) P) ∧ Below (w.heap.size + 3) (start4 w N M) wr) (fun i _ => (intOf i).toNat - 127)
      case atStart => exact ⟨254, by omega, by omega, rfl, ⟨_, rfl, HP'.out⟩, HB.out⟩
      case round =>
        obtain ⟨t, ht1, ht2, rfl, ⟨P, hred, hP⟩, hB⟩ := hrel
        clear HP' HB
        have HP : Hid (PRow wr (w.heap.size + 3) P) := hP
        have HB : Hid (Below (w.heap.size + 3) (start4 w N M) wr) := hB
        have HD : Hid (redDown (t - 127) P = redDown 127 (mulTo N M 128)) := hred
        clear hP hB hred
        by_cases hlt : 128 ≤ t
        · have i1 : (128 : Int) ≤ (t : Int) := by omega
          obtain ⟨q, hq⟩ : ∃ q : Nat, q = t / 8 := ⟨_, rfl⟩
          obtain ⟨r, hr⟩ : ∃ r : Nat, r = t % 8 := ⟨_, rfl⟩
          have hq31 : q < 32 := by omega
          have hr8 : r < 8 := by omega
          have e1 : (t : Int).tdiv 8 = (q : Int) := by rw [show (t : Int) = ((8 * q + r : Nat) : Int) from by omega]; exact tdiv8 q r hr8
          have e2 : (t : Int).tmod 8 = (r : Int) := by rw [show (t : Int) = ((8 * q + r : Nat) : Int) from by omega]; exact tmod8 q r hr8
          have e3 : min r 8 = r := by omega
          have c0 : wr.cell? ⟨w.heap.size + 3, 31 - q, none⟩ = some (.int .u8 (byteAt P q : Int)) := by rw [Row.cell HP.out (by omega), show 31 - (31 - q) = q from by omega]
          have hbt := bit_test P t
          rw [← hq, ← hr] at hbt
          obtain ⟨t0, ht0⟩ : ∃ t0 : Nat, t0 = t - 1 := ⟨_, rfl⟩
          have d0 : (t : Int) - 1 = (t0 : Int) := by omega
          have H0 : Hid (t0 = t - 1) := ht0
          clear ht0 hq hr
          by_cases hb : P.testBit t = true
          · rw [hb] at hbt
            obtain ⟨t1, ht1'⟩ : ∃ t1 : Nat, t1 = t - 121 := ⟨_, rfl⟩
            obtain ⟨t2, ht2'⟩ : ∃ t2 : Nat, t2 = t - 126 := ⟨_, rfl⟩
            obtain ⟨t3, ht3'⟩ : ∃ t3 : Nat, t3 = t - 127 := ⟨_, rfl⟩
            obtain ⟨t4, ht4'⟩ : ∃ t4 : Nat, t4 = t - 128 := ⟨_, rfl⟩
            have d1 : (t : Int) - 121 = (t1 : Int) := by omega
            have d2 : (t : Int) - 126 = (t2 : Int) := by omega
            have d3 : (t : Int) - 127 = (t3 : Int) := by omega
            have d4 : (t : Int) - 128 = (t4 : Int) := by omega
            have H1 : Hid (t1 = t - 121) := ht1'
            have H2 : Hid (t2 = t - 126) := ht2'
            have H3 : Hid (t3 = t - 127) := ht3'
            have H4 : Hid (t4 = t - 128) := ht4'
            clear ht1' ht2' ht3' ht4'
            go_wp2_with fail
            refine (toggle32 (w.heap.size + 3) P t (by omega) _ HP.out).mono ?_
            rintro e wa ⟨rfl, hp, hb2⟩
            have HPa : Hid (PRow wa (w.heap.size + 3) (P ^^^ 2 ^ t)) := hp
            have HBa : Hid (Below (w.heap.size + 3) (start4 w N M) wa) := HB.out.trans hb2
            clear hp hb2 HP HB c0
            go_wp2_with fail
            refine (toggle32 (w.heap.size + 3) _ t1 (by rw [H1.out]; omega) _ HPa.out).mono ?_
            rintro e wb ⟨rfl, hp, hb2⟩
            have HPb : Hid (PRow wb (w.heap.size + 3) (P ^^^ 2 ^ t ^^^ 2 ^ t1)) := hp
            have HBb : Hid (Below (w.heap.size + 3) (start4 w N M) wb) := HBa.out.trans hb2
            clear hp hb2 HPa HBa
            go_wp2_with fail
            refine (toggle32 (w.heap.size + 3) _ t2 (by rw [H2.out]; omega) _ HPb.out).mono ?_
            rintro e wc ⟨rfl, hp, hb2⟩
            have HPc : Hid (PRow wc (w.heap.size + 3) (P ^^^ 2 ^ t ^^^ 2 ^ t1 ^^^ 2 ^ t2)) := hp
            have HBc : Hid (Below (w.heap.size + 3) (start4 w N M) wc) := HBb.out.trans hb2
            clear hp hb2 HPb HBb
            go_wp2_with fail
            refine (toggle32 (w.heap.size + 3) _ t3 (by rw [H3.out]; omega) _ HPc.out).mono ?_
            rintro e wd ⟨rfl, hp, hb2⟩
            have HPd : Hid (PRow wd (w.heap.size + 3) (P ^^^ 2 ^ t ^^^ 2 ^ t1 ^^^ 2 ^ t2 ^^^ 2 ^ t3)) := hp
            have HBd : Hid (Below (w.heap.size + 3) (start4 w N M) wd) := HBc.out.trans hb2
            clear hp hb2 HPc HBc
            go_wp2_with fail
            refine (toggle32 (w.heap.size + 3) _ t4 (by rw [H4.out]; omega) _ HPd.out).mono ?_
            rintro e we ⟨rfl, hp, hb2⟩
            have HPe : Hid (PRow we (w.heap.size + 3) (redStep t P)) := by
              show PRow _ _ _
              unfold redStep
              rw [if_pos hb, ← H1.out, ← H2.out, ← H3.out, ← H4.out]
              exact hp
            have HBe : Hid (Below (w.heap.size + 3) (start4 w N M) we) := HBd.out.trans hb2
            clear hp hb2 HPd HBd
            have HE : Hid (redDown (t0 - 127) (redStep t P) = redDown 127 (mulTo N M 128)) := by
              show _ = _
              rw [← HD.out, show t - 127 = (t0 - 127) + 1 from by have := H0.out; omega, redDown, show 128 + (t0 - 127) = t from by have := H0.out; omega]
            have HL : Hid (127 ≤ t0 ∧ t0 ≤ 254 ∧ t0 < t) := (by have := H0.out; omega : 127 ≤ t0 ∧ t0 ≤ 254 ∧ t0 < t)
            go_wp2
            go_roundw
            case rel => exact ⟨t0, HL.out.1, HL.out.2.1, rfl, ⟨_, HE.out, HPe.out⟩, HBe.out⟩
            case measure => have := HL.out; simp [intOf]; omega
          · have hb' : P.testBit t = false := by simpa using hb
            rw [hb'] at hbt
            have HE : Hid (redDown (t0 - 127) P = redDown 127 (mulTo N M 128)) := by
              show _ = _
              rw [← HD.out, show t - 127 = (t0 - 127) + 1 from by have := H0.out; omega, redDown, show 128 + (t0 - 127) = t from by have := H0.out; omega]
              unfold redStep
              rw [if_neg hb]
            have HL : Hid (127 ≤ t0 ∧ t0 ≤ 254 ∧ t0 < t) := (by have := H0.out; omega : 127 ≤ t0 ∧ t0 ≤ 254 ∧ t0 < t)
            go_wp2
            go_roundw
            case rel => exact ⟨t0, HL.out.1, HL.out.2.1, rfl, ⟨_, HE.out, HP.out⟩, HB.out⟩
            case measure => have := HL.out; simp [intOf]; omega
        · obtain rfl : t = 127 := by omega
          have HF : Hid (P = redDown 127 (mulTo N M 128)) := HD.out
          clear HD
          obtain ⟨w5, rfl⟩ : ∃ w5, w5 = wr := ⟨_, rfl⟩
          have hsz5 : w.heap.size + 3 < w5.heap.size := Row.lt HP.out
          have HP5 : Hid (PRow (w5.alloc (.cells (F 16 fun _ => 0) 22)) (w.heap.size + 3) P) := Row.alloc HP.out _
          have HB5 : Hid (Below (w.heap.size + 3) (start4 w N M) w5) := HB.out
          clear HP HB
          go_wp2_with fail
          go_loopw [10] (fun i wr => ∃ k : Nat, k ≤ 16 ∧ i = .int .i64 k ∧ Row wr w5.heap.size 22 16 (fun j => if j < k then byteAt P (15 - j) else 0) ∧ Below w5.heap.size (w5.alloc (.cells (F 16 fun _ => 0) 22)) wr) (fun i _ => 16 - (intOf i).toNat)
          case atStart => exact ⟨0, by omega, rfl, (row_new w5 22 16 _).congr (fun i _ => by simp), Below.refl _ _⟩
          case round =>
            obtain ⟨k, hk, rfl, hR, hB⟩ := hrel
            have HR : Hid (Row wr w5.heap.size 22 16 (fun j => if j < k then byteAt P (15 - j) else 0)) := hR
            have HB : Hid (Below w5.heap.size (w5.alloc (.cells (F 16 fun _ => 0) 22)) wr) := hB
            have HP : Hid (PRow wr (w.heap.size + 3) P) := Row.below HP5.out hB hsz5
            clear hR hB
            by_cases hkt : k < 16
            · have i1 : (k : Int) < 16 := by omega
              obtain ⟨m, hm⟩ : ∃ m : Nat, m = 16 + k := ⟨_, rfl⟩
              have e1 : (16 : Int) + (k : Int) = (m : Int) := by omega
              have i2 : (m : Int) < 32 := by omega
              have i3 : m < 32 := by omega
              have c0 : wr.cell? ⟨w.heap.size + 3, m, none⟩ = some (.int .u8 (byteAt P (15 - k) : Int)) := by rw [Row.cell HP.out i3, show 31 - m = 15 - k from by omega]
              clear hm
              have c2 := HR.out.cell hkt
              have f2 := HR.out.frozen k
              go_wp2
              go_roundw
              case rel =>
                refine ⟨k + 1, by omega, by go_num, (HR.out.set k _).congr (fun i hi => ?_), HB.out.setCell (p := ⟨w5.heap.size, k, none⟩) (Nat.le_refl _) _⟩
                by_cases h1 : i = k
                · subst h1; simp
                · have h2 : (i < k + 1) = (i < k) := propext ⟨fun _ => by omega, fun _ => by omega⟩
                  simp [h1, h2]
              case measure => simp [intOf]; omega
            · obtain rfl : k = 16 := by omega
              go_wp2_with (first | (refine load22s rfl _ rfl w5.heap.size _ rfl HR.out ?_))
              intro c HC
              obtain rfl := HC.out
              have HS : Hid (Row wr (w.heap.size + 2) 22 16 (fun _ => 0)) := Row.below (Row.alloc ((start4_r w N M).below HB5.out (by omega)) _) HB.out (by omega)
              refine store22 rfl _ _ rfl (w.heap.size + 2) _ _ rfl rfl HS.out ?_
              intro w2 HR2 HB2 hs2
              go_wp2_with fail
              refine bodyPost_ret (v := .agg _) (result22 rfl _ _ (w.heap.size + 2) _ rfl HR2.out) rfl ⟨?_, ?_⟩
              · congr 2
                refine F_congr fun i hi => ?_
                rw [if_pos hi, HF.out]
              · exact (((start4_below w N M).trans (HB5.out.mono (by omega))).trans (((Below.refl w.heap.size w5).alloc (by omega) _).trans (HB.out.mono (by omega)))).trans (HB2.out.mono (by omega))
end Go.Proofs.Qxb6626075a
