/-
  THE FIRST LAW's WALK, hasExit1 = false, hasExit2 = false. Own work on this program.
-/
import Derived.Test.Qxb6630566aSmall
namespace Go.Proofs.Qxb6630566a
open Go.RowKit

set_option maxRecDepth 100000 in
set_option maxHeartbeats 2000000 in
theorem law1_false_false (a1 a2 : Option Addr) (n1 c1 n2 c2 : Nat) (ss : Nat → ByteArray) (ns : Nat → Int) (k1 t1 k2 t2 : Int) (e1 e2 : ByteArray) (w : World) (h1 : StrsIn w a1 n1 ss) (h2 : IntsIn w a2 n2 ns)
    (T1 : -9223372036854775808 ≤ t1) (T1' : t1 ≤ 9223372036854775807) (T2 : -9223372036854775808 ≤ t2) (T2' : t2 ≤ 9223372036854775807)
    (m1 : n1 ≤ 65536) (m2 : n2 ≤ 65536) (s1 : e1.size ≤ 1048576) (s2 : e2.size ≤ 1048576) :
    Calls Try.prog 3 #[.slice a1 n1 c1, .slice a2 n2 c2, .bool false, .int .i64 k1, .string e1, .int .i64 t1, .bool false, .int .i64 k2, .string e2, .int .i64 t2] w fun e w' => e = .returned (.bool true) ∧ Below w.heap.size w w' := by
  have hmk := run_make_log n1 m1
  have heq := eqNil
  have hnp := neqPtr
  go_enter Try.func3, Try.ntmps3
  go_wp2_with fail
  refine (bytes1_any a1 a2 n1 c1 n2 c2 ss false false k1 t1 k2 t2 e1 e2 w h1).mono ?_
  rintro e w' ⟨⟨b, rfl⟩, hw⟩
  obtain rfl : w = w' := hw.symm
  cases b
  · go_wp2
    go_ret
    exact ⟨rfl, Below.refl _ _⟩
  go_wp2_with fail
  · go_ret
    exact ⟨rfl, Below.refl _ _⟩
  go_loop [21, 22] (fun z i => ∃ k : Nat, k ≤ n1 ∧ i = .int .i64 k ∧ ∃ v : Int, 0 ≤ v ∧ v ≤ 1048576 ∧ z = .int .i64 v) (fun _ i => n1 - (intOf i).toNat)
  case atStart => exact ⟨0, Nat.zero_le _, rfl, _, by omega, by omega, rfl⟩
  case round =>
    obtain ⟨k, hk, rfl, v, hv0, hv1, rfl⟩ := hrel
    by_cases hlt : k < n1
    · obtain ⟨b, o, ha, hb, hcell⟩ := h1 k hlt
      subst ha
      go_wp2
      · go_ret; exact ⟨rfl, Below.refl _ _⟩
      · go_ret; exact ⟨rfl, Below.refl _ _⟩
      · go_round
        case rel => exact ⟨k + 1, by omega, by go_num, _, by omega, by omega, rfl⟩
        case measure => simp [intOf]; omega
    · go_wp2_with fail
      have hkn : k = n1 := by omega
      subst hkn
      go_loopw [25] (fun i wr => ∃ j : Nat, j ≤ k ∧ i = .int .i64 j ∧ Fill w k n2 ss ns j wr) (fun i _ => k - (intOf i).toNat)
      case atStart => exact ⟨0, Nat.zero_le _, rfl, fill_start w k n2 ss ns⟩
      case round =>
        obtain ⟨j, hj, rfl, hF⟩ := hrel
        have HF : Hid (Fill w k n2 ss ns j wr) := hF
        by_cases hjn : j < k
        · obtain ⟨hB, ex, fi, hL, _⟩ := hF
          obtain ⟨bs, os, ha, hbs, hcs⟩ := h1 j hjn
          subst ha
          have hce : wr.cell? ⟨bs, os + j, none⟩ = some (.string (ss j)) := (hB.cell hbs).trans hcs
          obtain ⟨g0, _, g2, g3, g4, _⟩ := hL.cells hjn
          simp only [Nat.lt_irrefl, if_false] at g3 g4
          have fz := hL.frozen
          have hlb := hL.lt
          clear hcs hL
          by_cases hj2 : j < n2
          · obtain ⟨bi, oi, ha, hbi, hci, r1, r2⟩ := h2 j hj2
            subst ha
            have hcn : wr.cell? ⟨bi, oi + j, none⟩ = some (.int .i64 (ns j)) := (hB.cell hbi).trans hci
            have hne : ¬ bi = w.heap.size := by omega
            clear hci
            go_wp2_with fail
            refine (instant_any (ns j) r1 r2 _).mono ?_
            rintro e w1 ⟨rfl, hb⟩
            obtain ⟨hc, hf⟩ := bcell hb
            have hz : wr.heap.size ≤ w1.heap.size := by have := hb.size; simpa using this
            have hlb1 : w.heap.size < w1.heap.size := by omega
            go_wp2
            go_roundw
            case rel => exact ⟨j + 1, by omega, by go_num, fill_hit HF.out hjn hj2 hb⟩
            case measure => simp [intOf]; omega
          · go_wp2
            go_roundw
            case rel => exact ⟨j + 1, by omega, by go_num, fill_miss HF.out hj2⟩
            case measure => simp [intOf]; omega
        · have hjk : j = k := by omega
          subst hjk
          clear hF
          have HR : Hid (Ready2 w j n2 ss ns wr.heap.size none k1 none k2 (wr.alloc (.cells (stepCells j (.slice (some ⟨w.heap.size, 0, none⟩) j j)) 41))) := ready2_no k2 (ready1_no k1 HF.out)
          clear HF
          go_wp2_with fail
          refine (instant_any t1 T1 T1' _).mono ?_
          rintro e w1 ⟨rfl, hb1⟩
          have hsb : w.heap.size < wr.heap.size := HR.out.1.2.2.1
          have O1 : Hid (Off w.heap.size _ w1) := Off.of_below hb1
          obtain ⟨HB1, ex, fi, HL1, HQ1⟩ : ∃ _ : Hid (Below w.heap.size w w1), ∃ ex fi, ∃ _ : Hid (LogIs w1 w.heap.size j ex fi (fun i => if i < j then ss i else emptyS) (fun i => if i < j then oS else emptyS)), Hid (∀ i, i < j → Behind w1 w.heap.size n2 ns j ex fi i) := by
            obtain ⟨hB, ex, fi, hL, hP⟩ := HR.out.1.1.below hb1
            exact ⟨hB, ex, fi, hL, hP⟩
          have HS1 : Hid (StepAt w1 wr.heap.size j (.slice (some ⟨w.heap.size, 0, none⟩) j j)) := HR.out.1.2.1.off O1.out (Nat.ne_of_gt hsb)
          have HP1 : Hid (PtrInt w1 w.heap.size none k1) := HR.out.1.2.2.2.off O1.out
          have HP2 : Hid (PtrInt w1 w.heap.size none k2) := HR.out.2.off O1.out
          clear hb1 HR O1
          go_wp2_with fail
          refine (end_law _ e1 t1 HS1.out HL1.out m1).mono ?_
          rintro e w2 ⟨rfl, hE⟩
          have HD : Hid (Done w j n2 ss ns wr.heap.size none e1 t1 w2) := done_of _ e1 t1 HB1.out HS1.out hsb HL1.out HQ1.out hE
          have O2 : Hid (Off w.heap.size w1 w2) := hE.1
          clear hE HB1 HL1 HQ1 HS1
          go_wp2_with fail
          refine (instant_any t2 T2 T2' _).mono ?_
          rintro e w3 ⟨rfl, hb3⟩
          have O3 : Hid (Off w.heap.size w1 w3) := O2.out.trans (.of_below hb3)
          obtain ⟨HB3, HS3, ex3, fi3, er3, HL3, HQ3⟩ : ∃ _ : Hid (Below w.heap.size w w3), ∃ _ : Hid (StepAt w3 wr.heap.size j (.slice (some ⟨w.heap.size, 0, none⟩) j j)), ∃ ex fi er, ∃ _ : Hid (LogIs w3 w.heap.size j ex fi er (fun _ => oS)), Hid (∀ i, i < j → Shape w3 w.heap.size j n2 ss ns none e1 t1 ex fi er i) := by
            obtain ⟨hB, hS, ex, fi, er, hL, hP⟩ := HD.out.below hsb hb3
            exact ⟨hB, hS, ex, fi, er, hL, hP⟩
          clear hb3 HD O2
          go_wp2_with fail
          refine (end_law _ e2 t2 HS3.out HL3.out m1).mono ?_
          rintro e w4 ⟨rfl, hE⟩
          have HD : Hid (Done w j n2 ss ns wr.heap.size none e1 t1 w4) := done_again HB3.out HS3.out hsb HL3.out HQ3.out hE
          have O4 : Off w.heap.size w1 w4 := O3.out.trans hE.1
          have HP1' : Hid (PtrInt w4 w.heap.size none k1) := HP1.out.off O4
          have HP2' : Hid (PtrInt w4 w.heap.size none k2) := HP2.out.off O4
          clear hE HB3 HL3 HQ3 HS3 O3 O4 HP1 HP2
          go_wp2_with fail
          refine (untouched_step HD.out.2.1).mono ?_
          rintro e w5 ⟨rfl, hw5⟩
          obtain rfl : w4 = w5 := hw5.symm
          obtain ⟨hBd, hSd, ex, fi, er, hLd, hQd⟩ := HD.out
          have c15 := hSd.2.1
          have sbl : wr.heap.size < w4.heap.size := hSd.1
          have HBd : Hid (Below w.heap.size w w4) := hBd
          have HLd : Hid (LogIs w4 w.heap.size j ex fi er (fun _ => oS)) := hLd
          have HQd : Hid (∀ i, i < j → Shape w4 w.heap.size j n2 ss ns none e1 t1 ex fi er i) := hQd
          clear hBd hSd hLd hQd HD hw5
          generalize wr.heap.size = sb at c15 sbl HQd HP1' HP2' hsb ⊢
          by_cases hnm : n2 < j
          · have hj0 : 0 < j := by omega
            go_wp2_with fail
            go_loopw [34] (fun i wl => ∃ l : Nat, l ≤ j ∧ i = .int .i64 l ∧ Below w4.heap.size w4 wl) (fun i _ => j - (intOf i).toNat)
            case atStart => exact ⟨0, Nat.zero_le _, rfl, Below.refl _ _⟩
            case round =>
              obtain ⟨l, hl, rfl, hbl⟩ := hrel
              by_cases hlj : l < j
              · have hLl := HLd.out.below hbl (HLd.out.lt)
                have o15 : wr.cell? ⟨sb, 15, none⟩ = some (.slice (some ⟨w.heap.size, 0, none⟩) j j) := (hbl.cell sbl).trans c15
                obtain ⟨g0, g1, g2, g3, g4, g5⟩ := hLl.cells hlj
                unfold oS at g4
                unfold emptyS at g5
                have hlbl := hLl.lt
                clear hLl
                rcases (HQd.out l hlj).off (Off.of_below (lb := w.heap.size) hbl) with ⟨q1, q2, qx, qe, q, qf, tb, qq, tl, tu, y0, y1, y2⟩ | ⟨q1, q2, qe, p, q, qx, ⟨ib, ip, il, iu, iy⟩, qf, tb, qq, tl, tu, y0, y1, y2⟩ | ⟨q1, q2, qe, qx, qf⟩
                · rw [qx] at g0
                  rw [qf, qq] at g2
                  rw [qe] at g3
                  have hle : j ≤ l + 1 := by omega
                  clear qx qf qe q2 qq q1
                  go_wp2_with fail
                  go_region_held3 (fun w' => w'.cell? ⟨wr.heap.size, 2, none⟩ = some (.pointer (some ⟨tb, 0, none⟩)) ∧ w'.cell? ⟨tb, 0, none⟩ = some (.int .u64 (nsecOf t1)) ∧ w'.cell? ⟨tb, 1, none⟩ = some (.int .i64 (secOf t1)) ∧ w'.cell? ⟨tb, 2, none⟩ = some (.pointer none)) (first | (simp [go_sem, *]; done) | (simp [go_sem, *]; omega)) (first | (go_at_call 6; refine (instant_any t1 T1 T1' _).mono ?_; rintro e w6 ⟨rfl, hb6⟩; obtain ⟨hc6, hf6⟩ := bcell hb6))
                  go_wp2
                  go_roundw
                  case rel => exact ⟨l + 1, by omega, by go_num, below_step hbl (by exact ((Below.refl _ _).alloc (Nat.le_refl _) _).drew) hb6⟩
                  case measure => simp [intOf]; omega
                · rw [qx, ip] at g0
                  rw [qf, qq] at g2
                  rw [qe] at g3
                  obtain ⟨bs, os, ha, hbs, hcs⟩ := h1 l hlj
                  subst ha
                  obtain ⟨bi, oi, ha, hbi, hci, r1, r2⟩ := h2 l q2
                  subst ha
                  have z0 : w.heap.size ≤ w4.heap.size := HBd.out.size
                  have z1 : w4.heap.size ≤ wr.heap.size := hbl.size
                  have hcs' : wr.cell? ⟨bs, os + l, none⟩ = some (.string (ss l)) := (hbl.cell (Nat.lt_of_lt_of_le hbs z0)).trans ((HBd.out.cell hbs).trans hcs)
                  have hci' : wr.cell? ⟨bi, oi + l, none⟩ = some (.int .i64 (ns l)) := (hbl.cell (Nat.lt_of_lt_of_le hbi z0)).trans ((HBd.out.cell hbi).trans hci)
                  have u1 : bs < wr.heap.size := by omega
                  have u2 : bi < wr.heap.size := by omega
                  have hle : l + 1 < j := by omega
                  have hi1 : (l : Int) < (j : Int) := by omega
                  have hi2 : (l : Int) < (n2 : Int) := by omega
                  clear qx qf qe qq q1 ip hcs hci
                  go_wp2_with fail
                  go_quiet (fail)
                  go_wp2_with fail
                  go_region_held3 (fun w' => w'.cell? ⟨wr.heap.size, 2, none⟩ = some (.pointer (some ⟨tb, 0, none⟩)) ∧ w'.cell? ⟨tb, 0, none⟩ = some (.int .u64 (nsecOf (ns l))) ∧ w'.cell? ⟨tb, 1, none⟩ = some (.int .i64 (secOf (ns l))) ∧ w'.cell? ⟨tb, 2, none⟩ = some (.pointer none) ∧ w'.cell? ⟨bi, oi + l, none⟩ = some (.int .i64 (ns l))) (first | (simp [go_sem, *]; done) | (simp [go_sem, *]; omega)) (first | (go_at_call 6; refine (instant_any (ns l) r1 r2 _).mono ?_; rintro e w6 ⟨rfl, hb6⟩; obtain ⟨hc6, hf6⟩ := bcell hb6))
                  go_wp2
                  go_roundw
                  case rel => exact ⟨l + 1, by omega, by go_num, below_step hbl (by exact (below_drewN ((Below.refl _ _).alloc (Nat.le_refl _) _) _)) hb6⟩
                  case measure => simp [intOf]; omega
                · rw [qx] at g0
                  rw [qf] at g2
                  rw [qe] at g3
                  obtain ⟨bs, os, ha, hbs, hcs⟩ := h1 l hlj
                  subst ha
                  have z0 : w.heap.size ≤ w4.heap.size := HBd.out.size
                  have z1 : w4.heap.size ≤ wr.heap.size := hbl.size
                  have hcs' : wr.cell? ⟨bs, os + l, none⟩ = some (.string (ss l)) := (hbl.cell (Nat.lt_of_lt_of_le hbs z0)).trans ((HBd.out.cell hbs).trans hcs)
                  have u1 : bs < wr.heap.size := by omega
                  have hle : l + 1 < j := by omega
                  have hi1 : (l : Int) < (j : Int) := by omega
                  clear qx qf qe q1 hcs
                  go_wp2_with fail
                  go_quiet (fail)
                  go_wp2
                  go_roundw
                  case rel => exact ⟨l + 1, by omega, by go_num, below_one hbl _ _⟩
                  case measure => simp [intOf]; omega
              · skip
                go_wp2_with fail
                go_ret
                exact ⟨rfl, HBd.out.trans (hbl.mono HBd.out.size)⟩
          · by_cases hj0 : 0 < j
            · skip
              go_wp2_with fail
              go_loopw [34] (fun i wl => ∃ l : Nat, l ≤ j ∧ i = .int .i64 l ∧ Below w4.heap.size w4 wl) (fun i _ => j - (intOf i).toNat)
              case atStart => exact ⟨0, Nat.zero_le _, rfl, Below.refl _ _⟩
              case round =>
                obtain ⟨l, hl, rfl, hbl⟩ := hrel
                by_cases hlj : l < j
                · have hLl := HLd.out.below hbl (HLd.out.lt)
                  have o15 : wr.cell? ⟨sb, 15, none⟩ = some (.slice (some ⟨w.heap.size, 0, none⟩) j j) := (hbl.cell sbl).trans c15
                  obtain ⟨g0, g1, g2, g3, g4, g5⟩ := hLl.cells hlj
                  unfold oS at g4
                  unfold emptyS at g5
                  have hlbl := hLl.lt
                  clear hLl
                  rcases (HQd.out l hlj).off (Off.of_below (lb := w.heap.size) hbl) with ⟨q1, q2, qx, qe, q, qf, tb, qq, tl, tu, y0, y1, y2⟩ | ⟨q1, q2, qe, p, q, qx, ⟨ib, ip, il, iu, iy⟩, qf, tb, qq, tl, tu, y0, y1, y2⟩ | ⟨q1, q2, qe, qx, qf⟩
                  · omega
                  · rw [qx, ip] at g0
                    rw [qf, qq] at g2
                    rw [qe] at g3
                    obtain ⟨bs, os, ha, hbs, hcs⟩ := h1 l hlj
                    subst ha
                    obtain ⟨bi, oi, ha, hbi, hci, r1, r2⟩ := h2 l q2
                    subst ha
                    have z0 : w.heap.size ≤ w4.heap.size := HBd.out.size
                    have z1 : w4.heap.size ≤ wr.heap.size := hbl.size
                    have hcs' : wr.cell? ⟨bs, os + l, none⟩ = some (.string (ss l)) := (hbl.cell (Nat.lt_of_lt_of_le hbs z0)).trans ((HBd.out.cell hbs).trans hcs)
                    have hci' : wr.cell? ⟨bi, oi + l, none⟩ = some (.int .i64 (ns l)) := (hbl.cell (Nat.lt_of_lt_of_le hbi z0)).trans ((HBd.out.cell hbi).trans hci)
                    have u1 : bs < wr.heap.size := by omega
                    have u2 : bi < wr.heap.size := by omega
                    have hi1 : (l : Int) < (j : Int) := by omega
                    have hi2 : (l : Int) < (n2 : Int) := by omega
                    clear qx qf qe qq q1 ip hcs hci
                    go_wp2_with fail
                    go_quiet (fail)
                    go_wp2_with fail
                    go_region_held3 (fun w' => w'.cell? ⟨wr.heap.size, 2, none⟩ = some (.pointer (some ⟨tb, 0, none⟩)) ∧ w'.cell? ⟨tb, 0, none⟩ = some (.int .u64 (nsecOf (ns l))) ∧ w'.cell? ⟨tb, 1, none⟩ = some (.int .i64 (secOf (ns l))) ∧ w'.cell? ⟨tb, 2, none⟩ = some (.pointer none) ∧ w'.cell? ⟨bi, oi + l, none⟩ = some (.int .i64 (ns l))) (first | (simp [go_sem, *]; done) | (simp [go_sem, *]; omega)) (first | (go_at_call 6; refine (instant_any (ns l) r1 r2 _).mono ?_; rintro e w6 ⟨rfl, hb6⟩; obtain ⟨hc6, hf6⟩ := bcell hb6))
                    go_wp2
                    go_roundw
                    case rel => exact ⟨l + 1, by omega, by go_num, below_step hbl (by exact (below_drewN ((Below.refl _ _).alloc (Nat.le_refl _) _) _)) hb6⟩
                    case measure => simp [intOf]; omega
                  · omega
                · skip
                  go_wp2_with fail
                  go_ret
                  exact ⟨rfl, HBd.out.trans (hbl.mono HBd.out.size)⟩
            · skip
              go_wp2_with fail
              go_loopw [34] (fun i wl => ∃ l : Nat, l ≤ j ∧ i = .int .i64 l ∧ Below w4.heap.size w4 wl) (fun i _ => j - (intOf i).toNat)
              case atStart => exact ⟨0, Nat.zero_le _, rfl, Below.refl _ _⟩
              case round =>
                obtain ⟨l, hl, rfl, hbl⟩ := hrel
                by_cases hlj : l < j
                · omega
                · skip
                  go_wp2_with fail
                  go_ret
                  exact ⟨rfl, HBd.out.trans (hbl.mono HBd.out.size)⟩
end Go.Proofs.Qxb6630566a
