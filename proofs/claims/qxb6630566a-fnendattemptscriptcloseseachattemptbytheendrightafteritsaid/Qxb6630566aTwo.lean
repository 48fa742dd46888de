/-
  THE SECOND LAW's WALK. Own work on this program.
-/
import Derived.Test.Qxb6630566aSCallees
import Derived.Deep.RegionHeld3
import Derived.Deep.QuietTactic
import Derived.BigQuiet
import Derived.Laws.Pointers
namespace Go.Proofs.Qxb6630566a
open Go.RowKit

theorem below_step {wd wr W w6 : World} (hbl : Below wd.heap.size wd wr) (hW : Below wr.heap.size wr W) (h : Below W.heap.size W w6) : Below wd.heap.size wd w6 :=
  (hbl.trans (hW.mono hbl.size)).trans (h.mono (Nat.le_trans hbl.size hW.size))
theorem eqNil (w : World) : (Op.equalIn 9999 31 (.pointer none) (.pointer none)).run Try.prog w = .ok true w := by kernel_rfl

set_option maxRecDepth 100000 in
set_option maxHeartbeats 2000000 in
theorem law2_in (a0 a1 a2 a3 : Option Addr) (n0 c0 n1 c1 n2 c2 n3 c3 : Nat) (op : Nat → Bool) (cs : Nat → Int) (ss : Nat → ByteArray) (ts : Nat → Int) (w : World)
    (h0 : BoolsIn w a0 n0 op) (h1 : NumsIn w a1 n1 cs) (h2 : StrsIn w a2 n2 ss) (h3 : NumsIn w a3 n3 ts)
    (m0 : n0 ≤ 65536) (m1 : n1 ≤ 65536) (m2 : n2 ≤ 65536) (m3 : n3 ≤ 65536) :
    Calls Try.prog 4 #[.slice a0 n0 c0, .slice a1 n1 c1, .slice a2 n2 c2, .slice a3 n3 c3] w fun e w' => e = .returned (.bool true) ∧ Below w.heap.size w w' := by
  have heq := eqNil
  go_enter Try.func4, Try.ntmps4
  go_wp2_with fail
  refine (bytes2_any a0 a1 a2 a3 n0 c0 n1 c1 n2 c2 n3 c3 ss w h2).mono ?_
  rintro e w' ⟨⟨b, rfl⟩, hw⟩
  obtain rfl : w = w' := hw.symm
  cases b
  · go_wp2
    go_ret
    exact ⟨rfl, Below.refl _ _⟩
  go_wp2_with fail
  · go_ret
    exact ⟨rfl, Below.refl _ _⟩
  go_loop [9, 10] (fun z i => ∃ k : Nat, k ≤ n2 ∧ i = .int .i64 k ∧ ∃ v : Int, 0 ≤ v ∧ v ≤ 1048576 ∧ z = .int .i64 v) (fun _ i => n2 - (intOf i).toNat)
  case atStart => exact ⟨0, Nat.zero_le _, rfl, _, by omega, by omega, rfl⟩
  case round =>
    obtain ⟨k, hk, rfl, v, hv0, hv1, rfl⟩ := hrel
    by_cases hlt : k < n2
    · obtain ⟨b, o, ha, hb, hcell⟩ := h2 k hlt
      subst ha
      go_wp2
      · go_ret; exact ⟨rfl, Below.refl _ _⟩
      · go_ret; exact ⟨rfl, Below.refl _ _⟩
      · go_round
        case rel => exact ⟨k + 1, by omega, by go_num, _, by omega, by omega, rfl⟩
        case measure => simp [intOf]; omega
    · go_wp2_with fail
      go_loopw [13] (fun i wr => ∃ j : Nat, j ≤ n0 ∧ i = .int .i64 j ∧ Script w op n1 cs n2 ss n3 ts j wr) (fun i _ => n0 - (intOf i).toNat)
      case atStart => exact ⟨0, Nat.zero_le _, rfl, script_start⟩
      case round =>
        obtain ⟨j, hj, rfl, hF⟩ := hrel
        have HF : Hid (Script w op n1 cs n2 ss n3 ts j wr) := hF
        by_cases hjn : j < n0
        · obtain ⟨hB, v', ex, fi, er, hS, hL, hG⟩ := hF
          obtain ⟨bs, os, ha, hbs, hcs⟩ := h0 j hjn
          subst ha
          have hcj := cnt_le op j
          by_cases hop : op j = true
          · rw [hop] at hcs
            have hce : wr.cell? ⟨bs, os + j, none⟩ = some (.bool true) := (hB.cell hbs).trans hcs
            have c15 := hS.at.2.1
            obtain ⟨xs, hown, hxs⟩ := hL.owns
            have HX : Hid (∀ i, i < cnt op j → Att (fun j => xs.getD j (.pointer none)) i (ex i) (fi i) (er i) oS) := hxs
            obtain ⟨i29, hi29, hz0, hz1, hz2⟩ := info_parts Try.info29
            have hsl : w.heap.size < wr.heap.size := block_lt hS
            have HS : Hid (StepB wr w.heap.size v') := hS
            have HL : Hid (LogV wr w.heap.size v' (cnt op j) ex fi er) := hL
            have HG : Hid (Stage wr op n1 cs n2 ss n3 ts j ex fi er) := hG
            clear hS hL hG hxs hcs
            go_wp2_with (first | (at_builtin; refine wpList_append_own _ rfl _ _ 25 rfl w.heap.size 29 i29 (.agg attZero) 6 72 Try.underlying25 hi29 hz0 hz1 hz2 rfl (by decide) _ (cnt op j) xs rfl (hown.alloc _) ⟨wr.heap.size, 0, none⟩ 1 1 attNew rfl rfl ?c1 ?c2 ?c3 ?c4 ?c5 ?_))
            case c1 =>
              intro q u hq
              match q, hq with
              | 0, hq => simp [attNew] at hq; subst hq; simp [Addr.add]
              | 1, hq => simp [attNew] at hq; subst hq; simp [Addr.add]
              | 2, hq => simp [attNew] at hq; subst hq; simp [Addr.add]
              | 3, hq => simp [attNew] at hq; subst hq; simp [Addr.add, emptyS]
              | 4, hq => simp [attNew] at hq; subst hq; simp [Addr.add, oS]
              | 5, hq => simp [attNew] at hq; subst hq; simp [Addr.add, emptyS]
              | q + 6, hq => simp [attNew] at hq
            case c2 => intro u hu; simp [attNew] at hu; rcases hu with rfl | rfl | rfl | rfl <;> rfl
            case c3 => unfold maxLen; omega
            case c4 => omega
            case c5 => simp; omega
            intro v2 w2 hown2 hgrow _
            obtain ⟨g2, cap2, hv2, _, _⟩ := LogV.appended hown.1 HX.out hown2
            have R : Hid (Script w op n1 cs n2 ss n3 ts (j + 1) (w2.setCell ⟨w.heap.size, 15, none⟩ v2)) := script_open hop hB HS.out HL.out HG.out hown.1 HX.out hown2 hgrow
            have S2 := step_grown HS.out HL.out hgrow
            have d15 := S2.at.2.1
            have f15 := S2.frozen 15
            rw [hv2] at R ⊢
            clear hown hown2 hgrow hv2 S2 HX HS HL HG c15
            go_wp2
            go_roundw
            case rel => exact ⟨j + 1, by omega, by go_num, R.out⟩
            case measure => simp [intOf]; omega
          · have hop' : op j = false := by simpa using hop
            rw [hop'] at hcs
            have hce : wr.cell? ⟨bs, os + j, none⟩ = some (.bool false) := (hB.cell hbs).trans hcs
            have HS : Hid (StepB wr w.heap.size v') := hS
            have HL : Hid (LogV wr w.heap.size v' (cnt op j) ex fi er) := hL
            have HG : Hid (Stage wr op n1 cs n2 ss n3 ts j ex fi er) := hG
            clear hS hL hG hcs
            go_wp2_with fail
            refine (codeAt_any a1 n1 c1 cs j _ rfl _ (h1.below hB)).mono ?_
            rintro e w1 ⟨p, rfl, hp, hb1⟩
            have HP : Hid (CodeP w1 n1 cs j p) := hp
            have HB1 : Hid (Below w.heap.size w w1) := hB.trans (hb1.mono hB.size)
            have Hb1 : Hid (Below wr.heap.size wr w1) := hb1
            clear hp hb1
            go_wp2_with fail
            refine (errAt_any a2 n2 c2 ss j _ rfl _ (h2.below HB1.out)).mono ?_
            rintro e w1' ⟨rfl, hw1⟩
            obtain rfl : w1 = w1' := hw1.symm
            go_wp2_with fail
            refine (nsAt_any a3 n3 c3 ts j _ rfl _ (h3.below HB1.out)).mono ?_
            rintro e w1' ⟨rfl, hw2⟩
            obtain rfl : w1 = w1' := hw2.symm
            clear hw1 hw2
            go_wp2_with fail
            have tb := nsAt_bd h3 j
            refine (instant_any _ tb.1 tb.2 _).mono ?_
            rintro e w2 ⟨rfl, hb2⟩
            have Hb2 : Hid (Below wr.heap.size wr w2) := Hb1.out.trans (hb2.mono Hb1.out.size)
            have K2 : Hid (Keep w.heap.size w1 w2) := Keep.of_below hb2 HB1.out.size
            clear hb2 tb Hb1 HB1
            go_wp2_with fail
            refine (end_script p _ _ (HS.out.below Hb2.out) (HL.out.below Hb2.out) (by omega)).mono ?_
            rintro e w3 ⟨rfl, hE⟩
            have R : Hid (Script w op n1 cs n2 ss n3 ts (j + 1) w3) := by
              have hG2 : Stage w2 op n1 cs n2 ss n3 ts j ex fi er := by
                have K : Keep w.heap.size wr w2 := Keep.of_below Hb2.out hB.size
                intro i hi ho
                rcases HG.out i hi ho with ⟨q1, q2, q3⟩ | q
                · exact .inl ⟨q1, q2, q3.keep K⟩
                · exact .inr q
              exact script_end hop' (hB.trans (Hb2.out.mono hB.size)) hG2 (HP.out.keep K2.out) hE
            clear hE HS HL HG HP K2 Hb2
            go_wp2
            go_roundw
            case rel => exact ⟨j + 1, by omega, by go_num, R.out⟩
            case measure => simp [intOf]; omega
        · have hjn0 : j = n0 := by omega
          subst hjn0
          clear hF
          go_wp2_with fail
          generalize hwd : wr = wd
          rw [hwd] at HF
          clear hwd
          go_loop [14, 15] (fun m i => ∃ l : Nat, l ≤ j ∧ i = .int .i64 l ∧ m = .int .i64 (cnt op l)) (fun _ i => j - (intOf i).toNat)
          case atStart => exact ⟨0, Nat.zero_le _, rfl, rfl⟩
          case round =>
            obtain ⟨l, hl, rfl, rfl⟩ := hrel
            by_cases hlj : l < j
            · obtain ⟨bs, os, ha, hbs, hcs⟩ := h0 l hlj
              subst ha
              have hcl := cnt_le op l
              have hce := (HF.out.1.cell (p := ⟨bs, os + l, none⟩) hbs).trans hcs
              by_cases hop : op l = true
              · have HC : Hid (cnt op (l + 1) = cnt op l + 1) := cnt_hit hop
                rw [hop] at hce
                clear hcs hop
                go_wp2
                go_round
                case rel => exact ⟨l + 1, by omega, by go_num, by rw [HC.out]; go_num⟩
                case measure => simp [intOf]; omega
              · have HC : Hid (cnt op (l + 1) = cnt op l) := cnt_miss (by simpa using hop)
                rw [show op l = false by simpa using hop] at hce
                clear hcs hop
                go_wp2
                go_round
                case rel => exact ⟨l + 1, by omega, by go_num, by rw [HC.out]⟩
                case measure => simp [intOf]; omega
            · have hl0 : l = j := by omega
              subst hl0
              obtain ⟨hBd, v', ex, fi, er, hS, hL, hG⟩ := HF.out
              obtain ⟨ca, cn, hvl⟩ : ∃ ca cn, v' = .slice ca (cnt op l) cn := by
                rcases hL with ⟨q1, q2⟩ | ⟨g, cap, q1, _, _⟩
                · exact ⟨none, 0, by rw [q1, q2]⟩
                · exact ⟨_, _, q1⟩
              subst hvl
              have c15 := hS.at.2.1
              have HS : Hid (StepB wd w.heap.size (.slice ca (cnt op l) cn)) := hS
              have HL : Hid (LogV wd w.heap.size (.slice ca (cnt op l) cn) (cnt op l) ex fi er) := hL
              have HG : Hid (Stage wd op n1 cs n2 ss n3 ts l ex fi er) := hG
              have HBd : Hid (Below w.heap.size w wd) := hBd
              clear hS hL hG HF hBd
              go_wp2_with fail
              refine (untouched_step HS.out.at).mono ?_
              rintro e w5 ⟨rfl, hw5⟩
              obtain rfl : wd = w5 := hw5.symm
              clear hw5
              go_wp2_with fail
              go_loopw [16, 17] (fun m i wl => ∃ x : Nat, x ≤ l ∧ i = .int .i64 x ∧ m = .int .i64 (cnt op x) ∧ Below wd.heap.size wd wl) (fun _ i _ => l - (intOf i).toNat)
              case atStart => exact ⟨0, Nat.zero_le _, rfl, rfl, Below.refl _ _⟩
              case round =>
                obtain ⟨x, hx, rfl, rfl, hbl⟩ := hrel
                by_cases hxl : x < l
                · have HBw : Hid (Below w.heap.size w wr) := HBd.out.trans (hbl.mono HBd.out.size)
                  obtain ⟨bs, os, ha, hbs, hcs⟩ := h0 x hxl
                  have hcx := cnt_le op x
                  by_cases hop : op x = true
                  · have HC : Hid (cnt op (x + 1) = cnt op x + 1) := cnt_hit hop
                    have hlc := cnt_lt hxl hop
                    have hcell0 : wr.cell? ⟨bs, os + x, none⟩ = some (.bool true) := (HBw.out.cell hbs).trans (hcs.trans (by rw [hop]))
                    have hlc0 : cnt op l ≤ 65536 := Nat.le_trans (cnt_le op l) m0
                    obtain ⟨g, cap, hv, hBg, hC⟩ : ∃ g cap, (Value.slice ca (cnt op l) cn) = .slice (some ⟨g, 0, none⟩) (cnt op l) cap ∧ w.heap.size ≤ g ∧ LogC wd g (cnt op l) cap ex fi er := by
                      rcases HL.out with ⟨q1, q2⟩ | q
                      · omega
                      · exact q
                    simp only [Value.slice.injEq] at hv
                    obtain ⟨hca, _, hcn⟩ := hv
                    subst hca
                    subst hcn
                    have hCr : LogC wr g (cnt op l) cn ex fi er := hC.same (hbl.block g hC.lt)
                    obtain ⟨g0, g1, g2, g3, g4, g5⟩ := hCr.cells hlc
                    unfold oS at g4
                    unfold emptyS at g5
                    have hgl := hCr.lt
                    have o15 : wr.cell? ⟨w.heap.size, 15, none⟩ = some (.slice (some ⟨g, 0, none⟩) (cnt op l) cn) := (hbl.cell HS.out.at.1).trans c15
                    have hsl : w.heap.size < wr.heap.size := Nat.lt_of_lt_of_le HS.out.at.1 hbl.size
                    have K : Hid (Keep w.heap.size wd wr) := Keep.of_below hbl HBd.out.size
                    have u1 : bs < wr.heap.size := Nat.lt_of_lt_of_le hbs HBw.out.size
                    rcases HG.out x hxl hop with ⟨q1, q2, q3⟩ | ⟨q1, q2, q3, q4⟩
                    · obtain ⟨b9, o9, ha9, hbs9, hcs9⟩ := h0 (x + 1) q1
                      have hpp : b9 = bs ∧ o9 = os := by
                        rw [ha] at ha9
                        simp only [Option.some.injEq, Addr.mk.injEq] at ha9
                        exact ⟨ha9.1.symm, ha9.2.1.symm⟩
                      obtain ⟨rfl, rfl⟩ := hpp
                      have hcell1 : wr.cell? ⟨b9, o9 + (x + 1), none⟩ = some (.bool false) := (HBw.out.cell hbs).trans (hcs9.trans (by rw [q2]))
                      subst ha
                      obtain ⟨qe, ⟨tb, qf, qt⟩, qc⟩ := q3.keep K.out
                      rw [qe] at g3
                      rw [qf] at g2
                      have t0 : wr.cell? ⟨tb, 0, none⟩ = some (.int .u64 (nsecOf (nsAt n3 ts (x + 1)))) := by simp [World.cell?, qt, timeCells]
                      have t1 : wr.cell? ⟨tb, 1, none⟩ = some (.int .i64 (secOf (nsAt n3 ts (x + 1)))) := by simp [World.cell?, qt, timeCells]
                      have t2 : wr.cell? ⟨tb, 2, none⟩ = some (.pointer none) := by simp [World.cell?, qt, timeCells]
                      have tl : tb < wr.heap.size := block_lt qt
                      clear ha9 hcs9 hbs9 hcs qe qf qt hop hC hCr q3
                      have nb := nsAt_bd h3 (x + 1)
                      obtain ⟨nb1, nb2⟩ := nb
                      rcases qc with ⟨qn, ib, qx, qi⟩ | ⟨qn, qx⟩
                      · rw [qx] at g0
                        have i0 : wr.cell? ⟨ib, 0, none⟩ = some (.int .i64 (cs (x + 1))) := by simp [World.cell?, qi]
                        have il : ib < wr.heap.size := block_lt qi
                        obtain ⟨bc, oc, hac, hbc, hcc, _⟩ := h1 (x + 1) qn
                        subst hac
                        have hci : wr.cell? ⟨bc, oc + (x + 1), none⟩ = some (.int .i64 (cs (x + 1))) := (HBw.out.cell hbc).trans hcc
                        have ul : bc < wr.heap.size := Nat.lt_of_lt_of_le hbc HBw.out.size
                        have hi2 : ((x : Int) + 1) < (n1 : Int) := by omega
                        clear qx qi hcc
                        go_wp2_with fail
                        go_quiet ((go_at_call 11; exact Calls.quiet_of_same (errAt_any a2 n2 c2 ss (x + 1) _ (by omega) _ (h2.below (below_drewN (HBw.out.alloc HBw.out.size _) _)))))
                        go_wp2_with fail
                        go_region_held3 (fun w' => w'.cell? ⟨wr.heap.size, 2, none⟩ = some (.pointer (some ⟨tb, 0, none⟩)) ∧ w'.cell? ⟨tb, 0, none⟩ = some (.int .u64 (nsecOf (nsAt n3 ts (x + 1)))) ∧ w'.cell? ⟨tb, 1, none⟩ = some (.int .i64 (secOf (nsAt n3 ts (x + 1)))) ∧ w'.cell? ⟨tb, 2, none⟩ = some (.pointer none)) (first | (simp [go_sem, *]; done) | (simp [go_sem, *]; omega)) (first | (go_at_call 12; refine (nsAt_any a3 n3 c3 ts (x + 1) _ (by omega) _ (h3.below (by exact below_drewN (HBw.out.alloc HBw.out.size _) _))).mono ?_; rintro e w7 ⟨rfl, rfl⟩) | (go_at_call 6; refine (instant_any _ nb1 nb2 _).mono ?_; rintro e w6 ⟨rfl, hb6⟩; obtain ⟨hc6, hf6⟩ := bcell hb6))
                        go_wp2_with fail
                        go_quiet (fail)
                        go_wp2
                        go_roundw
                        case rel => exact ⟨x + 1, by omega, by go_num, by rw [HC.out]; go_num, below_drewN (below_step hbl (by exact (below_drewN ((Below.refl _ _).alloc (Nat.le_refl _) _) _)) hb6) _⟩
                        case measure => simp [intOf]; omega
                      · rw [qx] at g0
                        clear qx
                        go_wp2_with fail
                        go_quiet ((go_at_call 11; exact Calls.quiet_of_same (errAt_any a2 n2 c2 ss (x + 1) _ (by omega) _ (h2.below (below_drewN (HBw.out.alloc HBw.out.size _) _)))))
                        go_wp2_with fail
                        go_region_held3 (fun w' => w'.cell? ⟨wr.heap.size, 2, none⟩ = some (.pointer (some ⟨tb, 0, none⟩)) ∧ w'.cell? ⟨tb, 0, none⟩ = some (.int .u64 (nsecOf (nsAt n3 ts (x + 1)))) ∧ w'.cell? ⟨tb, 1, none⟩ = some (.int .i64 (secOf (nsAt n3 ts (x + 1)))) ∧ w'.cell? ⟨tb, 2, none⟩ = some (.pointer none)) (first | (simp [go_sem, *]; done) | (simp [go_sem, *]; omega)) (first | (go_at_call 12; refine (nsAt_any a3 n3 c3 ts (x + 1) _ (by omega) _ (h3.below (by exact below_drewN (HBw.out.alloc HBw.out.size _) _))).mono ?_; rintro e w7 ⟨rfl, rfl⟩) | (go_at_call 6; refine (instant_any _ nb1 nb2 _).mono ?_; rintro e w6 ⟨rfl, hb6⟩; obtain ⟨hc6, hf6⟩ := bcell hb6))
                        go_wp2
                        go_roundw
                        case rel => exact ⟨x + 1, by omega, by go_num, by rw [HC.out]; go_num, below_step hbl (by exact (below_drewN ((Below.refl _ _).alloc (Nat.le_refl _) _) _)) hb6⟩
                        case measure => simp [intOf]; omega
                    · rw [q2] at g0
                      rw [q3] at g2
                      rw [q4] at g3
                      unfold emptyS at g3
                      clear q2 q3 q4 hC hCr hcs
                      by_cases hx1 : x + 1 < l
                      · obtain ⟨b9, o9, ha9, hbs9, hcs9⟩ := h0 (x + 1) hx1
                        have hpp : b9 = bs ∧ o9 = os := by
                          rw [ha] at ha9
                          simp only [Option.some.injEq, Addr.mk.injEq] at ha9
                          exact ⟨ha9.1.symm, ha9.2.1.symm⟩
                        obtain ⟨rfl, rfl⟩ := hpp
                        have hcell1 : wr.cell? ⟨b9, o9 + (x + 1), none⟩ = some (.bool true) := (HBw.out.cell hbs).trans (hcs9.trans (by
                          by_cases h : op (x + 1) = true
                          · rw [h]
                          · exact absurd ⟨hx1, by simpa using h⟩ q1))
                        subst ha
                        clear ha9 hcs9 hbs9 hop q1
                        go_wp2
                        go_roundw
                        case rel => exact ⟨x + 1, by omega, by go_num, by rw [HC.out]; go_num, hbl.alloc hbl.size _⟩
                        case measure => simp [intOf]; omega
                      · subst ha
                        clear hop q1
                        go_wp2
                        go_roundw
                        case rel => exact ⟨x + 1, by omega, by go_num, by rw [HC.out]; go_num, hbl.alloc hbl.size _⟩
                        case measure => simp [intOf]; omega
                  · have HC : Hid (cnt op (x + 1) = cnt op x) := cnt_miss (by simpa using hop)
                    have hcell0 : wr.cell? ⟨bs, os + x, none⟩ = some (.bool false) := (HBw.out.cell hbs).trans (hcs.trans (by rw [show op x = false by simpa using hop]))
                    subst ha
                    clear hop hcs
                    go_wp2
                    go_roundw
                    case rel => exact ⟨x + 1, by omega, by go_num, by rw [HC.out], hbl⟩
                    case measure => simp [intOf]; omega
                · go_wp2_with fail
                  go_ret
                  exact ⟨rfl, HBd.out.trans (hbl.mono HBd.out.size)⟩
end Go.Proofs.Qxb6630566a
