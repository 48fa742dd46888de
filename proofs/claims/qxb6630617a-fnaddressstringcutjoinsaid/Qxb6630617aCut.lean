/-
  THE FIRST LAW's WALK: FnAddressStringCutJoin. Own work on this program.
-/
import Derived.Test.Qxb6630617aWalks
namespace Go.Proofs.Qxb6630617a
open Go.RowKit

/-- The law's running total. -/
def totTo (tg vl : Nat → ByteArray) : Nat → Nat
  | 0 => 0
  | k + 1 => totTo tg vl k + (32 + (tg k).size + (vl k).size)
theorem totTo_ge (tg vl : Nat → ByteArray) (k : Nat) : lenTo (fun i => bytesOf (tg i)) (fun i => bytesOf (vl i)) k + 31 * k = totTo tg vl k := by
  induction k with
  | zero => rfl
  | succ k ih => simp only [lenTo, totTo, bytesOf_length]; omega

/-- '(Address).String', the string under a name. -/
theorem string_var (a : Option Addr) (n c : Nat) (tg vl : Nat → ByteArray) (w : World) (h : ElemsIn w a n tg vl)
    (hlen : (bodyTo (fun i => bytesOf (tg i)) (fun i => bytesOf (vl i)) n).length ≤ 1073741824) (hn : n ≤ 1073741824) :
    Calls Try.prog 7 #[.slice a n c] w fun e w' => ∃ s, e = .returned (.string s) ∧ bytesOf s = txt (fun i => bytesOf (tg i)) (fun i => bytesOf (vl i)) n ∧ Below w.heap.size w w' := by
  refine (string_any a n c tg vl w h hlen hn).mono ?_
  rintro e w' ⟨rfl, hb⟩
  exact ⟨_, rfl, rfl, hb⟩
theorem Copied.head {w : World} {g n : Nat} {tg vl : Nat → ByteArray} (h : Copied w g n n tg vl) {m : Nat} (hm : m ≤ n) : ElemsIn w (some ⟨g, 0, none⟩) m tg vl := by
  have := h.elems 0 m (by omega)
  simpa using this
theorem elems_none (w : World) (a : Option Addr) (tg vl : Nat → ByteArray) : ElemsIn w a 0 tg vl := fun _ hi => absurd hi (Nat.not_lt_zero _)

theorem first_byte {s : ByteArray} {tg vl : Nat → List UInt8} {n : Nat} (h : bytesOf s = txt tg vl n) {h0 : 0 < s.size} : (s[0]'h0).toNat = 40 := by
  have e : s[0]'h0 = (bytesOf s)[0]'(by rw [bytesOf_length]; exact h0) := rfl
  rw [e]
  simp only [h]
  rfl
theorem last_byte {s : ByteArray} {tg vl : Nat → List UInt8} {n j : Nat} (h : bytesOf s = txt tg vl n) (hj : j + 1 = s.size) {h0 : j < s.size} : (s[j]'h0).toNat = 41 := by
  have e : s[j]'h0 = (bytesOf s)[j]'(by rw [bytesOf_length]; exact h0) := rfl
  rw [e]
  have hl : j = (40 :: bodyTo tg vl n).length := by
    have : (bytesOf s).length = (txt tg vl n).length := by rw [h]
    rw [bytesOf_length] at this
    simp only [txt, List.length_cons, List.length_append, List.length_nil] at this ⊢
    omega
  subst hl
  have h' : bytesOf s = (40 :: bodyTo tg vl n) ++ [41] := h
  simp only [h']
  rw [List.getElem_append_right (Nat.le_refl _)]
  simp

theorem bytesOf_extract (s : ByteArray) (i j : Nat) : bytesOf (s.extract i j) = ((bytesOf s).take j).drop i := by
  unfold bytesOf
  rw [ByteArray.data_extract, Array.toList_extract, List.extract_eq_take_drop]
  simp [List.drop_take]
theorem cut_head (s : ByteArray) (h : 1 ≤ s.size) : ∃ p, (∀ w, (Instr.slice 9 (.string s) none (some (.int .i64 ((s.size : Int) - 1))) none).run Try.prog w = .ok (.string p) w) ∧ bytesOf p = (bytesOf s).dropLast ∧ p.size ≤ s.size := by
  refine ⟨s.extract 0 (s.size - 1), fun w => ?_, ?_, ?_⟩
  · have hj : 0 ≤ (s.size : Int) - 1 ∧ (s.size : Int) - 1 ≤ (s.size : Int) := by omega
    simp [Instr.slice, Instr.sliceBounds, Instr.sliceBound, asIntOf, run_underlying Try.underlying9, hj]
    intro hc
    omega
  · rw [bytesOf_extract, List.drop_zero, List.dropLast_eq_take, bytesOf_length]
  · simp
theorem cut_tail (s : ByteArray) (h : 1 ≤ s.size) : ∃ p, (∀ w, (Instr.slice 9 (.string s) (some (.int .i64 1)) none none).run Try.prog w = .ok (.string p) w) ∧ bytesOf p = (bytesOf s).tail ∧ p.size ≤ s.size := by
  refine ⟨s.extract 1 s.size, fun w => ?_, ?_, ?_⟩
  · simp [Instr.slice, Instr.sliceBounds, Instr.sliceBound, asIntOf, run_underlying Try.underlying9]
    intro hc
    omega
  · rw [bytesOf_extract, ← bytesOf_length, List.take_length, List.drop_one]
  · simp

theorem join_eq {s p1 sp p2 : ByteArray} (h : bytesOf s = bytesOf p1 ++ (bytesOf sp ++ bytesOf p2)) : (s.toList == (p1 ++ sp ++ p2).toList) = true := by
  have e : s = p1 ++ sp ++ p2 := by
    apply ByteArray.ext
    apply Array.ext'
    rw [ByteArray.data_append, ByteArray.data_append]
    simp only [Array.toList_append, List.append_assoc]
    exact h
  rw [← e]
  simp
theorem ret_true {b : Bool} (h : b = true) : Ending.returned (.bool b) = .returned (.bool true) := by rw [h]

set_option maxRecDepth 100000 in
set_option maxHeartbeats 2000000 in
theorem cut_in (a : Option Addr) (n c : Nat) (tg vl : Nat → ByteArray) (x : Int) (w : World) (h : ElemsIn w a n tg vl) :
    Calls Try.prog 3 #[.slice a n c, .int .i64 x] w fun e w' => e = .returned (.bool true) ∧ Below w.heap.size w w' := by
  go_enter Try.func3, Try.ntmps3
  go_wp2_with fail
  refine (bytes5_any a n c tg vl x w h).mono ?_
  rintro e w' ⟨⟨b, rfl, hb⟩, hw⟩
  obtain rfl : w = w' := hw.symm
  clear hw
  cases b
  · go_wp2
    go_ret
    exact ⟨rfl, Below.refl _ _⟩
  obtain ⟨hn, hsm⟩ := hb rfl
  have HSM : Hid (Small n tg vl) := hsm
  clear hb hsm
  go_wp2_with fail
  go_loopw [5, 20] (fun z i wr => ∃ k : Nat, k ≤ n ∧ i = .int .i64 k ∧ z = .int .i64 (totTo tg vl k) ∧ totTo tg vl k ≤ 1048576 ∧ Below w.heap.size w wr) (fun _ i _ => n - (intOf i).toNat)
  case atStart => exact ⟨0, Nat.zero_le _, rfl, rfl, by simp [totTo], Below.refl _ _⟩
  case round =>
    obtain ⟨k, hk, rfl, rfl, ht, hbr⟩ := hrel
    by_cases hlt : k < n
    · obtain ⟨bb, oo, ha, hbb, g0, g1⟩ := (h.below hbr) k hlt
      subst ha
      obtain ⟨z0, z1⟩ := HSM.out k hlt
      have hi1 : (k : Int) < (n : Int) := by omega
      have HT : Hid (totTo tg vl (k + 1) = totTo tg vl k + (32 + (tg k).size + (vl k).size)) := rfl
      go_wp2_with fail
      go_quiet (fail)
      go_wp2
      · go_ret
        exact ⟨rfl, below_drewN hbr _⟩
      · go_roundw
        case rel => exact ⟨k + 1, by omega, by go_num, by rw [HT.out]; go_num, by rw [HT.out]; omega, below_drewN hbr _⟩
        case measure => simp [intOf]; omega
    · have hkn : k = n := by omega
      subst hkn
      by_cases hx : 0 ≤ x ∧ x ≤ k
      · obtain ⟨hx0, hx1⟩ := hx
        obtain ⟨m, rfl⟩ := Int.eq_ofNat_of_zero_le hx0
        have hmk : m ≤ k := by omega
        go_wp2_with fail
        refine (toAddress_any a k c tg vl _ (h.below hbr) hn).mono ?_
        rintro e w1 ⟨rfl, hC, hb1⟩
        have HC1 : Hid (Copied w1 wr.heap.size k k tg vl) := hC
        have HB1 : Hid (Below w.heap.size w w1) := hbr.trans (hb1.mono hbr.size)
        clear hC hb1
        have htl := totTo_ge tg vl k
        have hbl := bodyTo_length (fun i => bytesOf (tg i)) (fun i => bytesOf (vl i)) k
        have hbm := bodyTo_mono (fun i => bytesOf (tg i)) (fun i => bytesOf (vl i)) hmk
        have hcut := bodyTo_cut (fun i => bytesOf (tg i)) (fun i => bytesOf (vl i)) m (k - m)
        have hb0 : (bodyTo (fun i => bytesOf (tg i)) (fun i => bytesOf (vl i)) k).length ≤ 1073741824 := by omega
        have hb1 : (bodyTo (fun i => bytesOf (tg i)) (fun i => bytesOf (vl i)) m).length ≤ 1073741824 := by omega
        have hb2 : (bodyTo (fun i => bytesOf (tg (m + i))) (fun i => bytesOf (vl (m + i))) (k - m)).length ≤ 1073741824 := by
          have := congrArg List.length hcut
          rw [show m + (k - m) = k from by omega] at this
          simp only [List.length_append] at this
          omega
        have L0 : Hid ((bodyTo (fun i => bytesOf (tg i)) (fun i => bytesOf (vl i)) k).length ≤ 1073741824) := hb0
        have L1 : Hid ((bodyTo (fun i => bytesOf (tg i)) (fun i => bytesOf (vl i)) m).length ≤ 1073741824) := hb1
        have L2 : Hid ((bodyTo (fun i => bytesOf (tg (m + i))) (fun i => bytesOf (vl (m + i))) (k - m)).length ≤ 1073741824) := hb2
        clear hb0 hb1 hb2 hcut hbm hbl htl
        go_wp2_with fail
        refine (string_var _ k k tg vl _ (HC1.out.head (Nat.le_refl _)) L0.out (by omega)).mono ?_
        rintro e w2 ⟨s, rfl, hs, hb2⟩
        have HS : Hid (bytesOf s = txt (fun i => bytesOf (tg i)) (fun i => bytesOf (vl i)) k) := hs
        have B12 : Hid (Below w1.heap.size w1 w2) := hb2
        clear hs hb2
        go_wp2_with fail
        refine (string_var _ m k tg vl _ ((HC1.out.head hmk).below B12.out) L1.out (by omega)).mono ?_
        rintro e w3 ⟨s1, rfl, hs, hb3⟩
        have HS1 : Hid (bytesOf s1 = txt (fun i => bytesOf (tg i)) (fun i => bytesOf (vl i)) m) := hs
        have B13 : Hid (Below w1.heap.size w1 w3) := B12.out.trans (hb3.mono B12.out.size)
        clear hs hb3 B12
        by_cases hmk2 : k = m
        · subst hmk2
          go_wp2_with fail
          refine (string_var _ _ _ (fun i => tg (k + i)) (fun i => vl (k + i)) _ (elems_none _ _ _ _) (by simp [bodyTo]) (by omega)).mono ?_
          rintro e w4 ⟨s2, rfl, hs, hb4⟩
          have HS2 : Hid (bytesOf s2 = txt (fun i => bytesOf (tg (k + i))) (fun i => bytesOf (vl (k + i))) (0)) := hs
          have B4 : Hid (Below w.heap.size w w4) := HB1.out.trans ((B13.out.trans (hb4.mono B13.out.size)).mono HB1.out.size)
          have HJ : Hid (bytesOf s = (bytesOf s1).dropLast ++ ([] ++ (bytesOf s2).tail)) := by
            unfold Hid
            rw [HS.out, HS1.out, HS2.out]
            have := txt_cut (fun i => bytesOf (tg i)) (fun i => bytesOf (vl i)) k 0
            simpa [sepAt] using this
          have u1 : s1.size ≤ 1073741826 := by rw [← bytesOf_length, HS1.out]; simp only [txt, List.length_cons, List.length_append, List.length_nil]; have := L1.out; omega
          have u2 : s2.size ≤ 1073741826 := by rw [← bytesOf_length, HS2.out]; simp only [txt, List.length_cons, List.length_append, List.length_nil]; have := L2.out; simp [bodyTo]
          clear hs hb4 B13 HC1 HB1 L0 L1 L2
          have l0 : s.size = 2 + lenTo (fun i => bytesOf (tg i)) (fun i => bytesOf (vl i)) k + (k - 1) := by rw [← bytesOf_length, HS.out, txt_length]
          have l00 : 2 ≤ s.size := by omega
          have l1 : 2 ≤ s1.size := by rw [← bytesOf_length, HS1.out, txt_length]; omega
          have l2 : 2 ≤ s2.size := by rw [← bytesOf_length, HS2.out, txt_length]; omega
          have lz : lenTo (fun i => bytesOf (tg i)) (fun i => bytesOf (vl i)) k ≤ 1048576 := by have := totTo_ge tg vl k; omega
          have HL0 : Hid (s.size = 2 + lenTo (fun i => bytesOf (tg i)) (fun i => bytesOf (vl i)) k + (k - 1)) := l0
          clear l0
          go_wp2_with fail
          go_loopw [11, 64] (fun z i wl => ∃ l : Nat, l ≤ k ∧ i = .int .i64 l ∧ z = .int .i64 (2 + lenTo (fun i => bytesOf (tg i)) (fun i => bytesOf (vl i)) l) ∧ Below w.heap.size w wl) (fun _ i _ => k - (intOf i).toNat)
          case atStart => exact ⟨0, Nat.zero_le _, rfl, rfl, B4.out⟩
          case round =>
            obtain ⟨l, hl, rfl, rfl, hbw⟩ := hrel
            by_cases hlk : l < k
            · obtain ⟨bb, oo, ha, hbb, g0, g1⟩ := (h.below hbw) l hlk
              subst ha
              obtain ⟨z0, z1⟩ := HSM.out l hlk
              have hi1 : (l : Int) < (k : Int) := by omega
              have HT : Hid (lenTo (fun i => bytesOf (tg i)) (fun i => bytesOf (vl i)) (l + 1) = lenTo (fun i => bytesOf (tg i)) (fun i => bytesOf (vl i)) l + ((tg l).size + 1 + (vl l).size)) := by simp only [Hid, lenTo, bytesOf_length]
              have lm := lenTo_mono (fun i => bytesOf (tg i)) (fun i => bytesOf (vl i)) hl
              go_wp2_with fail
              go_quiet (fail)
              go_wp2
              go_roundw
              case rel => exact ⟨l + 1, by omega, by go_num, by rw [HT.out]; go_num, below_drewN hbw _⟩
              case measure => simp [intOf]; omega
            · have hlk0 : l = k := by omega
              subst hlk0
              have f0 : (s[0]'(by omega)).toNat = 40 := first_byte HS.out
              obtain ⟨p1, hp1, bp1, zp1⟩ := cut_head s1 (by omega)
              obtain ⟨p2, hp2, bp2, zp2⟩ := cut_tail s2 (by omega)
              have BP1 : Hid (bytesOf p1 = (bytesOf s1).dropLast) := bp1
              have BP2 : Hid (bytesOf p2 = (bytesOf s2).tail) := bp2
              clear bp1 bp2
              have z1 : (s.size : Int) = 2 + lenTo (fun i => bytesOf (tg i)) (fun i => bytesOf (vl i)) l + (l - 1 : Nat) := by have := HL0.out; omega
              by_cases h1l : 1 < l
              · have y1 : (s.size : Int) ≤ 2 + lenTo (fun i => bytesOf (tg i)) (fun i => bytesOf (vl i)) l + (l - 1) := by omega
                have y2 : 2 + (lenTo (fun i => bytesOf (tg i)) (fun i => bytesOf (vl i)) l : Int) + (l - 1) ≤ s.size := by omega
                clear z1
                have f1 : (s[2 + lenTo (fun i => bytesOf (tg i)) (fun i => bytesOf (vl i)) l + (l - 1) - 1]'(by omega)).toNat = 41 := last_byte HS.out (by omega)
                go_wp2_with fail
                all_goals
                  go_quiet (fail)
                  go_wp2
                  go_ret
                  exact ⟨ret_true (join_eq (by rw [HJ.out, BP1.out, BP2.out]; rfl)), below_drewN hbw _⟩
              · have y1 : (s.size : Int) ≤ 2 + lenTo (fun i => bytesOf (tg i)) (fun i => bytesOf (vl i)) l := by omega
                have y2 : 2 + (lenTo (fun i => bytesOf (tg i)) (fun i => bytesOf (vl i)) l : Int) ≤ s.size := by omega
                clear z1
                have f1 : (s[1 + lenTo (fun i => bytesOf (tg i)) (fun i => bytesOf (vl i)) l]'(by omega)).toNat = 41 := last_byte HS.out (by omega)
                go_wp2_with fail
                all_goals
                  go_quiet (fail)
                  go_wp2
                  go_ret
                  exact ⟨ret_true (join_eq (by rw [HJ.out, BP1.out, BP2.out]; rfl)), below_drewN hbw _⟩
        · go_wp2_with fail
          refine (string_var _ (k - m) (k - m) (fun i => tg (m + i)) (fun i => vl (m + i)) _ ((HC1.out.elems m (k - m) (by omega)).below B13.out) L2.out (by omega)).mono ?_
          rintro e w4 ⟨s2, rfl, hs, hb4⟩
          have HS2 : Hid (bytesOf s2 = txt (fun i => bytesOf (tg (m + i))) (fun i => bytesOf (vl (m + i))) (k - m)) := hs
          have B4 : Hid (Below w.heap.size w w4) := HB1.out.trans ((B13.out.trans (hb4.mono B13.out.size)).mono HB1.out.size)
          have HJ : Hid (bytesOf s = (bytesOf s1).dropLast ++ (sepAt m k ++ (bytesOf s2).tail)) := by
            unfold Hid
            rw [HS.out, HS1.out, HS2.out]
            have := txt_cut (fun i => bytesOf (tg i)) (fun i => bytesOf (vl i)) m (k - m)
            rwa [show m + (k - m) = k from by omega] at this
          have u1 : s1.size ≤ 1073741826 := by rw [← bytesOf_length, HS1.out]; simp only [txt, List.length_cons, List.length_append, List.length_nil]; have := L1.out; omega
          have u2 : s2.size ≤ 1073741826 := by rw [← bytesOf_length, HS2.out]; simp only [txt, List.length_cons, List.length_append, List.length_nil]; have := L2.out; omega
          clear hs hb4 B13 HC1 HB1 L0 L1 L2
          have l0 : s.size = 2 + lenTo (fun i => bytesOf (tg i)) (fun i => bytesOf (vl i)) k + (k - 1) := by rw [← bytesOf_length, HS.out, txt_length]
          have l00 : 2 ≤ s.size := by omega
          have l1 : 2 ≤ s1.size := by rw [← bytesOf_length, HS1.out, txt_length]; omega
          have l2 : 2 ≤ s2.size := by rw [← bytesOf_length, HS2.out, txt_length]; omega
          have lz : lenTo (fun i => bytesOf (tg i)) (fun i => bytesOf (vl i)) k ≤ 1048576 := by have := totTo_ge tg vl k; omega
          have HL0 : Hid (s.size = 2 + lenTo (fun i => bytesOf (tg i)) (fun i => bytesOf (vl i)) k + (k - 1)) := l0
          clear l0
          go_wp2_with fail
          go_loopw [11, 64] (fun z i wl => ∃ l : Nat, l ≤ k ∧ i = .int .i64 l ∧ z = .int .i64 (2 + lenTo (fun i => bytesOf (tg i)) (fun i => bytesOf (vl i)) l) ∧ Below w.heap.size w wl) (fun _ i _ => k - (intOf i).toNat)
          case atStart => exact ⟨0, Nat.zero_le _, rfl, rfl, B4.out⟩
          case round =>
            obtain ⟨l, hl, rfl, rfl, hbw⟩ := hrel
            by_cases hlk : l < k
            · obtain ⟨bb, oo, ha, hbb, g0, g1⟩ := (h.below hbw) l hlk
              subst ha
              obtain ⟨z0, z1⟩ := HSM.out l hlk
              have hi1 : (l : Int) < (k : Int) := by omega
              have HT : Hid (lenTo (fun i => bytesOf (tg i)) (fun i => bytesOf (vl i)) (l + 1) = lenTo (fun i => bytesOf (tg i)) (fun i => bytesOf (vl i)) l + ((tg l).size + 1 + (vl l).size)) := by simp only [Hid, lenTo, bytesOf_length]
              have lm := lenTo_mono (fun i => bytesOf (tg i)) (fun i => bytesOf (vl i)) hl
              go_wp2_with fail
              go_quiet (fail)
              go_wp2
              go_roundw
              case rel => exact ⟨l + 1, by omega, by go_num, by rw [HT.out]; go_num, below_drewN hbw _⟩
              case measure => simp [intOf]; omega
            · have hlk0 : l = k := by omega
              subst hlk0
              have f0 : (s[0]'(by omega)).toNat = 40 := first_byte HS.out
              obtain ⟨p1, hp1, bp1, zp1⟩ := cut_head s1 (by omega)
              obtain ⟨p2, hp2, bp2, zp2⟩ := cut_tail s2 (by omega)
              have BP1 : Hid (bytesOf p1 = (bytesOf s1).dropLast) := bp1
              have BP2 : Hid (bytesOf p2 = (bytesOf s2).tail) := bp2
              clear bp1 bp2
              have z1 : (s.size : Int) = 2 + lenTo (fun i => bytesOf (tg i)) (fun i => bytesOf (vl i)) l + (l - 1 : Nat) := by have := HL0.out; omega
              by_cases h1l : 1 < l
              · have y1 : (s.size : Int) ≤ 2 + lenTo (fun i => bytesOf (tg i)) (fun i => bytesOf (vl i)) l + (l - 1) := by omega
                have y2 : 2 + (lenTo (fun i => bytesOf (tg i)) (fun i => bytesOf (vl i)) l : Int) + (l - 1) ≤ s.size := by omega
                clear z1
                have f1 : (s[2 + lenTo (fun i => bytesOf (tg i)) (fun i => bytesOf (vl i)) l + (l - 1) - 1]'(by omega)).toNat = 41 := last_byte HS.out (by omega)
                by_cases h0m : 0 < m
                · have hsp : sepAt m l = [32] := by unfold sepAt; rw [if_pos (by omega)]
                  have HSP : Hid (sepAt m l = [32]) := hsp
                  clear hsp
                  have hml : m < l := by omega
                  go_wp2_with fail
                  go_quiet (fail)
                  go_wp2
                  go_ret
                  exact ⟨ret_true (join_eq (by rw [HJ.out, BP1.out, BP2.out, HSP.out]; rfl)), below_drewN hbw _⟩
                · have hsp : sepAt m l = [] := by unfold sepAt; rw [if_neg (by omega)]
                  have HSP : Hid (sepAt m l = []) := hsp
                  clear hsp
                  go_wp2_with fail
                  go_quiet (fail)
                  go_wp2
                  go_ret
                  exact ⟨ret_true (join_eq (by rw [HJ.out, BP1.out, BP2.out, HSP.out]; rfl)), below_drewN hbw _⟩
              · have y1 : (s.size : Int) ≤ 2 + lenTo (fun i => bytesOf (tg i)) (fun i => bytesOf (vl i)) l := by omega
                have y2 : 2 + (lenTo (fun i => bytesOf (tg i)) (fun i => bytesOf (vl i)) l : Int) ≤ s.size := by omega
                clear z1
                have f1 : (s[1 + lenTo (fun i => bytesOf (tg i)) (fun i => bytesOf (vl i)) l]'(by omega)).toNat = 41 := last_byte HS.out (by omega)
                by_cases h0m : 0 < m
                · omega
                · have hsp : sepAt m l = [] := by unfold sepAt; rw [if_neg (by omega)]
                  have HSP : Hid (sepAt m l = []) := hsp
                  clear hsp
                  go_wp2_with fail
                  go_quiet (fail)
                  go_wp2
                  go_ret
                  exact ⟨ret_true (join_eq (by rw [HJ.out, BP1.out, BP2.out, HSP.out]; rfl)), below_drewN hbw _⟩
      · go_wp2_with fail
        all_goals (go_ret; exact ⟨rfl, hbr⟩)
end Go.Proofs.Qxb6630617a
