/-
  THE SECOND LAW's WALK: parsesTo (11), FnAddressStringParsesBack (4). Own work on this program.
-/
import Derived.Test.Qxb6630617aValid
import Derived.Deep.RegionHeld3
namespace Go.Proofs.Qxb6630617a
open Go.RowKit

set_option maxHeartbeats 1000000 in
/-- 'parsesTo' at the text of a valid address: no element. -/
theorem parses_none (s : ByteArray) (a : Option Addr) (c : Nat) (tg vl : Nat → List UInt8) (w : World) (hs : bytesOf s = txt tg vl 0) :
    Calls Try.prog 11 #[.string s, .slice a 0 c] w fun e w' => e = .returned (.bool true) ∧ Below w.heap.size w w' := by
  have hz : s.size = 2 := by rw [← bytesOf_length, hs]; rfl
  have e0 : (s[0]'(by omega)).toNat = 40 := byte_first hs
  have e1 : (s[s.size - 1]'(by omega)).toNat = 41 := byte_last hs
  have e2 : (s[1]'(by omega)).toNat = 41 := by simp only [hz] at e1; exact e1
  clear e1
  go_enter Try.func11, Try.ntmps11
  go_wp2
  go_ret
  exact ⟨rfl, Below.refl _ _⟩

/-- What a world that stands 'Below' another gives the walk: two rules. -/
theorem bcell {W w1 : World} (hb : Below W.heap.size W w1) : (∀ b o, b < W.heap.size → w1.cell? ⟨b, o, none⟩ = W.cell? ⟨b, o, none⟩) ∧ (∀ b o, b < W.heap.size → w1.frozen? ⟨b, o, none⟩ = W.frozen? ⟨b, o, none⟩) :=
  ⟨fun b o h => hb.cell (p := ⟨b, o, none⟩) h, fun b o h => hb.frozen (p := ⟨b, o, none⟩) h⟩

/-- The reader's state: in piece q at byte i, or past the end. -/
def Reads (tg vl : Nat → List UInt8) (n q i : Nat) : Prop := (q < n ∧ pos tg vl q ≤ i ∧ i ≤ fin tg vl q) ∨ (q = n ∧ i = (bodyTo tg vl n).length + 1)

theorem reads_start {tg vl : Nat → List UInt8} {n : Nat} (h : 0 < n) : Reads tg vl n 0 0 := .inl ⟨h, Nat.le_of_eq (pos_zero tg vl), Nat.zero_le _⟩
theorem reads_on {tg vl : Nat → List UInt8} {n q i : Nat} (h : q < n) (h1 : pos tg vl q ≤ i) (h2 : i < fin tg vl q) : Reads tg vl n q (i + 1) := .inl ⟨h, by omega, by omega⟩
theorem reads_next {tg vl : Nat → List UInt8} {n q : Nat} (h : q < n) : Reads tg vl n (q + 1) (fin tg vl q + 1) := by
  by_cases h1 : q + 1 < n
  · refine .inl ⟨h1, Nat.le_of_eq (pos_succ tg vl q), ?_⟩
    have := fin_eq tg vl (q + 1)
    rw [pos_succ] at this
    omega
  · have : n = q + 1 := by omega
    subst this
    exact .inr ⟨rfl, rfl⟩

set_option maxHeartbeats 1000000 in
/-- 'parsesTo' at the text of a valid address: one element at least. -/
theorem parses_some (s : ByteArray) (a : Option Addr) (n c : Nat) (tg vl : Nat → ByteArray) (w : World) (h : ElemsIn w a n tg vl) (hs : bytesOf s = txt (fun i => bytesOf (tg i)) (fun i => bytesOf (vl i)) n) (hf : Form n tg vl)
    (hsm : Small n tg vl) (hn : 0 < n) (hsz : s.size ≤ 1073741824) (hn2 : n ≤ 1048576) :
    Calls Try.prog 11 #[.string s, .slice a n c] w fun e w' => e = .returned (.bool true) ∧ Below w.heap.size w w' := by
  have hb0 := bodyTo_pos (fun i => bytesOf (tg i)) (fun i => bytesOf (vl i)) hn
  obtain ⟨u, hu⟩ : ∃ u, s.extract 1 (s.size - 1) = u := ⟨_, rfl⟩
  have HU : Hid (bytesOf u = bodyTo (fun i => bytesOf (tg i)) (fun i => bytesOf (vl i)) n) := by unfold Hid; rw [← hu]; exact inner_bytes hs
  have husz : u.size = s.size - 2 := by rw [← hu]; simp; omega
  have hz3 : 3 ≤ s.size := by rw [← bytesOf_length, hs]; simp only [txt, List.length_cons, List.length_append, List.length_nil]; omega
  have e0 : (s[0]'(by omega)).toNat = 40 := byte_first hs
  have e1 : (s[s.size - 1]'(by omega)).toNat = 41 := byte_last hs
  have u1 : u.size + 2 ≤ s.size := by omega
  have u2 : s.size ≤ u.size + 2 := by omega
  clear husz
  have hul0 : u.size = (bodyTo (fun i => bytesOf (tg i)) (fun i => bytesOf (vl i)) n).length := by rw [← bytesOf_length, HU.out]
  have hu0 : ((u.size : Int) == 0) = false := beq_eq_false_iff_ne.2 (by omega)
  clear hul0
  have hd2 : decide ((s.size : Int) < 2) = false := decide_eq_false (by omega)
  go_enter Try.func11, Try.ntmps11
  have hul : u.size = (bodyTo (fun i => bytesOf (tg i)) (fun i => bytesOf (vl i)) n).length := by rw [← bytesOf_length, HU.out]
  have HUL : Hid (u.size = (bodyTo (fun i => bytesOf (tg i)) (fun i => bytesOf (vl i)) n).length) := hul
  clear hul
  go_wp2_with fail
  clear hu
  go_loopw [7, 8, 9] (fun cc st ii wr => ∃ q i : Nat, cc = .int .i64 q ∧ st = .int .i64 (pos (fun i => bytesOf (tg i)) (fun i => bytesOf (vl i)) q) ∧ ii = .int .i64 i ∧ Reads (fun i => bytesOf (tg i)) (fun i => bytesOf (vl i)) n q i ∧ Below w.heap.size w wr) (fun _ _ ii _ => u.size + 2 - (intOf ii).toNat)
  case atStart => exact ⟨0, 0, rfl, rfl, rfl, reads_start hn, Below.refl _ _⟩
  case round =>
    obtain ⟨q, i, rfl, rfl, rfl, hR, hbr⟩ := hrel
    rcases hR with ⟨hq, hi1, hi2⟩ | ⟨hq, hi⟩
    · have hfl := fin_le (fun i => bytesOf (tg i)) (fun i => bytesOf (vl i)) hq
      have hfu : fin (fun i => bytesOf (tg i)) (fun i => bytesOf (vl i)) q ≤ u.size := by rw [HUL.out]; exact hfl
      clear hfl
      by_cases hi3 : i < fin (fun i => bytesOf (tg i)) (fun i => bytesOf (vl i)) q
      · have hiu : i < u.size := by omega
        obtain ⟨x, hx, hmem⟩ := bodyTo_inside (fun i => bytesOf (tg i)) (fun i => bytesOf (vl i)) hq hi1 hi3
        have hne := piece_noblank (hf q hq).1 (hf q hq).2 x hmem
        have hxe : u[i]'hiu = x := byte_at HU.out hx
        have hb : (((u[i]'hiu).toNat : Int) == 32) = false := by
          rw [hxe]
          have : x.toNat ≠ 32 := fun h => hne (UInt8.toNat_inj.1 h)
          simp; omega
        have HR : Hid (Reads (fun i => bytesOf (tg i)) (fun i => bytesOf (vl i)) n q (i + 1)) := reads_on hq hi1 hi3
        clear hxe hx hmem hne
        go_wp2
        go_roundw
        case rel => exact ⟨q, i + 1, rfl, rfl, by go_num, HR.out, hbr⟩
        case measure => simp [intOf]; omega
      · obtain rfl : fin (fun i => bytesOf (tg i)) (fun i => bytesOf (vl i)) q = i := by omega
        have HR : Hid (Reads (fun i => bytesOf (tg i)) (fun i => bytesOf (vl i)) n (q + 1) (fin (fun i => bytesOf (tg i)) (fun i => bytesOf (vl i)) q + 1)) := reads_next hq
        have HPS : Hid (pos (fun i => bytesOf (tg i)) (fun i => bytesOf (vl i)) (q + 1) = fin (fun i => bytesOf (tg i)) (fun i => bytesOf (vl i)) q + 1) := pos_succ _ _ q
        obtain ⟨pc, hpc⟩ : ∃ pc, u.extract (pos (fun i => bytesOf (tg i)) (fun i => bytesOf (vl i)) q) (fin (fun i => bytesOf (tg i)) (fun i => bytesOf (vl i)) q) = pc := ⟨_, rfl⟩
        have HPC : Hid (IsPiece pc (tg q) (vl q)) := by
          refine ⟨?_, (hf q hq).1⟩
          rw [← hpc, bytesOf_extract, HU.out]
          exact bodyTo_piece (fun i => bytesOf (tg i)) (fun i => bytesOf (vl i)) hq
        have htq : (tg q).size ≤ 1048576 := (hsm q hq).1
        obtain ⟨bb, oo, ha, hbb, g0, g1⟩ := (h.below hbr) q hq
        subst ha
        have hqi : (q : Int) < (n : Int) := by omega
        by_cases hl : q + 1 < n
        · have hlt : fin (fun i => bytesOf (tg i)) (fun i => bytesOf (vl i)) q < u.size := by
            have h1 := fin_le (fun i => bytesOf (tg i)) (fun i => bytesOf (vl i)) hl
            have h2 := fin_eq (fun i => bytesOf (tg i)) (fun i => bytesOf (vl i)) (q + 1)
            rw [pos_succ] at h2
            rw [HUL.out]
            omega
          have hb : (((u[fin (fun i => bytesOf (tg i)) (fun i => bytesOf (vl i)) q]'hlt).toNat : Int) == 32) = true := by
            rw [byte_at HU.out (bodyTo_blank (fun i => bytesOf (tg i)) (fun i => bytesOf (vl i)) hl)]
            rfl
          go_wp2_with fail
          go_region_held3 (fun w' => w'.cell? ⟨bb, oo + q * 2, none⟩ = some (.string (tg q)) ∧ w'.cell? ⟨bb, oo + q * 2 + 1, none⟩ = some (.string (vl q))) (first | (simp [go_sem, *]; done) | (simp [go_sem, *]; omega)) (first | (go_at_call 16; refine (pieceIs_any pc (tg q) (vl q) _ HPC.out htq).mono ?_; rintro e w6 ⟨rfl, hb6⟩; have s6 : w6.cell? ⟨bb, oo + q * 2, none⟩ = some (.string (tg q)) := (hb6.cell (by simpa using hbb)).trans (by simpa using g0); have t6 : w6.cell? ⟨bb, oo + q * 2 + 1, none⟩ = some (.string (vl q)) := (hb6.cell (by simpa using hbb)).trans (by simpa using g1)))
          go_wp2
          go_roundw
          case rel => exact ⟨q + 1, _, by go_num, by rw [HPS.out]; go_num, by go_num, HR.out, hbr.drew.trans (hb6.mono (by simpa using hbr.size))⟩
          case measure => simp [intOf]; omega
        · have hlu : u.size ≤ fin (fun i => bytesOf (tg i)) (fun i => bytesOf (vl i)) q := by
            have hnq : n = q + 1 := by omega
            rw [HUL.out, hnq]
            exact Nat.le_refl _
          have hfe : fin (fun i => bytesOf (tg i)) (fun i => bytesOf (vl i)) q = u.size := by omega
          rw [hfe] at HR HPS hpc hi1 ⊢
          clear hfe hfu hi2 hi3 hlu
          go_wp2_with fail
          go_region_held3 (fun w' => w'.cell? ⟨bb, oo + q * 2, none⟩ = some (.string (tg q)) ∧ w'.cell? ⟨bb, oo + q * 2 + 1, none⟩ = some (.string (vl q))) (first | (simp [go_sem, *]; done) | (simp [go_sem, *]; omega)) (first | (go_at_call 16; refine (pieceIs_any pc (tg q) (vl q) _ HPC.out htq).mono ?_; rintro e w6 ⟨rfl, hb6⟩; have s6 : w6.cell? ⟨bb, oo + q * 2, none⟩ = some (.string (tg q)) := (hb6.cell (by simpa using hbb)).trans (by simpa using g0); have t6 : w6.cell? ⟨bb, oo + q * 2 + 1, none⟩ = some (.string (vl q)) := (hb6.cell (by simpa using hbb)).trans (by simpa using g1)))
          go_wp2
          go_roundw
          case rel => exact ⟨q + 1, _, by go_num, by rw [HPS.out]; go_num, by go_num, HR.out, hbr.drew.trans (hb6.mono (by simpa using hbr.size))⟩
          case measure => simp [intOf]
    · subst hq
      have hiu : u.size + 1 ≤ i := by have := HUL.out; omega
      go_wp2
      go_ret
      exact ⟨rfl, hbr⟩

/-- The law's running total. -/
def totTo2 (tg vl : Nat → ByteArray) : Nat → Nat
  | 0 => 0
  | k + 1 => totTo2 tg vl k + (32 + (tg k).size + (vl k).size)
theorem totTo2_ge (tg vl : Nat → ByteArray) (k : Nat) : lenTo (fun i => bytesOf (tg i)) (fun i => bytesOf (vl i)) k + 31 * k = totTo2 tg vl k := by
  induction k with
  | zero => rfl
  | succ k ih => simp only [lenTo, totTo2, bytesOf_length]; omega
theorem form_step {k : Nat} {tg vl : Nat → ByteArray} (h : Form k tg vl) (h1 : ∀ x ∈ bytesOf (tg k), 65 ≤ x.toNat) (h2 : ∀ x ∈ bytesOf (vl k), 33 ≤ x.toNat) : Form (k + 1) tg vl := by
  intro i hi
  by_cases hik : i = k
  · subst hik; exact ⟨h1, h2⟩
  · exact h i (by omega)

set_option maxRecDepth 100000 in
set_option maxHeartbeats 2000000 in
theorem parse_in (a : Option Addr) (n c : Nat) (tg vl : Nat → ByteArray) (w : World) (h : ElemsIn w a n tg vl) :
    Calls Try.prog 4 #[.slice a n c] w fun e w' => e = .returned (.bool true) ∧ Below w.heap.size w w' := by
  go_enter Try.func4, Try.ntmps4
  go_wp2_with fail
  refine (bytes8_any a n c tg vl w h).mono ?_
  rintro e w' ⟨⟨b, rfl, hb⟩, hw⟩
  obtain rfl : w = w' := hw.symm
  clear hw
  cases b
  · go_wp2
    go_ret
    exact ⟨rfl, Below.refl _ _⟩
  obtain ⟨hn, hsm⟩ := hb rfl
  have HSM : Hid (Small n tg vl) := hsm
  clear hb hsm
  go_wp2_with fail
  go_loopw [3, 12] (fun z i wr => ∃ k : Nat, k ≤ n ∧ i = .int .i64 k ∧ z = .int .i64 (totTo2 tg vl k) ∧ totTo2 tg vl k ≤ 1048576 ∧ Below w.heap.size w wr) (fun _ i _ => n - (intOf i).toNat)
  case atStart => exact ⟨0, Nat.zero_le _, rfl, rfl, by simp [totTo2], Below.refl _ _⟩
  case round =>
    obtain ⟨k, hk, rfl, rfl, ht, hbr⟩ := hrel
    by_cases hlt : k < n
    · obtain ⟨bb, oo, ha, hbb, g0, g1⟩ := (h.below hbr) k hlt
      subst ha
      obtain ⟨z0, z1⟩ := HSM.out k hlt
      have hi1 : (k : Int) < (n : Int) := by omega
      have HT : Hid (totTo2 tg vl (k + 1) = totTo2 tg vl k + (32 + (tg k).size + (vl k).size)) := rfl
      go_wp2_with fail
      go_quiet (fail)
      go_wp2
      · go_ret
        exact ⟨rfl, below_drewN hbr _⟩
      · go_roundw
        case rel => exact ⟨k + 1, by omega, by go_num, by rw [HT.out]; go_num, by rw [HT.out]; omega, below_drewN hbr _⟩
        case measure => simp [intOf]; omega
    · have hkn : k = n := by omega
      subst hkn
      go_wp2_with fail
      go_loop [36] (fun i => ∃ l : Nat, l ≤ k ∧ i = .int .i64 l ∧ Form l tg vl) (fun i => k - (intOf i).toNat)
      case atStart => exact ⟨0, Nat.zero_le _, rfl, fun i hi => absurd hi (Nat.not_lt_zero _)⟩
      case round =>
        obtain ⟨l, hl, rfl, hF⟩ := hrel
        have HF : Hid (Form l tg vl) := hF
        clear hF
        by_cases hlk : l < k
        · obtain ⟨bb, oo, ha, hbb, g0, g1⟩ := (h.below hbr) l hlk
          subst ha
          go_wp2_with fail
          refine (validTag_any _ _).mono ?_
          rintro e w1 ⟨⟨b, rfl, hb⟩, hw⟩
          obtain rfl : wr = w1 := hw.symm
          clear hw
          cases b
          · go_wp2
            go_ret
            exact ⟨rfl, hbr⟩
          have H1 : Hid (∀ x ∈ bytesOf (tg l), 65 ≤ x.toNat) := hb rfl
          clear hb
          go_wp2_with fail
          refine (validValue_any _ _).mono ?_
          rintro e w1 ⟨⟨b, rfl, hb⟩, hw⟩
          obtain rfl : wr = w1 := hw.symm
          clear hw
          cases b
          · go_wp2
            go_ret
            exact ⟨rfl, hbr⟩
          have H2 : Hid (∀ x ∈ bytesOf (vl l), 33 ≤ x.toNat) := hb rfl
          clear hb
          go_wp2
          go_round
          case rel => exact ⟨l + 1, by omega, by go_num, form_step HF.out H1.out H2.out⟩
          case measure => simp [intOf]; omega
        · have hlk0 : l = k := by omega
          subst hlk0
          have htl := totTo2_ge tg vl l
          have hbl := bodyTo_length (fun i => bytesOf (tg i)) (fun i => bytesOf (vl i)) l
          have hb0 : (bodyTo (fun i => bytesOf (tg i)) (fun i => bytesOf (vl i)) l).length ≤ 1073741820 := by omega
          have L0 : Hid ((bodyTo (fun i => bytesOf (tg i)) (fun i => bytesOf (vl i)) l).length ≤ 1073741820) := hb0
          clear htl hbl hb0
          go_wp2_with fail
          refine (toAddress_any a l c tg vl _ (h.below hbr) hn).mono ?_
          rintro e w1 ⟨rfl, hC, hb1⟩
          have HC1 : Hid (Copied w1 wr.heap.size l l tg vl) := hC
          have HB1 : Hid (Below w.heap.size w w1) := hbr.trans (hb1.mono hbr.size)
          clear hC hb1
          go_wp2_with fail
          refine (string_any _ l l tg vl _ (by have := HC1.out.elems 0 l (by omega); simpa using this) (Nat.le_trans L0.out (by omega)) (by omega)).mono ?_
          rintro e w2 ⟨rfl, hb2⟩
          have HB2 : Hid (Below w.heap.size w w2) := HB1.out.trans (hb2.mono HB1.out.size)
          obtain ⟨s, hs⟩ : ∃ s : ByteArray, s = ⟨(txt (fun i => bytesOf (tg i)) (fun i => bytesOf (vl i)) l).toArray⟩ := ⟨_, rfl⟩
          rw [← hs]
          have HS : Hid (bytesOf s = txt (fun i => bytesOf (tg i)) (fun i => bytesOf (vl i)) l) := by rw [hs]; rfl
          have hsz : s.size ≤ 1073741824 := by
            rw [← bytesOf_length, HS.out]
            simp only [txt, List.length_cons, List.length_append, List.length_nil]
            have := L0.out
            omega
          clear hb2 HB1 HC1 hs L0
          go_wp2_with fail
          by_cases hl0 : 0 < l
          · refine (parses_some s a l c tg vl _ (h.below HB2.out) HS.out HF.out HSM.out hl0 hsz hn).mono ?_
            rintro e w3 ⟨rfl, hb3⟩
            go_wp2
            go_ret
            exact ⟨rfl, HB2.out.trans (hb3.mono HB2.out.size)⟩
          · have hlz : l = 0 := by omega
            subst hlz
            refine (parses_none s a c _ _ _ HS.out).mono ?_
            rintro e w3 ⟨rfl, hb3⟩
            go_wp2
            go_ret
            exact ⟨rfl, HB2.out.trans (hb3.mono HB2.out.size)⟩
end Go.Proofs.Qxb6630617a
