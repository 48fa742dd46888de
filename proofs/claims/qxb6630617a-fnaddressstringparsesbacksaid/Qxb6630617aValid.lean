/-
  THE SECOND LAW's CALLEES: isLetter (15), validTag (9), validValue (10), pieceIs (16). Own work on this program.
-/
import Derived.Test.Qxb6630617aWalks
import Derived.Test.Qxb6630617aParse
namespace Go.Proofs.Qxb6630617a
open Go.RowKit

/-- Some bool; if true, p. -/
def If (p : Prop) (e : Ending) : Prop := ∃ b : Bool, e = .returned (.bool b) ∧ (b = true → p)
theorem if_no (p : Prop) : If p (.returned (.bool false)) := ⟨false, rfl, fun h => by cases h⟩
theorem if_yes {p : Prop} (h : p) : If p (.returned (.bool true)) := ⟨true, rfl, fun _ => h⟩

/-- At least 'A'. -/
def Ge65 (c : Int) : Prop := 65 ≤ c

theorem letter_any (c : Int) (w : World) : Calls Try.prog 15 #[.int .u8 c] w fun e w' => If (Ge65 c) e ∧ w' = w := by
  by_cases h1 : 65 ≤ c
  · by_cases h2 : 97 ≤ c
    · by_cases h3 : c ≤ 122
      · go_enter Try.func15, Try.ntmps15
        go_wp2
        go_ret
        exact ⟨⟨_, rfl, fun _ => h1⟩, rfl⟩
      · go_enter Try.func15, Try.ntmps15
        go_wp2
        go_ret
        exact ⟨⟨_, rfl, fun _ => h1⟩, rfl⟩
    · by_cases h3 : c ≤ 90
      · go_enter Try.func15, Try.ntmps15
        go_wp2
        go_ret
        exact ⟨⟨_, rfl, fun _ => h1⟩, rfl⟩
      · go_enter Try.func15, Try.ntmps15
        go_wp2
        go_ret
        exact ⟨⟨_, rfl, fun _ => h1⟩, rfl⟩
  · have h2 : ¬ 97 ≤ c := by omega
    go_enter Try.func15, Try.ntmps15
    go_wp2
    go_ret
    exact ⟨if_no _, rfl⟩

/-- The first k bytes are at least lo. -/
def AtLeast (lo : Nat) (s : ByteArray) (k : Nat) : Prop := ∀ i (h : i < s.size), i < k → lo ≤ (s[i]'h).toNat
theorem atLeast_step {lo : Nat} {s : ByteArray} {k : Nat} (h : AtLeast lo s k) (hk : k < s.size) (h1 : lo ≤ (s[k]'hk).toNat) : AtLeast lo s (k + 1) := by
  intro i hi hik
  by_cases he : i = k
  · subst he; exact h1
  · exact h i hi (by omega)
theorem atLeast_all {lo : Nat} {s : ByteArray} (h : AtLeast lo s s.size) : ∀ x ∈ bytesOf s, lo ≤ x.toNat := by
  intro x hx
  obtain ⟨i, hi, rfl⟩ := List.mem_iff_getElem.1 hx
  rw [bytesOf_length] at hi
  exact h i hi hi

set_option maxHeartbeats 400000 in
theorem validTag_any (s : ByteArray) (w : World) : Calls Try.prog 9 #[.string s] w fun e w' => If (∀ x ∈ bytesOf s, 65 ≤ x.toNat) e ∧ w' = w := by
  by_cases hs : 1 ≤ s.size ∧ s.size ≤ 32
  · obtain ⟨hs1, hs2⟩ := hs
    go_enter Try.func9, Try.ntmps9
    go_wp2_with fail
    go_loop [3] (fun i => ∃ k : Nat, k ≤ s.size ∧ i = .int .i64 k ∧ AtLeast 65 s k) (fun i => s.size - (intOf i).toNat)
    case atStart => exact ⟨0, Nat.zero_le _, rfl, fun i _ hi => absurd hi (Nat.not_lt_zero _)⟩
    case round =>
      obtain ⟨k, hk, rfl, hA⟩ := hrel
      have HA : Hid (AtLeast 65 s k) := hA
      clear hA
      by_cases hlt : k < s.size
      · go_wp2_with fail
        refine (letter_any _ _).mono ?_
        rintro e w1 ⟨⟨b, rfl, hb⟩, hw⟩
        obtain rfl : w = w1 := hw.symm
        clear hw
        cases b
        · go_wp2
          go_ret
          exact ⟨if_no _, rfl⟩
        · have hb1 := hb rfl
          unfold Ge65 at hb1
          clear hb
          have HA2 : Hid (AtLeast 65 s (k + 1)) := atLeast_step HA.out hlt (by omega)
          clear hb1
          go_wp2
          go_round
          case rel => exact ⟨k + 1, by omega, by go_num, HA2.out⟩
          case measure => simp [intOf]; omega
      · have hkn : k = s.size := by omega
        subst hkn
        go_wp2
        go_ret
        exact ⟨if_yes (atLeast_all HA.out), rfl⟩
  · go_enter Try.func9, Try.ntmps9
    go_wp2_with fail
    all_goals (go_ret; exact ⟨if_no _, rfl⟩)

set_option maxHeartbeats 400000 in
theorem validValue_any (s : ByteArray) (w : World) : Calls Try.prog 10 #[.string s] w fun e w' => If (∀ x ∈ bytesOf s, 33 ≤ x.toNat) e ∧ w' = w := by
  by_cases hs : 1 ≤ s.size ∧ s.size ≤ 64
  · obtain ⟨hs1, hs2⟩ := hs
    go_enter Try.func10, Try.ntmps10
    go_wp2_with fail
    go_loop [3] (fun i => ∃ k : Nat, k ≤ s.size ∧ i = .int .i64 k ∧ AtLeast 33 s k) (fun i => s.size - (intOf i).toNat)
    case atStart => exact ⟨0, Nat.zero_le _, rfl, fun i _ hi => absurd hi (Nat.not_lt_zero _)⟩
    case round =>
      obtain ⟨k, hk, rfl, hA⟩ := hrel
      have HA : Hid (AtLeast 33 s k) := hA
      clear hA
      by_cases hlt : k < s.size
      · go_wp2
        · go_ret; exact ⟨if_no _, rfl⟩
        · have h33 : (33 : Int) ≤ ((s[k]'hlt).toNat : Int) := by assumption
          have HA2 : Hid (AtLeast 33 s (k + 1)) := atLeast_step HA.out hlt (by omega)
          go_round
          case rel => exact ⟨k + 1, by omega, by go_num, HA2.out⟩
          case measure => simp [intOf]; omega
        · go_ret; exact ⟨if_no _, rfl⟩
      · have hkn : k = s.size := by omega
        subst hkn
        go_wp2
        go_ret
        exact ⟨if_yes (atLeast_all HA.out), rfl⟩
  · go_enter Try.func10, Try.ntmps10
    go_wp2_with fail
    all_goals (go_ret; exact ⟨if_no _, rfl⟩)

/-- The string p is 't:v'. -/
def IsPiece (p t v : ByteArray) : Prop := bytesOf p = piece (bytesOf t) (bytesOf v) ∧ ∀ x ∈ bytesOf t, 65 ≤ x.toNat
theorem IsPiece.size {p t v : ByteArray} (h : IsPiece p t v) : p.size = t.size + 1 + v.size := by
  have := congrArg List.length h.1
  simp only [piece, List.length_append, List.length_cons, bytesOf_length] at this
  omega
theorem IsPiece.before {p t v : ByteArray} (h : IsPiece p t v) {k : Nat} (hk : k < t.size) {hp : k < p.size} : 65 ≤ (p[k]'hp).toNat := by
  have e : p[k]'hp = (bytesOf p)[k]'(by rw [bytesOf_length]; exact hp) := rfl
  rw [e]
  simp only [h.1, piece]
  rw [List.getElem_append_left (by rw [bytesOf_length]; exact hk)]
  exact h.2 _ (List.getElem_mem _)
theorem IsPiece.colon {p t v : ByteArray} (h : IsPiece p t v) {hp : t.size < p.size} : (p[t.size]'hp).toNat = 58 := by
  have e : p[t.size]'hp = (bytesOf p)[t.size]'(by rw [bytesOf_length]; exact hp) := rfl
  rw [e]
  simp only [h.1, piece]
  rw [List.getElem_append_right (by rw [bytesOf_length]; exact Nat.le_refl _)]
  simp [bytesOf_length]

theorem bytesOf_extract (s : ByteArray) (i j : Nat) : bytesOf (s.extract i j) = ((bytesOf s).take j).drop i := by
  unfold bytesOf
  rw [ByteArray.data_extract, Array.toList_extract, List.extract_eq_take_drop]
  simp [List.drop_take]
theorem bytes_eq {s t : ByteArray} (h : bytesOf s = bytesOf t) : s = t := by
  apply ByteArray.ext
  apply Array.ext'
  exact h
theorem run_head (s : ByteArray) (j : Nat) (h : j ≤ s.size) (w : World) : (Instr.slice 9 (.string s) none (some (.int .i64 (j : Int))) none).run Try.prog w = .ok (.string (s.extract 0 j)) w := by
  have hj : 0 ≤ (j : Int) ∧ (j : Int) ≤ (s.size : Int) := by omega
  simp [Instr.slice, Instr.sliceBounds, Instr.sliceBound, asIntOf, run_underlying Try.underlying9]
  intro hc
  omega
theorem run_tail (s : ByteArray) (j : Nat) (h : j ≤ s.size) (w : World) : (Instr.slice 9 (.string s) (some (.int .i64 (j : Int))) none none).run Try.prog w = .ok (.string (s.extract j s.size)) w := by
  simp [Instr.slice, Instr.sliceBounds, Instr.sliceBound, asIntOf, run_underlying Try.underlying9]
  intro hc
  omega
theorem IsPiece.tag {p t v : ByteArray} (h : IsPiece p t v) : p.extract 0 t.size = t := by
  apply bytes_eq
  rw [bytesOf_extract, h.1, piece, ← bytesOf_length, List.take_left, List.drop_zero]
theorem IsPiece.val {p t v : ByteArray} (h : IsPiece p t v) : p.extract (t.size + 1) p.size = v := by
  apply bytes_eq
  have hl : (t.size + 1) = (bytesOf t ++ [58]).length := by simp [bytesOf_length]
  have hp : bytesOf p = (bytesOf t ++ [58]) ++ bytesOf v := by rw [h.1, piece]; simp
  rw [bytesOf_extract, ← bytesOf_length p, List.take_length, hl, hp, List.drop_left]

set_option maxHeartbeats 1000000 in
/-- 'pieceIs' at the piece of a valid element. -/
theorem pieceIs_any (p t v : ByteArray) (w : World) (h : IsPiece p t v) (hsz : t.size ≤ 1048576) :
    Calls Try.prog 16 #[.string p, .agg #[.string t, .string v]] w fun e w' => e = .returned (.bool true) ∧ Below w.heap.size w w' := by
  have HP : Hid (IsPiece p t v) := h
  have hlt0 : t.size < p.size := by have := h.size; omega
  have r1 : ∀ w, (Instr.slice 9 (.string p) none (some (.int .i64 (t.size : Int))) none).run Try.prog w = .ok (.string t) w := fun w => by rw [run_head p t.size (by omega) w, h.tag]
  have r2 : ∀ w, (Instr.slice 9 (.string p) (some (.int .i64 ((t.size : Int) + 1))) none none).run Try.prog w = .ok (.string v) w := fun w => by
    have := run_tail p (t.size + 1) (by omega) w
    rw [h.val] at this
    exact this
  clear h
  go_enter Try.func16, Try.ntmps16
  go_wp2_with fail
  go_loopw [6] (fun i wr => ∃ k : Nat, k ≤ t.size ∧ i = .int .i64 k ∧ wr = w.alloc (.cells #[.string t, .string v] 25)) (fun i _ => t.size + 1 - (intOf i).toNat)
  case atStart => exact ⟨0, Nat.zero_le _, rfl, rfl⟩
  case round =>
    obtain ⟨k, hk, rfl, rfl⟩ := hrel
    by_cases hlt : k < t.size
    · have hkp : k < p.size := by omega
      have hb : ((p[k]'hkp).toNat == 58) = false := by have := HP.out.before hlt (hp := hkp); simp; omega
      go_wp2
      go_roundw
      case rel => exact ⟨k + 1, by omega, by go_num, trivial⟩
      case measure => simp [intOf]; omega
    · have hkn : k = t.size := by omega
      subst hkn
      have hb : (p[t.size]'hlt0).toNat = 58 := HP.out.colon
      go_wp2_with fail
      go_quiet (fail)
      go_wp2
      go_ret
      exact ⟨rfl, below_drewN ((Below.refl _ _).alloc (Nat.le_refl _) _) _⟩

theorem byte_first {s : ByteArray} {tg vl : Nat → List UInt8} {n : Nat} (h : bytesOf s = txt tg vl n) {h0 : 0 < s.size} : (s[0]'h0).toNat = 40 := by
  have e : s[0]'h0 = (bytesOf s)[0]'(by rw [bytesOf_length]; exact h0) := rfl
  rw [e]
  simp only [h]
  rfl
theorem byte_last {s : ByteArray} {tg vl : Nat → List UInt8} {n : Nat} (h : bytesOf s = txt tg vl n) {h0 : s.size - 1 < s.size} : (s[s.size - 1]'h0).toNat = 41 := by
  have e : s[s.size - 1]'h0 = (bytesOf s)[s.size - 1]'(by rw [bytesOf_length]; exact h0) := rfl
  rw [e]
  have h' : bytesOf s = (40 :: bodyTo tg vl n) ++ [41] := h
  have hl : s.size - 1 = (40 :: bodyTo tg vl n).length := by rw [← bytesOf_length, h']; simp
  simp only [h', hl]
  rw [List.getElem_append_right (Nat.le_refl _)]
  simp
theorem inner_bytes {s : ByteArray} {tg vl : Nat → List UInt8} {n : Nat} (h : bytesOf s = txt tg vl n) : bytesOf (s.extract 1 (s.size - 1)) = bodyTo tg vl n := by
  have h' : bytesOf s = (40 :: bodyTo tg vl n) ++ [41] := h
  have hl : s.size - 1 = (40 :: bodyTo tg vl n).length := by rw [← bytesOf_length, h']; simp
  rw [bytesOf_extract, hl, h', List.take_left]
  rfl
theorem byte_at {s : ByteArray} {l : List UInt8} (h : bytesOf s = l) {i : Nat} {x : UInt8} (hx : l[i]? = some x) {h0 : i < s.size} : s[i]'h0 = x := by
  have e : s[i]'h0 = (bytesOf s)[i]'(by rw [bytesOf_length]; exact h0) := rfl
  rw [e]
  subst h
  rw [List.getElem?_eq_getElem (by rw [bytesOf_length]; exact h0)] at hx
  exact Option.some.inj hx

/-- Every element keeps the documented form (as far as the reading back needs it). -/
def Form (n : Nat) (tg vl : Nat → ByteArray) : Prop := ∀ i, i < n → (∀ x ∈ bytesOf (tg i), 65 ≤ x.toNat) ∧ (∀ x ∈ bytesOf (vl i), 33 ≤ x.toNat)
end Go.Proofs.Qxb6630617a
