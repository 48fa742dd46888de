/-
  ROWS OF OCTETS IN MEMORY. Own work on this program.
-/
import Derived.Test.Qxb6626075aRows
import Derived.Test.Qxb6626075aBits
import Derived.WalkKit
import Derived.ProofKit
import Derived.Below
import Derived.WalkLawsBesides
import Derived.Laws.BitsAllLaws
import Derived.Laws.Rows
import Derived.ChangeKeysEq
import Derived.RegionTactic
import Derived.Deep.QuietTactic
namespace Go.Proofs.Qxb6626075a
open Go.RowKit

/-- n octets, as cells. -/
def F (n : Nat) (f : Nat → Nat) : Array Value := Array.ofFn (n := n) fun i => Value.int .u8 (f i : Int)
theorem F_size (n : Nat) (f : Nat → Nat) : (F n f).size = n := by simp [F]
theorem F_get {n : Nat} {f : Nat → Nat} {i : Nat} (h : i < n) : (F n f)[i]? = some (.int .u8 (f i : Int)) := by simp [F, h]
theorem F_congr {n : Nat} {f g : Nat → Nat} (h : ∀ i, i < n → f i = g i) : F n f = F n g := by
  apply Array.ext (by simp [F])
  intro i h1 h2
  have : i < n := by simpa [F] using h1
  simp [F, h i this]
theorem F_set {n : Nat} {f : Nat → Nat} {i : Nat} (v : Nat) : (F n f).setIfInBounds i (.int .u8 (v : Int)) = F n (fun j => if j = i then v else f j) := by
  apply Array.ext (by simp [F])
  intro j h1 h2
  have : j < n := by simpa [F] using h2
  by_cases h : i = j
  · subst h; simp [F]
  · have h' : ¬ j = i := fun e => h e.symm
    have h3 : j < (F n f).size := by simpa [F] using this
    rw [Array.getElem_setIfInBounds_ne h3 h]
    simp [F, h']
theorem F_one (n : Nat) (f : Nat → Nat) : (F n f).all (·.oneCell') = true := by
  rw [Array.all_eq_true]
  intro i h
  simp [F, Value.oneCell']

/-- The block of a number. -/
def A16 (N : Nat) : Array Value := F 16 (fun i => byteAt N (15 - i))
def A32 (N : Nat) : Array Value := F 32 (fun i => byteAt N (31 - i))

/-- The block at g holds n octets. -/
def Row (w : World) (g : Nat) (t : TypeId) (n : Nat) (f : Nat → Nat) : Prop := w.heap[g]? = some (.cells (F n f) t (0, 0))
theorem Row.cell {w : World} {g n : Nat} {t : TypeId} {f : Nat → Nat} (h : Row w g t n f) {i : Nat} (hi : i < n) : w.cell? ⟨g, i, none⟩ = some (.int .u8 (f i : Int)) := by
  rw [cell_of_row w g i _ t _ h, F_get hi]
theorem Row.frozen {w : World} {g n : Nat} {t : TypeId} {f : Nat → Nat} (h : Row w g t n f) (i : Nat) : w.frozen? ⟨g, i, none⟩ = false := frozen_of_row w g i _ t h
theorem Row.lt {w : World} {g n : Nat} {t : TypeId} {f : Nat → Nat} (h : Row w g t n f) : g < w.heap.size := (Array.getElem?_eq_some_iff.1 h).1
theorem Row.below {w w' : World} {B g n : Nat} {t : TypeId} {f : Nat → Nat} (h : Row w g t n f) (hb : Below B w w') (hg : g < B) : Row w' g t n f := (hb.block g hg).trans h
theorem Row.set {w : World} {g n : Nat} {t : TypeId} {f : Nat → Nat} (h : Row w g t n f) (i v : Nat) : Row (w.setCell ⟨g, i, none⟩ (.int .u8 (v : Int))) g t n (fun j => if j = i then v else f j) := by
  unfold Row
  rw [heap_setCell_same w g i _ t _ h]
  rw [F_set]
theorem Row.congr {w : World} {g n : Nat} {t : TypeId} {f f' : Nat → Nat} (h : Row w g t n f) (e : ∀ i, i < n → f i = f' i) : Row w g t n f' := by
  unfold Row at *
  rw [h, F_congr e]
theorem row_new (w : World) (t : TypeId) (n : Nat) (f : Nat → Nat) : Row (w.alloc (.cells (F n f) t)) w.heap.size t n f := heap_alloc_new w _
theorem Row.alloc {w : World} {g n : Nat} {t : TypeId} {f : Nat → Nat} (h : Row w g t n f) (o : Obj) : Row (w.alloc o) g t n f := by
  show (w.heap.push o)[g]? = _
  rw [Array.getElem?_push, if_neg (Nat.ne_of_lt h.lt)]
  exact h

theorem row_new1 (w : World) (o : Obj) (t : TypeId) (n : Nat) (f : Nat → Nat) : Row ((w.alloc o).alloc (.cells (F n f) t)) (w.heap.size + 1) t n f := by
  have := row_new (w.alloc o) t n f
  rwa [show (w.alloc o).heap.size = w.heap.size + 1 from by simp] at this
theorem row_old1 (w : World) (o : Obj) (t : TypeId) (n : Nat) (f : Nat → Nat) : Row ((w.alloc (.cells (F n f) t)).alloc o) w.heap.size t n f := (row_new w t n f).alloc o

theorem Try.info22 : (Try.prog.info? 22).map (·.size) = some 16 := by kernel_rfl
theorem Try.info28 : (Try.prog.info? 28).map (·.size) = some 32 := by kernel_rfl


theorem zero22 (w : World) : (zeroValue 22).run Try.prog w = .ok (.agg (F 16 fun _ => 0)) w := Try.zeroValue22 w
theorem zero28 (w : World) : (zeroValue 28).run Try.prog w = .ok (.agg (F 32 fun _ => 0)) w := Try.zeroValue28 w

/-- A whole block out of memory. -/
theorem load22 {ops : Array Oper} {rest : List Oper} {o : Oper} {a : Act} {w : World} {Q : Exit → Act → World → Prop} (hgd : o.guard = none) (x : Operand) (ho : o.op = .load 22 x)
    (g : Nat) (f : Nat → Nat) (hx : a.eval x = .pointer (some ⟨g, 0, none⟩)) (h : Row w g 22 16 f) (hK : wpList Try.prog ops Q rest (a.put o.dst (.agg (F 16 f))) w) : wpList Try.prog ops Q (o :: rest) a w :=
  wpList_load_row hgd 22 x ho g hx 22 (F 16 f) (0, 0) _ h Try.underlying22 rfl (by rw [F_size]; exact Try.info22) hK
/-- A whole block into memory. -/
theorem store22 {ops : Array Oper} {rest : List Oper} {o : Oper} {a : Act} {w : World} {Q : Exit → Act → World → Prop} (hgd : o.guard = none) (x y : Operand) (ho : o.op = .store 22 x y)
    (g : Nat) (f f' : Nat → Nat) (hx : a.eval x = .pointer (some ⟨g, 0, none⟩)) (hy : a.eval y = .agg (F 16 f')) (h : Row w g 22 16 f)
    (hK : ∀ w', Hid (Row w' g 22 16 f') → Hid (Below g w w') → w'.heap.size = w.heap.size → wpList Try.prog ops Q rest (a.put o.dst undef) w') : wpList Try.prog ops Q (o :: rest) a w :=
  wpList_store_row hgd 22 x y ho g (F 16 f') hx hy 22 (F 16 f) h (by rw [F_size]; exact Try.info22) (by rw [F_size, F_size]) (F_one _ _)
    (hK _ (show Row _ _ _ _ _ from setRow_heap w g _ _ 22 _ h) (show Below _ _ _ from ⟨rfl, rfl, rfl, by simp [World.setRow], fun k hk => setRow_other w g k _ (by omega)⟩) (by simp))
/-- A block as a function's result. -/
theorem result22 {fn : Func} {p : Tmp} (h : fn.results = #[.cell p 22]) (tmps : Array Value) (w : World) (g : Nat) (f : Nat → Nat) (hp : tmps.getD p undef = .pointer (some ⟨g, 0, none⟩)) (hr : Row w g 22 16 f) :
    (results fn tmps).run Try.prog w = .ok (.agg (F 16 f)) w :=
  results_cell_row h tmps w g 22 (F 16 f) (0, 0) _ hp hr Try.underlying22 rfl (by rw [F_size]; exact Try.info22)

attribute [local simp] F_set
theorem A16_get {N i : Nat} (h : i < 16) : (A16 N)[i]? = some (.int .u8 (byteAt N (15 - i) : Int)) := F_get h
theorem tdiv8 (q r : Nat) (hr : r < 8) : (((8 * q + r : Nat) : Int)).tdiv 8 = (q : Int) := by
  rw [Int.tdiv_eq_ediv_of_nonneg (by omega)]; omega
theorem tmod8 (q r : Nat) (hr : r < 8) : (((8 * q + r : Nat) : Int)).tmod 8 = (r : Int) := by
  rw [Int.tmod_eq_emod_of_nonneg (by omega)]; omega

set_option maxHeartbeats 1000000 in
theorem bit16' (N q r : Nat) (hq : q < 16) (hr : r < 8) (w : World) : Calls Try.prog 9 #[.agg (A16 N), .int .i64 ((8 * q + r : Nat) : Int)] w fun e w' => e = .returned (.int .u8 ((N.testBit (8 * q + r)).toNat : Int)) ∧ Below w.heap.size w w' := by
  obtain ⟨z, hz⟩ : ∃ z : Int, z = ((8 * q + r : Nat) : Int) := ⟨_, rfl⟩
  rw [← hz]
  have h1 : z.tdiv 8 = (q : Int) := by rw [hz]; exact tdiv8 q r hr
  have h2 : z.tmod 8 = (r : Int) := by rw [hz]; exact tmod8 q r hr
  have HZ : Hid (z = ((8 * q + r : Nat) : Int)) := hz
  clear hz
  have h3 : (A16 N)[15 - q]? = some (.int .u8 (byteAt N q : Int)) := by rw [A16_get (by omega), show 15 - (15 - q) = q from by omega]
  have h4 : min r 8 = r := by omega
  have h5 : bits .and .u8 ((byteAt N q : Int) / 2 ^ r) 1 = ((N.testBit (8 * q + r)).toNat : Int) := by
    have e : (byteAt N q : Int) / 2 ^ r = ((byteAt N q / 2 ^ r : Nat) : Int) := by simp
    have hb := one_bit N (8 * q + r)
    rw [show (8 * q + r) / 8 = q from by omega, show (8 * q + r) % 8 = r from by omega] at hb
    rw [e, show (1 : Int) = ((1 : Nat) : Int) from rfl, u8_and_nat _ _ (Nat.lt_of_le_of_lt (Nat.div_le_self _ _) (byteAt_lt N q)) (by decide), Nat.and_one_is_mod, hb]
  go_enter Try.func9, Try.ntmps9
  go_wp2
  go_ret
  exact ⟨rfl, (Below.refl _ _).alloc (Nat.le_refl _) _⟩

theorem bit16 (N i : Nat) (hi : i < 128) (w : World) : Calls Try.prog 9 #[.agg (A16 N), .int .i64 (i : Int)] w fun e w' => e = .returned (.int .u8 ((N.testBit i).toNat : Int)) ∧ Below w.heap.size w w' := by
  have h := bit16' N (i / 8) (i % 8) (by omega) (by omega) w
  rwa [show 8 * (i / 8) + i % 8 = i from by omega] at h

theorem pow_mod (r : Nat) (hr : r < 8) : (2 : Int) ^ r % 256 = ((2 ^ r : Nat) : Int) := by
  match r, hr with
  | 0, _ => rfl
  | 1, _ => rfl
  | 2, _ => rfl
  | 3, _ => rfl
  | 4, _ => rfl
  | 5, _ => rfl
  | 6, _ => rfl
  | 7, _ => rfl
theorem xor_pow (P q r : Nat) (hr : r < 8) : bits .xor .u8 (byteAt P q : Int) ((2 : Int) ^ r % 256) = ((byteAt P q ^^^ 2 ^ r : Nat) : Int) := by
  have hlt := pow8_lt r
  rw [Nat.mod_eq_of_lt hr] at hlt
  rw [pow_mod r hr]
  exact u8_xor_nat _ _ (byteAt_lt P q) hlt

set_option maxHeartbeats 1000000 in
theorem toggle32' (g P q r : Nat) (hq : q < 32) (hr : r < 8) (w : World) (h : Row w g 28 32 (fun i => byteAt P (31 - i))) :
    Calls Try.prog 10 #[.pointer (some ⟨g, 0, none⟩), .int .i64 ((8 * q + r : Nat) : Int)] w fun e w' => e = .returned (.tuple #[]) ∧ Row w' g 28 32 (fun i => byteAt (P ^^^ 2 ^ (8 * q + r)) (31 - i)) ∧ Below g w w' := by
  obtain ⟨z, hz⟩ : ∃ z : Int, z = ((8 * q + r : Nat) : Int) := ⟨_, rfl⟩
  rw [← hz]
  have h1 : z.tdiv 8 = (q : Int) := by rw [hz]; exact tdiv8 q r hr
  have h2 : z.tmod 8 = (r : Int) := by rw [hz]; exact tmod8 q r hr
  clear hz
  have h3 : w.cell? ⟨g, 31 - q, none⟩ = some (.int .u8 (byteAt P q : Int)) := by rw [h.cell (by omega), show 31 - (31 - q) = q from by omega]
  have h6 := h.frozen (31 - q)
  have h4 : min r 8 = r := by omega
  have HR : Hid (Row w g 28 32 (fun i => byteAt P (31 - i))) := h
  clear h
  have h8 := xor_pow P q r hr
  go_enter Try.func10, Try.ntmps10
  go_region
  all_goals
    go_end0
    refine ⟨rfl, ?_, ((Below.refl g w).setCell (p := ⟨g, 31 - q, none⟩) (Nat.le_refl _) _).drew⟩
    refine (HR.out.set (31 - q) (byteAt P q ^^^ 2 ^ r)).congr (fun i hi => ?_)
    rw [byteAt_toggle, show (8 * q + r) / 8 = q from by omega, show (8 * q + r) % 8 = r from by omega]
    by_cases hiq : i = 31 - q
    · rw [if_pos hiq, if_pos (by omega), show 31 - i = q from by omega]
    · rw [if_neg hiq, if_neg (by omega)]

theorem toggle32 (g P t : Nat) (ht : t < 256) (w : World) (h : Row w g 28 32 (fun i => byteAt P (31 - i))) :
    Calls Try.prog 10 #[.pointer (some ⟨g, 0, none⟩), .int .i64 (t : Int)] w fun e w' => e = .returned (.tuple #[]) ∧ Row w' g 28 32 (fun i => byteAt (P ^^^ 2 ^ t) (31 - i)) ∧ Below g w w' := by
  have h' := toggle32' g P (t / 8) (t % 8) (by omega) (by omega) w h
  rwa [show 8 * (t / 8) + t % 8 = t from by omega] at h'

set_option maxHeartbeats 1000000 in
theorem monomial' (q r : Nat) (hq : q < 16) (hr : r < 8) (w : World) :
    Calls Try.prog 7 #[.int .i64 ((8 * q + r : Nat) : Int)] w fun e w' => e = .returned (.agg (A16 (2 ^ (8 * q + r)))) ∧ Below w.heap.size w w' := by
  obtain ⟨z, hz⟩ : ∃ z : Int, z = ((8 * q + r : Nat) : Int) := ⟨_, rfl⟩
  rw [← hz]
  have h1 : z.tdiv 8 = (q : Int) := by rw [hz]; exact tdiv8 q r hr
  have h2 : z.tmod 8 = (r : Int) := by rw [hz]; exact tmod8 q r hr
  clear hz
  have h4 : min r 8 = r := by omega
  obtain ⟨v, hv⟩ : ∃ v : Nat, v = 2 ^ r := ⟨_, rfl⟩
  have h7 : (2 : Int) ^ r % 256 = (v : Int) := by rw [hv]; exact pow_mod r hr
  have HV : Hid (v = 2 ^ r) := hv
  clear hv
  have hz22 := zero22
  have h9 : (F 16 fun _ => 0)[15 - q]? = some (.int .u8 0) := F_get (by omega)
  go_enter Try.func7, Try.ntmps7
  go_wp2_with (first | (refine load22 rfl _ rfl (w.heap.size + 1) _ rfl (row_new1 w _ _ _ _) ?_) | (refine store22 rfl _ _ rfl w.heap.size _ _ rfl rfl (row_old1 w _ _ _ _) ?_))
  intro w2 HR2 HB2 hs2
  go_wp2_with fail
  refine bodyPost_ret (v := .agg _) (result22 rfl _ _ w.heap.size _ rfl HR2.out) rfl ⟨?_, ?_⟩
  · congr 2
    refine F_congr fun i hi => ?_
    rw [byteAt_pow, show (8 * q + r) / 8 = q from by omega, show (8 * q + r) % 8 = r from by omega, HV.out]
    by_cases hiq : i = 15 - q
    · rw [if_pos hiq, if_pos (by omega)]
    · rw [if_neg hiq, if_neg (by omega)]
  · exact (((Below.refl _ _).alloc (Nat.le_refl _) _).alloc (by simp) _).trans HB2.out

theorem monomial (k : Nat) (hk : k < 128) (w : World) : Calls Try.prog 7 #[.int .i64 (k : Int)] w fun e w' => e = .returned (.agg (A16 (2 ^ k))) ∧ Below w.heap.size w w' := by
  have h := monomial' (k / 8) (k % 8) (by omega) (by omega) w
  rwa [show 8 * (k / 8) + k % 8 = k from by omega] at h
end Go.Proofs.Qxb6626075a
