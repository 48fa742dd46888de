/-
  'Rows.FnEndAttemptScriptClosesEachAttemptByTheEndRightAfterItSaid': the row, out of the walks. The frame after the guide's own shell; own work on this program.
-/
import Derived.Test.Qxb6630566aTwo
import Derived.Test.Qxb6630566aTwoEarly
import Derived.ProofKit
import Derived.OpenShut
import Derived.ShutString
import Derived.ChangeOld
import Derived.Below
import Derived.Deep.Grids
namespace Go.Proofs.Qxb6630566a.fnEndAttemptScript
open Go.ChangeShapes Go.WideShapes Go.ChangeAt Go.RowKit
open Go.ChangeMaps (open_string shut_string)
set_option linter.unusedVariables false

theorem own : ownKnob Try.prog.godebug = none := by kernel_rfl
theorem laidOut : laidOutB Try.prog = true := by kernel_rfl

theorem walk (a0 a1 a2 a3 : Option Addr) (n0 c0 n1 c1 n2 c2 n3 c3 : Nat) (op : Nat → Bool) (cs : Nat → Int) (ss : Nat → ByteArray) (ts : Nat → Int) (w : World)
    (h0 : BoolsIn w a0 n0 op) (h1 : NumsIn w a1 n1 cs) (h2 : StrsIn w a2 n2 ss) (h3 : NumsIn w a3 n3 ts) :
    Calls Try.prog 4 #[.slice a0 n0 c0, .slice a1 n1 c1, .slice a2 n2 c2, .slice a3 n3 c3] w fun e w' => e = .returned (.bool true) ∧ Below w.heap.size w w' := by
  by_cases m0 : n0 ≤ 65536
  · by_cases m1 : n1 ≤ 65536
    · by_cases m2 : n2 ≤ 65536
      · by_cases m3 : n3 ≤ 65536
        · exact law2_in a0 a1 a2 a3 n0 c0 n1 c1 n2 c2 n3 c3 op cs ss ts w h0 h1 h2 h3 m0 m1 m2 m3
        · exact law2_early a0 a1 a2 a3 n0 c0 n1 c1 n2 c2 n3 c3 ss w h2 (by omega)
      · exact law2_early a0 a1 a2 a3 n0 c0 n1 c1 n2 c2 n3 c3 ss w h2 (by omega)
    · exact law2_early a0 a1 a2 a3 n0 c0 n1 c1 n2 c2 n3 c3 ss w h2 (by omega)
  · exact law2_early a0 a1 a2 a3 n0 c0 n1 c1 n2 c2 n3 c3 ss w h2 (by omega)

/-- A slice of numbers, as the walk is told of it. -/
theorem nums_of {H : Type} {enc : TypeId × Value → H} {W : World} {t e : TypeId} {a : Option Addr} {len cap : Nat} {d : DataW H} {p : List MemPlace} (ht : Try.prog.underlying t = some (.slice e)) (he : Try.prog.underlying e = some (.int .i64)) (hc : Try.prog.cellsOf e = 1)
    (h : DataW.Trod enc Try.prog W 0 (fun _ => true) true t (.slice a len cap) d p) : ∃ ns, NumsIn W a len ns := by
  obtain ⟨fuel, hf⟩ := h
  rcases open_ints ht he hc hf with ⟨hcs, _⟩ | ⟨x, l, c, zs, hcs, _, hl, hm, hz, _, hcell, hwz⟩
  · simp [Value.cells] at hcs
    obtain ⟨rfl, rfl, rfl⟩ := hcs
    exact ⟨fun _ => 0, fun i hi => absurd hi (Nat.not_lt_zero _)⟩
  · simp [Value.cells] at hcs
    obtain ⟨rfl, rfl, rfl⟩ := hcs
    refine ⟨fun i => zs.getD i 0, fun i hi => ?_⟩
    have hiz : i < zs.length := by rw [hz]; simp; omega
    have hc := hcell i hiz
    obtain ⟨b, o, spot⟩ := x
    have hspot : spot = none := by simpa [Addr.add] using World.cell?_spot (hcell 0 (by omega))
    subst hspot
    rw [add_plain] at hc
    have hwi : -9223372036854775808 ≤ zs.getD i 0 ∧ zs.getD i 0 ≤ 9223372036854775807 := by simpa using range_i64 hwz i
    exact ⟨b, o, rfl, World.block_lt_of_cell? _ _ hc, hc, hwi.1, hwi.2⟩

set_option maxRecDepth 100000 in
theorem lifted (os : Os) (started : os.Started) (H : Type) (enc : TypeId × Value → H) :
    ReturnsInHanded {} Try.checked os 4 .any (Rows.fnEndAttemptScriptClosesEachAttemptByTheEndRightAfterItSpec.pre6 enc Try.prog Try.f4 Rows.fnEndAttemptScriptClosesEachAttemptByTheEndRightAfterItRow.domain false) (Rows.fnEndAttemptScriptClosesEachAttemptByTheEndRightAfterItSpec.post enc Try.prog Try.f4 false true false false) := by
  refine returnsInHanded_of_change (C := Try.checked) own started (by kernel_rfl) Try.func4
    (ChangeSpec.witness6 (enc := enc) (C := Try.checked) false ⟨#[], #[.slice none 0 0, .slice none 0 0, .slice none 0 0, .slice none 0 0], []⟩ 8 (by kernel_rfl) (by kernel_rfl) (by kernel_rfl) (by kernel_rfl)) ?_
  intro W base args ds gs before hval0 hW hcnd _
  have hval : ∀ (j : Nat) t v, Try.f4.params[j]? = some t → args[j]? = some v → Value.okWide Try.prog W .any base t v := hval0
  have hW' := hW
  obtain ⟨p, q, hA0, hV, rfl, hfz, hnd⟩ := hW
  have hA : DataW.TrodAll enc Try.prog W 0 (fun _ => true) true Try.f4.params.toList args.toList ds p := hA0
  rw [Try.params4] at hA hval
  obtain ⟨v0, vs0, d0, ds0, p0, q0, hargs, rfl, rfl, h0, r0⟩ := trodAll_cons hA
  obtain ⟨v1, vs1, d1, ds1, p1, q1, rfl, rfl, rfl, h1, r1⟩ := trodAll_cons r0
  obtain ⟨v2, vs2, d2, ds2, p2, q2, rfl, rfl, rfl, h2, r2⟩ := trodAll_cons r1
  obtain ⟨v3, vs3, d3, ds3, p3, q3, rfl, rfl, rfl, h3, r3⟩ := trodAll_cons r2
  obtain ⟨rfl, rfl, rfl⟩ := trodAll_nil r3
  obtain rfl : args = #[v0, v1, v2, v3] := by cases args; simp_all
  obtain ⟨rfl, rfl⟩ := trodVars_none hV
  obtain ⟨a0, len0, cap0, rfl⟩ := okWide_slice Try.underlying44 (hval 0 44 v0 rfl rfl)
  have k0 := h0
  have lt0 : ∀ x ∈ p0, x.block < W.heap.size := by obtain ⟨m, hm⟩ := k0; exact DataW.trod_lt m _ _ _ hm
  obtain ⟨op, w0⟩ : ∃ op, BoolsIn W a0 len0 op := by
    obtain ⟨fuel, hf⟩ := h0
    rcases Go.Deep.open_bools Try.underlying44 Try.underlying4 (by kernel_rfl) hf with ⟨hcs, _⟩ | ⟨x, l, c, B, hcs, _, hl, hm, _, hcell⟩
    · simp [Value.cells] at hcs
      obtain ⟨rfl, rfl, rfl⟩ := hcs
      exact ⟨fun _ => false, fun i hi => absurd hi (Nat.not_lt_zero _)⟩
    · simp [Value.cells] at hcs
      obtain ⟨rfl, rfl, rfl⟩ := hcs
      refine ⟨B, fun i hi => ?_⟩
      have hc := hcell i (by omega)
      obtain ⟨b, o, spot⟩ := x
      have hspot : spot = none := by simpa [Addr.add] using World.cell?_spot (hcell 0 (by omega))
      subst hspot
      rw [add_plain] at hc
      exact ⟨b, o, rfl, World.block_lt_of_cell? _ _ hc, hc⟩
  obtain ⟨a1, len1, cap1, rfl⟩ := okWide_slice Try.underlying45 (hval 1 45 v1 rfl rfl)
  have lt1 : ∀ x ∈ p1, x.block < W.heap.size := by obtain ⟨m, hm⟩ := h1; exact DataW.trod_lt m _ _ _ hm
  obtain ⟨cs, w1⟩ := nums_of Try.underlying45 Try.underlying3 (by kernel_rfl) h1
  obtain ⟨a2, len2, cap2, rfl⟩ := okWide_slice Try.underlying22 (hval 2 22 v2 rfl rfl)
  have k2 := h2
  have lt2 : ∀ x ∈ p2, x.block < W.heap.size := by obtain ⟨m, hm⟩ := k2; exact DataW.trod_lt m _ _ _ hm
  obtain ⟨ss, w2⟩ : ∃ ss, StrsIn W a2 len2 ss := by
    obtain ⟨fuel, hf⟩ := h2
    rcases open_strings Try.underlying22 Try.underlying9 (by kernel_rfl) hf with ⟨hcs, _⟩ | ⟨x, l, c, zs, hcs, _, hl, hm, hz, _, hcell, hwz⟩
    · simp [Value.cells] at hcs
      obtain ⟨rfl, rfl, rfl⟩ := hcs
      exact ⟨fun _ => ByteArray.empty, fun i hi => absurd hi (Nat.not_lt_zero _)⟩
    · simp [Value.cells] at hcs
      obtain ⟨rfl, rfl, rfl⟩ := hcs
      refine ⟨fun i => zs.getD i ByteArray.empty, fun i hi => ?_⟩
      have hiz : i < zs.length := by rw [hz]; simp; omega
      have hc := hcell i hiz
      obtain ⟨b, o, spot⟩ := x
      have hspot : spot = none := by simpa [Addr.add] using World.cell?_spot (hcell 0 (by omega))
      subst hspot
      rw [add_plain] at hc
      exact ⟨b, o, rfl, World.block_lt_of_cell? _ _ hc, hc⟩
  obtain ⟨a3, len3, cap3, rfl⟩ := okWide_slice Try.underlying23 (hval 3 23 v3 rfl rfl)
  have lt3 : ∀ x ∈ p3, x.block < W.heap.size := by obtain ⟨m, hm⟩ := h3; exact DataW.trod_lt m _ _ _ hm
  obtain ⟨ts, w3⟩ := nums_of Try.underlying23 Try.underlying2 (by kernel_rfl) h3
  clear hA0 hval0
  refine (walk a0 a1 a2 a3 len0 cap0 len1 cap1 len2 cap2 len3 cap3 op cs ss ts W w0 w1 w2 w3).mono fun e W' ⟨he, bel⟩ => ?_
  subst he
  exact ⟨_, rfl, _, _, _, [], _, [], hW', trodAll_mk1 (shut_bool Try.underlying4 _),
    (trodAll_cons_mk (Below.trod laidOut (by kernel_rfl) (of_decide_eq_true (by kernel_rfl)) k0 bel lt0) (trodAll_cons_mk (Below.trod laidOut (by kernel_rfl) (of_decide_eq_true (by kernel_rfl)) h1 bel lt1)
    (trodAll_cons_mk (Below.trod laidOut (by kernel_rfl) (of_decide_eq_true (by kernel_rfl)) k2 bel lt2) (trodAll_cons_mk (Below.trod laidOut (by kernel_rfl) (of_decide_eq_true (by kernel_rfl)) h3 bel lt3) trodAll_mk0)))), rfl, bel.frame _, fun h => by cases h⟩

theorem over : Rows.fnEndAttemptScriptClosesEachAttemptByTheEndRightAfterItRow.holds Try.pinned (OpenSpec.ofChange Rows.fnEndAttemptScriptClosesEachAttemptByTheEndRightAfterItSpec) :=
  OpenClaim.holds_of_wide 4 Try.f4 rfl rfl rfl rfl rfl rfl rfl ⟨rfl, rfl, rfl, rfl, rfl⟩ rfl rfl rfl rfl rfl (by kernel_rfl) Try.func4 (by kernel_rfl)
    (of_decide_eq_true (by kernel_rfl)) (by unfold Func.isWrapper; first | (rw [if_pos (by decide +kernel)]; kernel_rfl) | (rw [if_neg (by decide +kernel)]; exact ⟨rfl, rfl⟩))
    (fun os started H enc _ => lifted os started H enc)

/-- THE STATEMENT -/
theorem proved : Rows.FnEndAttemptScriptClosesEachAttemptByTheEndRightAfterItSaid := over
end Go.Proofs.Qxb6630566a.fnEndAttemptScript
