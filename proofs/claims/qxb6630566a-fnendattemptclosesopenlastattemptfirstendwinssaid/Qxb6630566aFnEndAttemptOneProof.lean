/-
  'Rows.FnEndAttemptClosesOpenLastAttemptFirstEndWinsSaid': the row, out of the walks. The frame after the guide's own shell; own work on this program.
-/
import Derived.Test.Qxb6630566aEarly
import Derived.Test.Qxb6630566aOneff
import Derived.Test.Qxb6630566aOneft
import Derived.Test.Qxb6630566aOnetf
import Derived.Test.Qxb6630566aOnett
import Derived.ProofKit
import Derived.OpenShut
import Derived.ShutString
import Derived.ChangeOld
import Derived.Below
namespace Go.Proofs.Qxb6630566a.fnEndAttemptOne
open Go.ChangeShapes Go.WideShapes Go.ChangeAt Go.RowKit
open Go.ChangeMaps (open_string shut_string)
set_option linter.unusedVariables false

theorem own : ownKnob Try.prog.godebug = none := by kernel_rfl
theorem laidOut : laidOutB Try.prog = true := by kernel_rfl

theorem walk (a1 a2 : Option Addr) (n1 c1 n2 c2 : Nat) (ss : Nat → ByteArray) (ns : Nat → Int) (b1 b2 : Bool) (k1 t1 k2 t2 : Int) (e1 e2 : ByteArray) (w : World) (h1 : StrsIn w a1 n1 ss) (h2 : IntsIn w a2 n2 ns)
    (T1 : (Lit.int .i64 t1).wf = true) (T2 : (Lit.int .i64 t2).wf = true) :
    Calls Try.prog 3 #[.slice a1 n1 c1, .slice a2 n2 c2, .bool b1, .int .i64 k1, .string e1, .int .i64 t1, .bool b2, .int .i64 k2, .string e2, .int .i64 t2] w fun e w' => e = .returned (.bool true) ∧ Below w.heap.size w w' := by
  obtain ⟨u1, u2⟩ := bounds_i64 T1
  obtain ⟨u3, u4⟩ := bounds_i64 T2
  by_cases m1 : n1 ≤ 65536
  · by_cases m2 : n2 ≤ 65536
    · by_cases s1 : e1.size ≤ 1048576
      · by_cases s2 : e2.size ≤ 1048576
        · cases b1
          · cases b2
            · exact law1_false_false a1 a2 n1 c1 n2 c2 ss ns k1 t1 k2 t2 e1 e2 w h1 h2 u1 u2 u3 u4 m1 m2 s1 s2
            · exact law1_false_true a1 a2 n1 c1 n2 c2 ss ns k1 t1 k2 t2 e1 e2 w h1 h2 u1 u2 u3 u4 m1 m2 s1 s2
          · cases b2
            · exact law1_true_false a1 a2 n1 c1 n2 c2 ss ns k1 t1 k2 t2 e1 e2 w h1 h2 u1 u2 u3 u4 m1 m2 s1 s2
            · exact law1_true_true a1 a2 n1 c1 n2 c2 ss ns k1 t1 k2 t2 e1 e2 w h1 h2 u1 u2 u3 u4 m1 m2 s1 s2
        · exact law1_early a1 a2 n1 c1 n2 c2 ss b1 b2 k1 t1 k2 t2 e1 e2 w h1 (by omega)
      · exact law1_early a1 a2 n1 c1 n2 c2 ss b1 b2 k1 t1 k2 t2 e1 e2 w h1 (by omega)
    · exact law1_early a1 a2 n1 c1 n2 c2 ss b1 b2 k1 t1 k2 t2 e1 e2 w h1 (by omega)
  · exact law1_early a1 a2 n1 c1 n2 c2 ss b1 b2 k1 t1 k2 t2 e1 e2 w h1 (by omega)

set_option maxRecDepth 100000 in
theorem lifted (os : Os) (started : os.Started) (H : Type) (enc : TypeId × Value → H) :
    ReturnsInHanded {} Try.checked os 3 .any (Rows.fnEndAttemptClosesOpenLastAttemptFirstEndWinsSpec.pre6 enc Try.prog Try.f3 Rows.fnEndAttemptClosesOpenLastAttemptFirstEndWinsRow.domain false) (Rows.fnEndAttemptClosesOpenLastAttemptFirstEndWinsSpec.post enc Try.prog Try.f3 false true false false) := by
  refine returnsInHanded_of_change (C := Try.checked) own started (by kernel_rfl) Try.func3
    (ChangeSpec.witness6 (enc := enc) (C := Try.checked) false ⟨#[], #[.slice none 0 0, .slice none 0 0, .bool false, .int .i64 0, .string ⟨#[]⟩, .int .i64 0, .bool false, .int .i64 0, .string ⟨#[]⟩, .int .i64 0], []⟩ 8 (by kernel_rfl) (by kernel_rfl) (by kernel_rfl) (by kernel_rfl)) ?_
  intro W base args ds gs before hval0 hW hcnd _
  have hval : ∀ (j : Nat) t v, Try.f3.params[j]? = some t → args[j]? = some v → Value.okWide Try.prog W .any base t v := hval0
  have hW' := hW
  obtain ⟨p, q, hA0, hV, rfl, hfz, hnd⟩ := hW
  have hA : DataW.TrodAll enc Try.prog W 0 (fun _ => true) true Try.f3.params.toList args.toList ds p := hA0
  rw [Try.params3] at hA hval
  obtain ⟨v0, vs0, d0, ds0, p0, q0, hargs, rfl, rfl, h0, r0⟩ := trodAll_cons hA
  obtain ⟨v1, vs1, d1, ds1, p1, q1, rfl, rfl, rfl, h1, r1⟩ := trodAll_cons r0
  obtain ⟨v2, vs2, d2, ds2, p2, q2, rfl, rfl, rfl, h2, r2⟩ := trodAll_cons r1
  obtain ⟨v3, vs3, d3, ds3, p3, q3, rfl, rfl, rfl, h3, r3⟩ := trodAll_cons r2
  obtain ⟨v4, vs4, d4, ds4, p4, q4, rfl, rfl, rfl, h4, r4⟩ := trodAll_cons r3
  obtain ⟨v5, vs5, d5, ds5, p5, q5, rfl, rfl, rfl, h5, r5⟩ := trodAll_cons r4
  obtain ⟨v6, vs6, d6, ds6, p6, q6, rfl, rfl, rfl, h6, r6⟩ := trodAll_cons r5
  obtain ⟨v7, vs7, d7, ds7, p7, q7, rfl, rfl, rfl, h7, r7⟩ := trodAll_cons r6
  obtain ⟨v8, vs8, d8, ds8, p8, q8, rfl, rfl, rfl, h8, r8⟩ := trodAll_cons r7
  obtain ⟨v9, vs9, d9, ds9, p9, q9, rfl, rfl, rfl, h9, r9⟩ := trodAll_cons r8
  obtain ⟨rfl, rfl, rfl⟩ := trodAll_nil r9
  obtain rfl : args = #[v0, v1, v2, v3, v4, v5, v6, v7, v8, v9] := by cases args; simp_all
  obtain ⟨rfl, rfl⟩ := trodVars_none hV
  obtain ⟨a0, len0, cap0, rfl⟩ := okWide_slice Try.underlying22 (hval 0 22 v0 rfl rfl)
  have k0 := h0
  have lt0 : ∀ x ∈ p0, x.block < W.heap.size := by obtain ⟨m, hm⟩ := k0; exact DataW.trod_lt m _ _ _ hm
  obtain ⟨ss, w0⟩ : ∃ ss, StrsIn W a0 len0 ss := by
    obtain ⟨fuel, hf⟩ := h0
    rcases open_strings Try.underlying22 Try.underlying9 (by kernel_rfl) hf with ⟨hcs, _⟩ | ⟨x, l, c, zs, hcs, _, hl, hm, hz, _, hcell, hwz⟩
    · simp [Value.cells] at hcs
      obtain ⟨rfl, rfl, rfl⟩ := hcs
      exact ⟨fun _ => ByteArray.empty, fun i hi => absurd hi (Nat.not_lt_zero _)⟩
    · simp [Value.cells] at hcs
      obtain ⟨rfl, rfl, rfl⟩ := hcs
      refine ⟨fun i => zs.getD i ByteArray.empty, fun i hi => ?_⟩
      have hiz : i < zs.length := by rw [hz]; simp; omega
      have hc := hcell i hiz
      obtain ⟨b, o, spot⟩ := x
      have hspot : spot = none := by simpa [Addr.add] using World.cell?_spot (hcell 0 (by omega))
      subst hspot
      rw [add_plain] at hc
      exact ⟨b, o, rfl, World.block_lt_of_cell? _ _ hc, hc⟩
  obtain ⟨a1, len1, cap1, rfl⟩ := okWide_slice Try.underlying23 (hval 1 23 v1 rfl rfl)
  have k1 := h1
  have lt1 : ∀ x ∈ p1, x.block < W.heap.size := by obtain ⟨m, hm⟩ := k1; exact DataW.trod_lt m _ _ _ hm
  obtain ⟨ns, w1⟩ : ∃ ns, IntsIn W a1 len1 ns := by
    obtain ⟨fuel, hf⟩ := h1
    rcases open_ints Try.underlying23 Try.underlying2 (by kernel_rfl) hf with ⟨hcs, _⟩ | ⟨x, l, c, zs, hcs, _, hl, hm, hz, _, hcell, hwz⟩
    · simp [Value.cells] at hcs
      obtain ⟨rfl, rfl, rfl⟩ := hcs
      exact ⟨fun _ => 0, fun i hi => absurd hi (Nat.not_lt_zero _)⟩
    · simp [Value.cells] at hcs
      obtain ⟨rfl, rfl, rfl⟩ := hcs
      refine ⟨fun i => zs.getD i 0, fun i hi => ?_⟩
      have hiz : i < zs.length := by rw [hz]; simp; omega
      have hc := hcell i hiz
      obtain ⟨b, o, spot⟩ := x
      have hspot : spot = none := by simpa [Addr.add] using World.cell?_spot (hcell 0 (by omega))
      subst hspot
      rw [add_plain] at hc
      have hwi : -9223372036854775808 ≤ zs.getD i 0 ∧ zs.getD i 0 ≤ 9223372036854775807 := by simpa using range_i64 hwz i
      exact ⟨b, o, rfl, World.block_lt_of_cell? _ _ hc, hc, hwi.1, hwi.2⟩
  obtain ⟨b2, rfl, rfl, rfl⟩ := open_bool Try.underlying4 (hval 2 4 v2 rfl rfl) h2
  obtain ⟨x3, rfl, rfl, rfl, w3⟩ := open_int Try.underlying3 (hval 3 3 v3 rfl rfl) h3
  obtain ⟨s4, rfl, rfl, rfl, w4⟩ := open_string Try.underlying9 (hval 4 9 v4 rfl rfl) h4
  obtain ⟨x5, rfl, rfl, rfl, w5⟩ := open_int Try.underlying2 (hval 5 2 v5 rfl rfl) h5
  obtain ⟨b6, rfl, rfl, rfl⟩ := open_bool Try.underlying4 (hval 6 4 v6 rfl rfl) h6
  obtain ⟨x7, rfl, rfl, rfl, w7⟩ := open_int Try.underlying3 (hval 7 3 v7 rfl rfl) h7
  obtain ⟨s8, rfl, rfl, rfl, w8⟩ := open_string Try.underlying9 (hval 8 9 v8 rfl rfl) h8
  obtain ⟨x9, rfl, rfl, rfl, w9⟩ := open_int Try.underlying2 (hval 9 2 v9 rfl rfl) h9
  clear hA0 hval0
  refine (walk a0 a1 len0 cap0 len1 cap1 ss ns b2 b6 x3 x5 x7 x9 s4 s8 W w0 w1 w5 w9).mono fun e W' ⟨he, bel⟩ => ?_
  subst he
  exact ⟨_, rfl, _, _, _, [], _, [], hW', trodAll_mk1 (shut_bool Try.underlying4 _),
    (trodAll_cons_mk (Below.trod laidOut (by kernel_rfl) (of_decide_eq_true (by kernel_rfl)) k0 bel lt0) (trodAll_cons_mk (Below.trod laidOut (by kernel_rfl) (of_decide_eq_true (by kernel_rfl)) k1 bel lt1)
    (trodAll_cons_mk (shut_bool Try.underlying4 _) (trodAll_cons_mk (shut_int Try.underlying3 w3) (trodAll_cons_mk (shut_string Try.underlying9 w4) (trodAll_cons_mk (shut_int Try.underlying2 w5)
    (trodAll_cons_mk (shut_bool Try.underlying4 _) (trodAll_cons_mk (shut_int Try.underlying3 w7) (trodAll_cons_mk (shut_string Try.underlying9 w8) (trodAll_cons_mk (shut_int Try.underlying2 w9) trodAll_mk0)))))))))), rfl, bel.frame _, fun h => by cases h⟩

theorem over : Rows.fnEndAttemptClosesOpenLastAttemptFirstEndWinsRow.holds Try.pinned (OpenSpec.ofChange Rows.fnEndAttemptClosesOpenLastAttemptFirstEndWinsSpec) :=
  OpenClaim.holds_of_wide 3 Try.f3 rfl rfl rfl rfl rfl rfl rfl ⟨rfl, rfl, rfl, rfl, rfl⟩ rfl rfl rfl rfl rfl (by kernel_rfl) Try.func3 (by kernel_rfl)
    (of_decide_eq_true (by kernel_rfl)) (by unfold Func.isWrapper; first | (rw [if_pos (by decide +kernel)]; kernel_rfl) | (rw [if_neg (by decide +kernel)]; exact ⟨rfl, rfl⟩))
    (fun os started H enc _ => lifted os started H enc)

/-- THE STATEMENT -/
theorem proved : Rows.FnEndAttemptClosesOpenLastAttemptFirstEndWinsSaid := over
end Go.Proofs.Qxb6630566a.fnEndAttemptOne
