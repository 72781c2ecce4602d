/-
  'Rows.FnClockDeadlineExactAndShiftsWithHeardSaid' PROVED: the frame after the guide's shell.
-/
import Derived.Test.Qxb6613438aClock
import Derived.Test.Qxb6613438aRows
import Derived.WalkKit
import Derived.ProofKit
import Derived.OpenShut
import Derived.ShutString
import Derived.ChangeOld
import Derived.Below
namespace Go.Proofs.Qxb6613438a
open Go.ChangeShapes Go.WideShapes Go.ChangeAt Go.RowKit
set_option maxRecDepth 100000

namespace fnClockDeadlineExactAndShiftsWithHeard
theorem own : ownKnob Try.prog.godebug = none := by kernel_rfl

set_option maxHeartbeats 1000000 in
theorem walk (h k t : Int) (w : World) :
    Calls Try.prog 3 #[.int .i64 h, .int .i64 k, .int .i64 t] w fun e w' => e = .returned (.bool true) ∧ Below w.heap.size w w' := by
  by_cases xha : h < -4611686018427387904
  · go_enter Try.func3, Try.ntmps3
    go_wp2
    go_ret
    exact ⟨rfl, Below.refl _ _⟩
  have yha : decide (h < -4611686018427387904) = false := decide_eq_false xha
  by_cases xhb : 4611686018427387904 < h
  · go_enter Try.func3, Try.ntmps3
    go_wp2
    go_ret
    exact ⟨rfl, Below.refl _ _⟩
  have yhb : decide ((4611686018427387904 : Int) < h) = false := decide_eq_false xhb
  by_cases xka : k < -4611686018427387904
  · go_enter Try.func3, Try.ntmps3
    go_wp2
    go_ret
    exact ⟨rfl, Below.refl _ _⟩
  have yka : decide (k < -4611686018427387904) = false := decide_eq_false xka
  by_cases xkb : 4611686018427387904 < k
  · go_enter Try.func3, Try.ntmps3
    go_wp2
    go_ret
    exact ⟨rfl, Below.refl _ _⟩
  have ykb : decide ((4611686018427387904 : Int) < k) = false := decide_eq_false xkb
  by_cases xta : t < -281474976710656
  · go_enter Try.func3, Try.ntmps3
    go_wp2
    go_ret
    exact ⟨rfl, Below.refl _ _⟩
  have yta : decide (t < -281474976710656) = false := decide_eq_false xta
  by_cases xtb : 281474976710656 < t
  · go_enter Try.func3, Try.ntmps3
    go_wp2
    go_ret
    exact ⟨rfl, Below.refl _ _⟩
  have ytb : decide ((281474976710656 : Int) < t) = false := decide_eq_false xtb
  have bd := nine_bd (t := t) (by omega) (by omega)
  go_enter Try.func3, Try.ntmps3
  go_wp2_with fail
  refine (new_any h t (by omega) (by omega) (by omega) (by omega) _).mono ?_
  rintro e w1 ⟨rfl, hb1⟩
  go_wp2_with fail
  refine (new_any k t (by omega) (by omega) (by omega) (by omega) _).mono ?_
  rintro e w2 ⟨rfl, hb2⟩
  have hB : Below w.heap.size w w2 := hb1.trans (hb2.mono hb1.size)
  clear hb1 hb2
  go_wp2
  go_ret
  refine ⟨?_, hB⟩
  have e1 : k + (t * 9).tdiv 10 - (h + (t * 9).tdiv 10) = k - h := by omega
  simp [e1]

set_option maxRecDepth 100000 in
theorem lifted (os : Os) (started : os.Started) (H : Type) (enc : TypeId × Value → H) :
    ReturnsInHanded {} Try.checked os 3 .any (Rows.fnClockDeadlineExactAndShiftsWithHeardSpec.pre6 enc Try.prog Try.f3 Rows.fnClockDeadlineExactAndShiftsWithHeardRow.domain false) (Rows.fnClockDeadlineExactAndShiftsWithHeardSpec.post enc Try.prog Try.f3 false true false false) := by
  refine returnsInHanded_of_change (C := Try.checked) own started (by kernel_rfl) Try.func3
    (ChangeSpec.witness6 (enc := enc) (C := Try.checked) false ⟨#[], #[.int .i64 0, .int .i64 0, .int .i64 0], []⟩ 8 (by kernel_rfl) (by kernel_rfl) (by kernel_rfl) (by kernel_rfl)) ?_
  intro W base args ds gs before hval0 hW hcnd _
  have hval : ∀ (j : Nat) t v, Try.f3.params[j]? = some t → args[j]? = some v → Value.okWide Try.prog W .any base t v := hval0
  have hW' := hW
  obtain ⟨p, q, hA0, hV, rfl, hfz, hnd⟩ := hW
  have hA : DataW.TrodAll enc Try.prog W 0 (fun _ => true) true Try.f3.params.toList args.toList ds p := hA0
  rw [Try.params3] at hA hval
  obtain ⟨v0, vs0, d0, ds0, p0, q0, hargs, rfl, rfl, h0, r0⟩ := trodAll_cons hA
  obtain ⟨v1, vs1, d1, ds1, p1, q1, rfl, rfl, rfl, h1, r1⟩ := trodAll_cons r0
  obtain ⟨v2, vs2, d2, ds2, p2, q2, rfl, rfl, rfl, h2, r2⟩ := trodAll_cons r1
  obtain ⟨rfl, rfl, rfl⟩ := trodAll_nil r2
  obtain rfl : args = #[v0, v1, v2] := by cases args; simp_all
  obtain ⟨rfl, rfl⟩ := trodVars_none hV
  obtain ⟨a0, rfl, rfl, rfl, w0⟩ := open_int Try.underlying2 (hval 0 2 v0 rfl rfl) h0
  obtain ⟨a1, rfl, rfl, rfl, w1⟩ := open_int Try.underlying2 (hval 1 2 v1 rfl rfl) h1
  obtain ⟨a2, rfl, rfl, rfl, w2⟩ := open_int Try.underlying2 (hval 2 2 v2 rfl rfl) h2
  clear hA0 hval0
  refine (walk a0 a1 a2 W).mono fun e W' ⟨he, bel⟩ => ?_
  subst he
  exact ⟨_, rfl, _, _, _, [], _, [], hW', trodAll_mk1 (shut_bool Try.underlying4 _), (trodAll_cons_mk (shut_int Try.underlying2 w0) (trodAll_cons_mk (shut_int Try.underlying2 w1) (trodAll_cons_mk (shut_int Try.underlying2 w2) trodAll_mk0))), rfl, bel.frame _, fun h => by cases h⟩

theorem over : Rows.fnClockDeadlineExactAndShiftsWithHeardRow.holds Try.pinned (OpenSpec.ofChange Rows.fnClockDeadlineExactAndShiftsWithHeardSpec) :=
  OpenClaim.holds_of_wide 3 Try.f3 rfl rfl rfl rfl rfl rfl rfl ⟨rfl, rfl, rfl, rfl, rfl⟩ rfl rfl rfl rfl rfl (by kernel_rfl) Try.func3 (by kernel_rfl)
    (of_decide_eq_true (by kernel_rfl)) (by unfold Func.isWrapper; first | (rw [if_pos (by decide +kernel)]; kernel_rfl) | (rw [if_neg (by decide +kernel)]; exact ⟨rfl, rfl⟩))
    (fun os started H enc _ => lifted os started H enc)

theorem proved : Rows.FnClockDeadlineExactAndShiftsWithHeardSaid := over
end fnClockDeadlineExactAndShiftsWithHeard
end Go.Proofs.Qxb6613438a
