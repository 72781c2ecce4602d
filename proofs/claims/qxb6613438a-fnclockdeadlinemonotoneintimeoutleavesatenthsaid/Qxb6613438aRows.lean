/-
  No cell of these rows narrows 'for every input' (looked for: loops, veiled, ifaces, maps, wideKeys, modest, calm, conditions, laid).
  DERIVED. THE GIVEN ROWS OF THIS SEAT. 2 by the template 'for every input the law returns true; each argument reads behind the call as it read before'; 0 by the template 'total and deterministic' (their statements: Qxb6613438aTotals.lean).
  GIVEN WITH THE SEED: the statements are not yours to turn. If you find one false, say at which input.
  Laid BY PROGRAM, IN A SANDBOX (cutbox-rows.mjs): the forced cells as the released guide's own fill.sh prints them over the translation 12b0406d185d3163… (all of the seat's roots in one cut). By AI agents, Wed Nov 11 2026. No macro, syntax, notation, axiom, sorry.
-/
import Derived.Test.Qxb6613438aChecked
import GoSem.Claim
import GoSem.ClaimJoined
import GoSem.ClaimMapViews
import Derived.JoinedTies
import Derived.KernelRfl
namespace Go.Proofs.Qxb6613438a
/- THE CELL 'sum', in the pinned program and in every row, IS THE sha256 OF THE DUMP (.gsa) THAT Qxb6613438aProg.lean LOADS. Nothing in Lean hashes anything: it is a label: what it is worth is what the hold of that sum in a sandbox is worth. -/
noncomputable def Try.pinned : Pinned := { name := "qxb6613438a", sum := "12b0406d185d3163ab597baf45ccebf2fe1da4916fda8df4348da0a6104f9aee", checked := Try.checked }
namespace Rows
def none {H : Type} : Left H := { results := [], args := [] }

/-- 'zzlaws_root_b1.FnClockDeadlineExactAndShiftsWithHeard': WHATEVER THE INPUT: true; the input reads as it did. -/
def fnClockDeadlineExactAndShiftsWithHeardSpec : ChangeSpec := { name := "fnClockDeadlineExactAndShiftsWithHeard", fn := fun _ => fun
  | [d1, d2, d3] => { results := [.lit (.bool true)], args := [d1, d2, d3] }
  | _ => none }
def fnClockDeadlineExactAndShiftsWithHeardRow : OpenClaim := { program := "qxb6613438a", sum := "12b0406d185d3163ab597baf45ccebf2fe1da4916fda8df4348da0a6104f9aee", func := "example.com/fairlatch/fairlatch/zzlaws_root_b1.FnClockDeadlineExactAndShiftsWithHeard", spec := "fnClockDeadlineExactAndShiftsWithHeard", plainKeys := false, apart := false }
def FnClockDeadlineExactAndShiftsWithHeardSaid : Prop := fnClockDeadlineExactAndShiftsWithHeardRow.holds Try.pinned (OpenSpec.ofChange fnClockDeadlineExactAndShiftsWithHeardSpec)

/-- ITS FALSE NEIGHBOUR: 'it returns false'. Refute it at one input. -/
def fnClockDeadlineExactAndShiftsWithHeardWrong : ChangeSpec := { name := "fnClockDeadlineExactAndShiftsWithHeard", fn := fun _ => fun
  | [d1, d2, d3] => { results := [.lit (.bool false)], args := [d1, d2, d3] }
  | _ => none }
def FnClockDeadlineExactAndShiftsWithHeardWrongFalsely : Prop := fnClockDeadlineExactAndShiftsWithHeardRow.holds Try.pinned (OpenSpec.ofChange fnClockDeadlineExactAndShiftsWithHeardWrong)

/-- 'zzlaws_root_b1.FnClockDeadlineMonotoneInTimeoutLeavesATenth': WHATEVER THE INPUT: true; the input reads as it did. -/
def fnClockDeadlineMonotoneInTimeoutLeavesATenthSpec : ChangeSpec := { name := "fnClockDeadlineMonotoneInTimeoutLeavesATenth", fn := fun _ => fun
  | [d1, d2, d3] => { results := [.lit (.bool true)], args := [d1, d2, d3] }
  | _ => none }
def fnClockDeadlineMonotoneInTimeoutLeavesATenthRow : OpenClaim := { program := "qxb6613438a", sum := "12b0406d185d3163ab597baf45ccebf2fe1da4916fda8df4348da0a6104f9aee", func := "example.com/fairlatch/fairlatch/zzlaws_root_b1.FnClockDeadlineMonotoneInTimeoutLeavesATenth", spec := "fnClockDeadlineMonotoneInTimeoutLeavesATenth", plainKeys := false, apart := false }
def FnClockDeadlineMonotoneInTimeoutLeavesATenthSaid : Prop := fnClockDeadlineMonotoneInTimeoutLeavesATenthRow.holds Try.pinned (OpenSpec.ofChange fnClockDeadlineMonotoneInTimeoutLeavesATenthSpec)

/-- ITS FALSE NEIGHBOUR: 'it returns false'. Refute it at one input. -/
def fnClockDeadlineMonotoneInTimeoutLeavesATenthWrong : ChangeSpec := { name := "fnClockDeadlineMonotoneInTimeoutLeavesATenth", fn := fun _ => fun
  | [d1, d2, d3] => { results := [.lit (.bool false)], args := [d1, d2, d3] }
  | _ => none }
def FnClockDeadlineMonotoneInTimeoutLeavesATenthWrongFalsely : Prop := fnClockDeadlineMonotoneInTimeoutLeavesATenthRow.holds Try.pinned (OpenSpec.ofChange fnClockDeadlineMonotoneInTimeoutLeavesATenthWrong)

end Rows
end Go.Proofs.Qxb6613438a
