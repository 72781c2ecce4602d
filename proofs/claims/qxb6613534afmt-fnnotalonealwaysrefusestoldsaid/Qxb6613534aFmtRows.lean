/-
  No cell of these rows narrows 'for every input' (looked for: loops, veiled, ifaces, maps, wideKeys, modest, calm, conditions, laid).
  DERIVED. THE GIVEN ROWS OF THIS SEAT. 1 by the template 'for every input the law returns true; each argument reads behind the call as it read before'; 0 by the template 'total and deterministic' (their statements: Qxb6613534aFmtTotals.lean).
  GIVEN WITH THE SEED: the statements are not yours to turn. If you find one false, say at which input.
  Laid BY PROGRAM, IN A SANDBOX (cutbox-rows.mjs): the forced cells as the released guide's own fill.sh prints them over the translation 5c24f2edc5310912… (all of the seat's roots in one cut). By AI agents, Wed Nov 11 2026. No macro, syntax, notation, axiom, sorry.
-/
import Derived.Test.Qxb6613534aFmtChecked
import GoSem.Claim
import GoSem.ClaimJoined
import GoSem.ClaimMapViews
import Derived.JoinedTies
import Derived.KernelRfl
namespace Go.Proofs.Qxb6613534aFmt
/- THE CELL 'sum', in the pinned program and in every row, IS THE sha256 OF THE DUMP (.gsa) THAT Qxb6613534aFmtProg.lean LOADS. Nothing in Lean hashes anything: it is a label: what it is worth is what the hold of that sum in a sandbox is worth. -/
noncomputable def Tryf.pinned : Pinned := { name := "qxb6613534afmt", sum := "5c24f2edc5310912824480b15528ff2dab47eed827eababa5b2b4edb1a4eb95b", checked := Tryf.checked }
namespace Rows
def none {H : Type} : Left H := { results := [], args := [] }

/-- 'zzlaws_internal_engine_b1.FnNotAloneAlwaysRefuses': WHATEVER THE INPUT: true; the input reads as it did. -/
def fnNotAloneAlwaysRefusesSpec : ChangeSpec := { name := "fnNotAloneAlwaysRefuses", fn := fun _ => fun
  | [d] => { results := [.lit (.bool true)], args := [d] }
  | _ => none }
def fnNotAloneAlwaysRefusesRow : OpenClaim := { program := "qxb6613534afmt", sum := "5c24f2edc5310912824480b15528ff2dab47eed827eababa5b2b4edb1a4eb95b", func := "example.com/offshoot/offshoot/zzlaws_internal_engine_b1.FnNotAloneAlwaysRefuses", spec := "fnNotAloneAlwaysRefuses", stops := ["fmt.errorf"], inPlace := ["internal/abi.NoEscape", "internal/bytealg.MakeNoZero", "fmt.errorf"], apart := false }
/-- NO THEOREM (fmt's text is open here; it may be false): for the released tool's asking of the row's closed facts alone. THE STATEMENT IS 'FnNotAloneAlwaysRefusesToldSaid' (Qxb6613534aFmtCards.lean). -/
def FnNotAloneAlwaysRefusesFormAsk : Prop := fnNotAloneAlwaysRefusesRow.holds Tryf.pinned (OpenSpec.ofChange fnNotAloneAlwaysRefusesSpec)

/-- ITS FALSE NEIGHBOUR: 'it returns false'. Refute it at one input. -/
def fnNotAloneAlwaysRefusesWrong : ChangeSpec := { name := "fnNotAloneAlwaysRefuses", fn := fun _ => fun
  | [d] => { results := [.lit (.bool false)], args := [d] }
  | _ => none }
def FnNotAloneAlwaysRefusesWrongFormAsk : Prop := fnNotAloneAlwaysRefusesRow.holds Tryf.pinned (OpenSpec.ofChange fnNotAloneAlwaysRefusesWrong)

end Rows
end Go.Proofs.Qxb6613534aFmt
