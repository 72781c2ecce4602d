/-
  No cell of these rows narrows 'for every input' (looked for: loops, veiled, ifaces, maps, wideKeys, modest, calm, conditions, laid).
  DERIVED. THE GIVEN ROWS OF THIS SEAT. 2 by the template 'for every input the law returns true; each argument reads behind the call as it read before'; 0 by the template 'total and deterministic' (their statements: Qxb6613261aTotals.lean).
  GIVEN WITH THE SEED: the statements are not yours to turn. If you find one false, say at which input.
  Laid BY PROGRAM, IN A SANDBOX (cutbox-rows.mjs): the forced cells as the released guide's own fill.sh prints them over the translation 237c8aa604f9b733… (all of the seat's roots in one cut). By AI agents, Wed Nov 11 2026. No macro, syntax, notation, axiom, sorry.
-/
import Derived.Test.Qxb6613261aChecked
import GoSem.Claim
import GoSem.ClaimJoined
import GoSem.ClaimMapViews
import Derived.JoinedTies
import Derived.KernelRfl
namespace Go.Proofs.Qxb6613261a
/- THE CELL 'sum', in the pinned program and in every row, IS THE sha256 OF THE DUMP (.gsa) THAT Qxb6613261aProg.lean LOADS. Nothing in Lean hashes anything: it is a label: what it is worth is what the hold of that sum in a sandbox is worth. -/
noncomputable def Try.pinned : Pinned := { name := "qxb6613261a", sum := "237c8aa604f9b733b4ba98f2797f4dc6be7d66d95c32bec80b9f34c228e7cd83", checked := Try.checked }
namespace Rows
def none {H : Type} : Left H := { results := [], args := [] }

/-- 'zzlaws_pkg_resolver_b1.FnAnswersSOAOfZoneAnywhere': WHATEVER THE INPUT: true; the input reads as it did. -/
def fnAnswersSOAOfZoneAnywhereSpec : ChangeSpec := { name := "fnAnswersSOAOfZoneAnywhere", fn := fun _ => fun
  | [d1, d2, d3, d4, d5, d6, d7] => { results := [.lit (.bool true)], args := [d1, d2, d3, d4, d5, d6, d7] }
  | _ => none }
def fnAnswersSOAOfZoneAnywhereRow : OpenClaim := { program := "qxb6613261a", sum := "237c8aa604f9b733b4ba98f2797f4dc6be7d66d95c32bec80b9f34c228e7cd83", func := "example.com/anchorwise/anchorwise/zzlaws_pkg_resolver_b1.FnAnswersSOAOfZoneAnywhere", spec := "fnAnswersSOAOfZoneAnywhere", apart := false }
def FnAnswersSOAOfZoneAnywhereSaid : Prop := fnAnswersSOAOfZoneAnywhereRow.holds Try.pinned (OpenSpec.ofChange fnAnswersSOAOfZoneAnywhereSpec)

/-- ITS FALSE NEIGHBOUR: 'it returns false'. Refute it at one input. -/
def fnAnswersSOAOfZoneAnywhereWrong : ChangeSpec := { name := "fnAnswersSOAOfZoneAnywhere", fn := fun _ => fun
  | [d1, d2, d3, d4, d5, d6, d7] => { results := [.lit (.bool false)], args := [d1, d2, d3, d4, d5, d6, d7] }
  | _ => none }
def FnAnswersSOAOfZoneAnywhereWrongFalsely : Prop := fnAnswersSOAOfZoneAnywhereRow.holds Try.pinned (OpenSpec.ofChange fnAnswersSOAOfZoneAnywhereWrong)

/-- 'zzlaws_pkg_resolver_b1.FnAnswersMatchesLabelModel': WHATEVER THE INPUT: true; the input reads as it did. -/
def fnAnswersMatchesLabelModelSpec : ChangeSpec := { name := "fnAnswersMatchesLabelModel", fn := fun _ => fun
  | [d1, d2, d3, d4, d5, d6] => { results := [.lit (.bool true)], args := [d1, d2, d3, d4, d5, d6] }
  | _ => none }
def fnAnswersMatchesLabelModelRow : OpenClaim := { program := "qxb6613261a", sum := "237c8aa604f9b733b4ba98f2797f4dc6be7d66d95c32bec80b9f34c228e7cd83", func := "example.com/anchorwise/anchorwise/zzlaws_pkg_resolver_b1.FnAnswersMatchesLabelModel", spec := "fnAnswersMatchesLabelModel", apart := false }
def FnAnswersMatchesLabelModelSaid : Prop := fnAnswersMatchesLabelModelRow.holds Try.pinned (OpenSpec.ofChange fnAnswersMatchesLabelModelSpec)

/-- ITS FALSE NEIGHBOUR: 'it returns false'. Refute it at one input. -/
def fnAnswersMatchesLabelModelWrong : ChangeSpec := { name := "fnAnswersMatchesLabelModel", fn := fun _ => fun
  | [d1, d2, d3, d4, d5, d6] => { results := [.lit (.bool false)], args := [d1, d2, d3, d4, d5, d6] }
  | _ => none }
def FnAnswersMatchesLabelModelWrongFalsely : Prop := fnAnswersMatchesLabelModelRow.holds Try.pinned (OpenSpec.ofChange fnAnswersMatchesLabelModelWrong)

end Rows
end Go.Proofs.Qxb6613261a
