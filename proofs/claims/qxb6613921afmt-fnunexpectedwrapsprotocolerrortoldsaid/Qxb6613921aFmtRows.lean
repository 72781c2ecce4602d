/-
  NARROWER THAN 'FOR EVERY INPUT', by the rows' own cells (each row's printed sentence says how): FnUnexpectedWrapsProtocolError: ifaces, laid.
  DERIVED. THE GIVEN ROWS OF THIS SEAT. 2 by the template 'for every input the law returns true; each argument reads behind the call as it read before'; 0 by the template 'total and deterministic' (their statements: Qxb6613921aFmtTotals.lean).
  GIVEN WITH THE SEED: the statements are not yours to turn. If you find one false, say at which input.
  Laid BY PROGRAM, IN A SANDBOX (cutbox-rows.mjs): the forced cells as the released guide's own fill.sh prints them over the translation 9876a4bf726160a1… (all of the seat's roots in one cut). By AI agents, Wed Nov 11 2026. No macro, syntax, notation, axiom, sorry.
-/
import Derived.Test.Qxb6613921aFmtChecked
import GoSem.Claim
import GoSem.ClaimJoined
import GoSem.ClaimMapViews
import Derived.JoinedTies
import Derived.KernelRfl
namespace Go.Proofs.Qxb6613921aFmt
/- THE CELL 'sum', in the pinned program and in every row, IS THE sha256 OF THE DUMP (.gsa) THAT Qxb6613921aFmtProg.lean LOADS. Nothing in Lean hashes anything: it is a label: what it is worth is what the hold of that sum in a sandbox is worth. -/
noncomputable def Tryf.pinned : Pinned := { name := "qxb6613921afmt", sum := "9876a4bf726160a14397554c5940181d754e4d843ce322360bc116e530da8377", checked := Tryf.checked }
namespace Rows
def none {H : Type} : Left H := { results := [], args := [] }

/- WHAT THE LISTED PACKAGE-LEVEL VARIABLES READ AS WHEN THE CALL BEGINS. Each datum BY PROGRAM (the guide's laid-datum.mjs) off the statement by which the dump's own 'gosem.cut.vars' lays the variable. In a bare row this is a premise. The card (Qxb6613921aFmtCards.lean) ties it to the program's text. -/
def laid_example_com_quorumtree_quorumtree_internal_quorum_errProtocol {H : Type} : DataW H := .iface "*errors.errorString" (.ptr (.agg [.lit (.string [112, 114, 111, 116, 111, 99, 111, 108, 32, 101, 114, 114, 111, 114, 32, 98, 101, 116, 119, 101, 101, 110, 32, 109, 101, 109, 98, 101, 114, 115])]))

/-- 'zzlaws_internal_quorum_b1.FnPacketTypeStringNamedTypesDistinctCapitalWords': WHATEVER THE INPUT: true; the input reads as it did. -/
def fnPacketTypeStringNamedTypesDistinctCapitalWordsSpec : ChangeSpec := { name := "fnPacketTypeStringNamedTypesDistinctCapitalWords", fn := fun _ => fun
  | [d1, d2] => { results := [.lit (.bool true)], args := [d1, d2] }
  | _ => none }
def fnPacketTypeStringNamedTypesDistinctCapitalWordsRow : OpenClaim := { program := "qxb6613921afmt", sum := "9876a4bf726160a14397554c5940181d754e4d843ce322360bc116e530da8377", func := "example.com/quorumtree/quorumtree/zzlaws_internal_quorum_b1.FnPacketTypeStringNamedTypesDistinctCapitalWords", spec := "fnPacketTypeStringNamedTypesDistinctCapitalWords", stops := ["fmt.Sprintf", "fmt.errorf, its operands' methods called"], inPlace := ["fmt.Sprintf"], apart := false }
/-- NO THEOREM (fmt's text is open here; it may be false): for the released tool's asking of the row's closed facts alone. THE STATEMENT IS 'FnPacketTypeStringNamedTypesDistinctCapitalWordsToldSaid' (Qxb6613921aFmtCards.lean). -/
def FnPacketTypeStringNamedTypesDistinctCapitalWordsFormAsk : Prop := fnPacketTypeStringNamedTypesDistinctCapitalWordsRow.holds Tryf.pinned (OpenSpec.ofChange fnPacketTypeStringNamedTypesDistinctCapitalWordsSpec)

/-- ITS FALSE NEIGHBOUR: 'it returns false'. Refute it at one input. -/
def fnPacketTypeStringNamedTypesDistinctCapitalWordsWrong : ChangeSpec := { name := "fnPacketTypeStringNamedTypesDistinctCapitalWords", fn := fun _ => fun
  | [d1, d2] => { results := [.lit (.bool false)], args := [d1, d2] }
  | _ => none }
def FnPacketTypeStringNamedTypesDistinctCapitalWordsWrongFormAsk : Prop := fnPacketTypeStringNamedTypesDistinctCapitalWordsRow.holds Tryf.pinned (OpenSpec.ofChange fnPacketTypeStringNamedTypesDistinctCapitalWordsWrong)

/-- 'zzlaws_internal_quorum_b1.FnUnexpectedWrapsProtocolError': WHATEVER THE INPUT: true; the input reads as it did. -/
def fnUnexpectedWrapsProtocolErrorSpec : ChangeSpec := { name := "fnUnexpectedWrapsProtocolError", vars := ["example.com/quorumtree/quorumtree/internal/quorum.errProtocol"], fn := fun _ => fun
  | [d1, d2, d3, d4, d5, g1] => { results := [.lit (.bool true)], args := [d1, d2, d3, d4, d5], vars := [g1] }
  | _ => none }
def fnUnexpectedWrapsProtocolErrorRow : OpenClaim := { program := "qxb6613921afmt", sum := "9876a4bf726160a14397554c5940181d754e4d843ce322360bc116e530da8377", func := "example.com/quorumtree/quorumtree/zzlaws_internal_quorum_b1.FnUnexpectedWrapsProtocolError", spec := "fnUnexpectedWrapsProtocolError", stops := ["fmt.Sprintf", "fmt.errorf, its operands' methods called"], inPlace := ["fmt.errorf", "internal/reflectlite.TypeOf"], unfollowed := true, recurses := true, named := ["example.com/quorumtree/quorumtree/internal/quorum.errProtocol"], ifaces := true, apart := false, laid := [("example.com/quorumtree/quorumtree/internal/quorum.errProtocol", laid_example_com_quorumtree_quorumtree_internal_quorum_errProtocol)] }
/-- NO THEOREM (fmt's text is open here; it may be false): for the released tool's asking of the row's closed facts alone. THE STATEMENT IS 'FnUnexpectedWrapsProtocolErrorToldSaid' (Qxb6613921aFmtCards.lean). -/
def FnUnexpectedWrapsProtocolErrorFormAsk : Prop := fnUnexpectedWrapsProtocolErrorRow.holds Tryf.pinned (OpenSpec.ofChange fnUnexpectedWrapsProtocolErrorSpec)

/-- ITS FALSE NEIGHBOUR: 'it returns false'. Refute it at one input. -/
def fnUnexpectedWrapsProtocolErrorWrong : ChangeSpec := { name := "fnUnexpectedWrapsProtocolError", vars := ["example.com/quorumtree/quorumtree/internal/quorum.errProtocol"], fn := fun _ => fun
  | [d1, d2, d3, d4, d5, g1] => { results := [.lit (.bool false)], args := [d1, d2, d3, d4, d5], vars := [g1] }
  | _ => none }
def FnUnexpectedWrapsProtocolErrorWrongFormAsk : Prop := fnUnexpectedWrapsProtocolErrorRow.holds Tryf.pinned (OpenSpec.ofChange fnUnexpectedWrapsProtocolErrorWrong)

end Rows
end Go.Proofs.Qxb6613921aFmt
