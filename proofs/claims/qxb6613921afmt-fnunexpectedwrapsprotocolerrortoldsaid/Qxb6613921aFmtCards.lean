/-
  DERIVED. GIVEN WITH THE SEED: THE CARDS: each row of Qxb6613921aFmtRows.lean that lists a variable, with what it lists TIED to the program's text (the seventh form; the later family's looks); each row that meets fmt, with fmt's text TOLD by the authors' own Lean function (tested against real Go, not proved from fmt's source: count such statements apart). THE CARD IS WHAT COUNTS. Prove the row's statement (the work); the ties are given (Qxb6613921aFmtTie.lean); close each card by the builder's one call (the guide's Derived/Test/ToyasCard.lean, 'card_holds'). Laid BY PROGRAM, IN A SANDBOX (cutbox-door.mjs). By AI agents, Wed Nov 11 2026. No macro, syntax, notation, axiom, sorry.
-/
import Derived.Test.Qxb6613921aFmtRows
import GoSem.ClaimSeven
namespace Go.Proofs.Qxb6613921aFmt
namespace Rows

/-- THE TOLD CARD OF 'zzlaws_internal_quorum_b1.FnPacketTypeStringNamedTypesDistinctCapitalWords'. -/
def fnPacketTypeStringNamedTypesDistinctCapitalWordsCard : Claim7 := { stood := { row := fnPacketTypeStringNamedTypesDistinctCapitalWordsRow, standIns := [], harness := (true, "ec16108e771d0c648fa6afe2045a00f5491e90744bc30e0daa81bade90686ce4"), looks := true }, told := true, goes := false }
def FnPacketTypeStringNamedTypesDistinctCapitalWordsToldSaid : Prop := Claim7.holds Tryf.pinned (.plain (OpenSpec.ofChange fnPacketTypeStringNamedTypesDistinctCapitalWordsSpec)) fnPacketTypeStringNamedTypesDistinctCapitalWordsCard
/-- ITS FALSE NEIGHBOUR. Refute it at one input. -/
def FnPacketTypeStringNamedTypesDistinctCapitalWordsToldWrongFalsely : Prop := Claim7.holds Tryf.pinned (.plain (OpenSpec.ofChange fnPacketTypeStringNamedTypesDistinctCapitalWordsWrong)) fnPacketTypeStringNamedTypesDistinctCapitalWordsCard

/-- THE TOLD AND TIED CARD OF 'zzlaws_internal_quorum_b1.FnUnexpectedWrapsProtocolError'. -/
def fnUnexpectedWrapsProtocolErrorCard : Claim7 := { stood := { row := fnUnexpectedWrapsProtocolErrorRow, standIns := [], harness := (true, "ec16108e771d0c648fa6afe2045a00f5491e90744bc30e0daa81bade90686ce4"), looks := true }, told := true, laidByText := true, laidKinds := [.sentinel], laidTests := true, laidLooks := .later, goes := false }
def FnUnexpectedWrapsProtocolErrorToldSaid : Prop := Claim7.holds Tryf.pinned (.plain (OpenSpec.ofChange fnUnexpectedWrapsProtocolErrorSpec)) fnUnexpectedWrapsProtocolErrorCard
/-- ITS FALSE NEIGHBOUR. Refute it at one input. -/
def FnUnexpectedWrapsProtocolErrorToldWrongFalsely : Prop := Claim7.holds Tryf.pinned (.plain (OpenSpec.ofChange fnUnexpectedWrapsProtocolErrorWrong)) fnUnexpectedWrapsProtocolErrorCard
end Rows
end Go.Proofs.Qxb6613921aFmt
