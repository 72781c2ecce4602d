/-
  DERIVED. GIVEN WITH THE SEED: THE CARDS: each row of Qxb6613534aFmtRows.lean that lists a variable, with what it lists TIED to the program's text (the seventh form; the later family's looks); each row that meets fmt, with fmt's text TOLD by the authors' own Lean function (tested against real Go, not proved from fmt's source: count such statements apart). THE CARD IS WHAT COUNTS. Prove the row's statement (the work); the ties are given (Qxb6613534aFmtTie.lean); close each card by the builder's one call (the guide's Derived/Test/ToyasCard.lean, 'card_holds'). Laid BY PROGRAM, IN A SANDBOX (cutbox-door.mjs). By AI agents, Wed Nov 11 2026. No macro, syntax, notation, axiom, sorry.
-/
import Derived.Test.Qxb6613534aFmtRows
import GoSem.ClaimSeven
namespace Go.Proofs.Qxb6613534aFmt
namespace Rows

/-- THE TOLD CARD OF 'zzlaws_internal_engine_b1.FnNotAloneAlwaysRefuses'. -/
def fnNotAloneAlwaysRefusesCard : Claim7 := { stood := { row := fnNotAloneAlwaysRefusesRow, standIns := [], harness := (true, "535caac6bdf2d4c52d3116171fa8d659dfa4ca22e9f42eb8fff49aee6cc36bf4"), looks := false }, told := true, goes := false }
def FnNotAloneAlwaysRefusesToldSaid : Prop := Claim7.holds Tryf.pinned (.plain (OpenSpec.ofChange fnNotAloneAlwaysRefusesSpec)) fnNotAloneAlwaysRefusesCard
/-- ITS FALSE NEIGHBOUR. Refute it at one input. -/
def FnNotAloneAlwaysRefusesToldWrongFalsely : Prop := Claim7.holds Tryf.pinned (.plain (OpenSpec.ofChange fnNotAloneAlwaysRefusesWrong)) fnNotAloneAlwaysRefusesCard
end Rows
end Go.Proofs.Qxb6613534aFmt
