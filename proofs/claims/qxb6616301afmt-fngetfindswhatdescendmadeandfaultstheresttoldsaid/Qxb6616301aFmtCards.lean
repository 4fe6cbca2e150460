/-
  DERIVED. GIVEN WITH THE SEED: THE CARDS: each row of Qxb6616301aFmtRows.lean that lists a variable, with what it lists TIED to the program's text (the seventh form; the later family's looks); each row that meets fmt, with fmt's text TOLD by the authors' own Lean function (tested against real Go, not proved from fmt's source: count such statements apart). THE CARD IS WHAT COUNTS. Prove the row's statement (the work); the ties are given (Qxb6616301aFmtTie.lean); close each card by the builder's one call (the guide's Derived/Test/ToyasCard.lean, 'card_holds'). Laid BY PROGRAM, IN A SANDBOX (cutbox-door.mjs). By AI agents, Wed Nov 11 2026. No macro, syntax, notation, axiom, sorry.
-/
import Derived.Test.Qxb6616301aFmtRows
import GoSem.ClaimSeven
namespace Go.Proofs.Qxb6616301aFmt
namespace Rows

/-- THE TOLD CARD OF 'zzlaws_pkg_format1_b1.FnGetFindsWhatDescendMadeAndFaultsTheRest'. -/
def fnGetFindsWhatDescendMadeAndFaultsTheRestCard : Claim7 := { stood := { row := fnGetFindsWhatDescendMadeAndFaultsTheRestRow, standIns := [], harness := (true, "79f09c757022affe984561249c30c7a9a3078990bea424110fb65a975c71e389"), looks := false }, told := true, goes := false }
def FnGetFindsWhatDescendMadeAndFaultsTheRestToldSaid : Prop := Claim7.holds Tryf.pinned (.plain (OpenSpec.ofChange fnGetFindsWhatDescendMadeAndFaultsTheRestSpec)) fnGetFindsWhatDescendMadeAndFaultsTheRestCard
/-- ITS FALSE NEIGHBOUR. Refute it at one input. -/
def FnGetFindsWhatDescendMadeAndFaultsTheRestToldWrongFalsely : Prop := Claim7.holds Tryf.pinned (.plain (OpenSpec.ofChange fnGetFindsWhatDescendMadeAndFaultsTheRestWrong)) fnGetFindsWhatDescendMadeAndFaultsTheRestCard

/-- THE TOLD CARD OF 'zzlaws_pkg_format1_b1.FnGetKeepsTheFirstFault'. -/
def fnGetKeepsTheFirstFaultCard : Claim7 := { stood := { row := fnGetKeepsTheFirstFaultRow, standIns := [], harness := (true, "79f09c757022affe984561249c30c7a9a3078990bea424110fb65a975c71e389"), looks := false }, told := true, goes := false }
def FnGetKeepsTheFirstFaultToldSaid : Prop := Claim7.holds Tryf.pinned (.plain (OpenSpec.ofChange fnGetKeepsTheFirstFaultSpec)) fnGetKeepsTheFirstFaultCard
/-- ITS FALSE NEIGHBOUR. Refute it at one input. -/
def FnGetKeepsTheFirstFaultToldWrongFalsely : Prop := Claim7.holds Tryf.pinned (.plain (OpenSpec.ofChange fnGetKeepsTheFirstFaultWrong)) fnGetKeepsTheFirstFaultCard
end Rows
end Go.Proofs.Qxb6616301aFmt
