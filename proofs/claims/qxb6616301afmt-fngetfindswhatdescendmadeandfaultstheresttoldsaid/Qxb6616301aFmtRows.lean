/-
  No cell of these rows narrows 'for every input' (looked for: loops, veiled, ifaces, maps, wideKeys, modest, calm, conditions, laid).
  DERIVED. THE GIVEN ROWS OF THIS SEAT. 2 by the template 'for every input the law returns true; each argument reads behind the call as it read before'; 0 by the template 'total and deterministic' (their statements: Qxb6616301aFmtTotals.lean).
  GIVEN WITH THE SEED: the statements are not yours to turn. If you find one false, say at which input.
  Laid BY PROGRAM, IN A SANDBOX (cutbox-rows.mjs): the forced cells as the released guide's own fill.sh prints them over the translation e5f545811c7a75d2… (all of the seat's roots in one cut). By AI agents, Wed Nov 11 2026. No macro, syntax, notation, axiom, sorry.
-/
import Derived.Test.Qxb6616301aFmtChecked
import GoSem.Claim
import GoSem.ClaimJoined
import GoSem.ClaimMapViews
import Derived.JoinedTies
import Derived.KernelRfl
namespace Go.Proofs.Qxb6616301aFmt
/- THE CELL 'sum', in the pinned program and in every row, IS THE sha256 OF THE DUMP (.gsa) THAT Qxb6616301aFmtProg.lean LOADS. Nothing in Lean hashes anything: it is a label: what it is worth is what the hold of that sum in a sandbox is worth. -/
noncomputable def Tryf.pinned : Pinned := { name := "qxb6616301afmt", sum := "e5f545811c7a75d2f6398a4038ca551e34d3c8a85e1cdcdb8cb8b06b20ea2fe8", checked := Tryf.checked }
namespace Rows
def none {H : Type} : Left H := { results := [], args := [] }

/-- 'zzlaws_pkg_format1_b1.FnGetFindsWhatDescendMadeAndFaultsTheRest': WHATEVER THE INPUT: true; the input reads as it did. -/
def fnGetFindsWhatDescendMadeAndFaultsTheRestSpec : ChangeSpec := { name := "fnGetFindsWhatDescendMadeAndFaultsTheRest", fn := fun _ => fun
  | [d1, d2, d3, d4, d5, d6, d7, d8] => { results := [.lit (.bool true)], args := [d1, d2, d3, d4, d5, d6, d7, d8] }
  | _ => none }
def fnGetFindsWhatDescendMadeAndFaultsTheRestRow : OpenClaim := { program := "qxb6616301afmt", sum := "e5f545811c7a75d2f6398a4038ca551e34d3c8a85e1cdcdb8cb8b06b20ea2fe8", func := "example.com/vestroll/vestroll/zzlaws_pkg_format1_b1.FnGetFindsWhatDescendMadeAndFaultsTheRest", spec := "fnGetFindsWhatDescendMadeAndFaultsTheRest", stops := ["fmt.Sprintf, its operands' methods called", "fmt.errorf"], inPlace := ["fmt.Sprintf"], unfollowed := true, recurses := true, apart := false }
/-- NO THEOREM (fmt's text is open here; it may be false): for the released tool's asking of the row's closed facts alone. THE STATEMENT IS 'FnGetFindsWhatDescendMadeAndFaultsTheRestToldSaid' (Qxb6616301aFmtCards.lean). -/
def FnGetFindsWhatDescendMadeAndFaultsTheRestFormAsk : Prop := fnGetFindsWhatDescendMadeAndFaultsTheRestRow.holds Tryf.pinned (OpenSpec.ofChange fnGetFindsWhatDescendMadeAndFaultsTheRestSpec)

/-- ITS FALSE NEIGHBOUR: 'it returns false'. Refute it at one input. -/
def fnGetFindsWhatDescendMadeAndFaultsTheRestWrong : ChangeSpec := { name := "fnGetFindsWhatDescendMadeAndFaultsTheRest", fn := fun _ => fun
  | [d1, d2, d3, d4, d5, d6, d7, d8] => { results := [.lit (.bool false)], args := [d1, d2, d3, d4, d5, d6, d7, d8] }
  | _ => none }
def FnGetFindsWhatDescendMadeAndFaultsTheRestWrongFormAsk : Prop := fnGetFindsWhatDescendMadeAndFaultsTheRestRow.holds Tryf.pinned (OpenSpec.ofChange fnGetFindsWhatDescendMadeAndFaultsTheRestWrong)

/-- 'zzlaws_pkg_format1_b1.FnGetKeepsTheFirstFault': WHATEVER THE INPUT: true; the input reads as it did. -/
def fnGetKeepsTheFirstFaultSpec : ChangeSpec := { name := "fnGetKeepsTheFirstFault", fn := fun _ => fun
  | [d1, d2, d3, d4, d5, d6, d7, d8, d9] => { results := [.lit (.bool true)], args := [d1, d2, d3, d4, d5, d6, d7, d8, d9] }
  | _ => none }
def fnGetKeepsTheFirstFaultRow : OpenClaim := { program := "qxb6616301afmt", sum := "e5f545811c7a75d2f6398a4038ca551e34d3c8a85e1cdcdb8cb8b06b20ea2fe8", func := "example.com/vestroll/vestroll/zzlaws_pkg_format1_b1.FnGetKeepsTheFirstFault", spec := "fnGetKeepsTheFirstFault", stops := ["fmt.Sprintf, its operands' methods called", "fmt.errorf"], inPlace := ["fmt.Sprintf"], unfollowed := true, recurses := true, apart := false }
/-- NO THEOREM (fmt's text is open here; it may be false): for the released tool's asking of the row's closed facts alone. THE STATEMENT IS 'FnGetKeepsTheFirstFaultToldSaid' (Qxb6616301aFmtCards.lean). -/
def FnGetKeepsTheFirstFaultFormAsk : Prop := fnGetKeepsTheFirstFaultRow.holds Tryf.pinned (OpenSpec.ofChange fnGetKeepsTheFirstFaultSpec)

/-- ITS FALSE NEIGHBOUR: 'it returns false'. Refute it at one input. -/
def fnGetKeepsTheFirstFaultWrong : ChangeSpec := { name := "fnGetKeepsTheFirstFault", fn := fun _ => fun
  | [d1, d2, d3, d4, d5, d6, d7, d8, d9] => { results := [.lit (.bool false)], args := [d1, d2, d3, d4, d5, d6, d7, d8, d9] }
  | _ => none }
def FnGetKeepsTheFirstFaultWrongFormAsk : Prop := fnGetKeepsTheFirstFaultRow.holds Tryf.pinned (OpenSpec.ofChange fnGetKeepsTheFirstFaultWrong)

end Rows
end Go.Proofs.Qxb6616301aFmt
