/-
  No cell of these rows narrows 'for every input' (looked for: loops, veiled, ifaces, maps, wideKeys, modest, calm, conditions, laid).
  DERIVED. THE GIVEN ROWS OF THIS SEAT. 2 by the template 'for every input the law returns true; each argument reads behind the call as it read before'; 0 by the template 'total and deterministic' (their statements: Qxb6616301aTotals.lean).
  GIVEN WITH THE SEED: the statements are not yours to turn. If you find one false, say at which input.
  Laid BY PROGRAM, IN A SANDBOX (cutbox-rows.mjs): the forced cells as the released guide's own fill.sh prints them over the translation d6719a2d121c0213… (all of the seat's roots in one cut). By AI agents, Wed Nov 11 2026. No macro, syntax, notation, axiom, sorry.
-/
import Derived.Test.Qxb6616301aChecked
import GoSem.Claim
import GoSem.ClaimJoined
import GoSem.ClaimMapViews
import Derived.JoinedTies
import Derived.KernelRfl
namespace Go.Proofs.Qxb6616301a
/- THE CELL 'sum', in the pinned program and in every row, IS THE sha256 OF THE DUMP (.gsa) THAT Qxb6616301aProg.lean LOADS. Nothing in Lean hashes anything: it is a label: what it is worth is what the hold of that sum in a sandbox is worth. -/
noncomputable def Try.pinned : Pinned := { name := "qxb6616301a", sum := "d6719a2d121c0213ad4c78b6007ad86eb0a70964378b84866efeae61526cb0e5", checked := Try.checked }
namespace Rows
def none {H : Type} : Left H := { results := [], args := [] }

/-- 'zzlaws_pkg_format1_b1.FnLineAtIsTheLineOfTheOffset': WHATEVER THE INPUT: true; the input reads as it did. -/
def fnLineAtIsTheLineOfTheOffsetSpec : ChangeSpec := { name := "fnLineAtIsTheLineOfTheOffset", fn := fun _ => fun
  | [d1, d2] => { results := [.lit (.bool true)], args := [d1, d2] }
  | _ => none }
def fnLineAtIsTheLineOfTheOffsetRow : OpenClaim := { program := "qxb6616301a", sum := "d6719a2d121c0213ad4c78b6007ad86eb0a70964378b84866efeae61526cb0e5", func := "example.com/vestroll/vestroll/zzlaws_pkg_format1_b1.FnLineAtIsTheLineOfTheOffset", spec := "fnLineAtIsTheLineOfTheOffset", apart := false }
def FnLineAtIsTheLineOfTheOffsetSaid : Prop := fnLineAtIsTheLineOfTheOffsetRow.holds Try.pinned (OpenSpec.ofChange fnLineAtIsTheLineOfTheOffsetSpec)

/-- ITS FALSE NEIGHBOUR: 'it returns false'. Refute it at one input. -/
def fnLineAtIsTheLineOfTheOffsetWrong : ChangeSpec := { name := "fnLineAtIsTheLineOfTheOffset", fn := fun _ => fun
  | [d1, d2] => { results := [.lit (.bool false)], args := [d1, d2] }
  | _ => none }
def FnLineAtIsTheLineOfTheOffsetWrongFalsely : Prop := fnLineAtIsTheLineOfTheOffsetRow.holds Try.pinned (OpenSpec.ofChange fnLineAtIsTheLineOfTheOffsetWrong)

/-- 'zzlaws_pkg_format1_b1.FnLineAtAddsOverAnyCut': WHATEVER THE INPUT: true; the input reads as it did. -/
def fnLineAtAddsOverAnyCutSpec : ChangeSpec := { name := "fnLineAtAddsOverAnyCut", fn := fun _ => fun
  | [d1, d2, d3] => { results := [.lit (.bool true)], args := [d1, d2, d3] }
  | _ => none }
def fnLineAtAddsOverAnyCutRow : OpenClaim := { program := "qxb6616301a", sum := "d6719a2d121c0213ad4c78b6007ad86eb0a70964378b84866efeae61526cb0e5", func := "example.com/vestroll/vestroll/zzlaws_pkg_format1_b1.FnLineAtAddsOverAnyCut", spec := "fnLineAtAddsOverAnyCut", apart := false }
def FnLineAtAddsOverAnyCutSaid : Prop := fnLineAtAddsOverAnyCutRow.holds Try.pinned (OpenSpec.ofChange fnLineAtAddsOverAnyCutSpec)

/-- ITS FALSE NEIGHBOUR: 'it returns false'. Refute it at one input. -/
def fnLineAtAddsOverAnyCutWrong : ChangeSpec := { name := "fnLineAtAddsOverAnyCut", fn := fun _ => fun
  | [d1, d2, d3] => { results := [.lit (.bool false)], args := [d1, d2, d3] }
  | _ => none }
def FnLineAtAddsOverAnyCutWrongFalsely : Prop := fnLineAtAddsOverAnyCutRow.holds Try.pinned (OpenSpec.ofChange fnLineAtAddsOverAnyCutWrong)

end Rows
end Go.Proofs.Qxb6616301a
