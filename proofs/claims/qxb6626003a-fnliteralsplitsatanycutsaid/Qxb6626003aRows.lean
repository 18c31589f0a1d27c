/-
  No cell of these rows narrows 'for every input' (looked for: loops, veiled, ifaces, maps, wideKeys, modest, calm, conditions, laid).
  DERIVED. THE GIVEN ROWS OF THIS SEAT. 2 by the template 'for every input the law returns true; each argument reads behind the call as it read before'; 0 by the template 'total and deterministic' (their statements: Qxb6626003aTotals.lean).
  GIVEN WITH THE SEED: the statements are not yours to turn. If you find one false, say at which input.
  Laid BY PROGRAM, IN A SANDBOX (cutbox-rows.mjs): the forced cells as the released guide's own fill.sh prints them over the translation 7fb91c86dad609cd… (all of the seat's roots in one cut). By AI agents, Wed Nov 11 2026. No macro, syntax, notation, axiom, sorry.
-/
import Derived.Test.Qxb6626003aChecked
import GoSem.Claim
import GoSem.ClaimJoined
import GoSem.ClaimMapViews
import Derived.JoinedTies
import Derived.KernelRfl
namespace Go.Proofs.Qxb6626003a
/- THE CELL 'sum', in the pinned program and in every row, IS THE sha256 OF THE DUMP (.gsa) THAT Qxb6626003aProg.lean LOADS. Nothing in Lean hashes anything: it is a label: what it is worth is what the hold of that sum in a sandbox is worth. -/
noncomputable def Try.pinned : Pinned := { name := "qxb6626003a", sum := "7fb91c86dad609cdfc065a853db2268c2c82f5984f4e34fe8399a7a8794347bb", checked := Try.checked }
namespace Rows
def none {H : Type} : Left H := { results := [], args := [] }

/-- 'zzlaws_shell_b1.FnLiteralSplitsAtAnyCut': WHATEVER THE INPUT: true; the input reads as it did. -/
def fnLiteralSplitsAtAnyCutSpec : ChangeSpec := { name := "fnLiteralSplitsAtAnyCut", fn := fun _ => fun
  | [d1, d2] => { results := [.lit (.bool true)], args := [d1, d2] }
  | _ => none }
def fnLiteralSplitsAtAnyCutRow : OpenClaim := { program := "qxb6626003a", sum := "7fb91c86dad609cdfc065a853db2268c2c82f5984f4e34fe8399a7a8794347bb", func := "example.com/hookwright/hookwright/zzlaws_shell_b1.FnLiteralSplitsAtAnyCut", spec := "fnLiteralSplitsAtAnyCut", apart := false }
def FnLiteralSplitsAtAnyCutSaid : Prop := fnLiteralSplitsAtAnyCutRow.holds Try.pinned (OpenSpec.ofChange fnLiteralSplitsAtAnyCutSpec)

/-- ITS FALSE NEIGHBOUR: 'it returns false'. Refute it at one input. -/
def fnLiteralSplitsAtAnyCutWrong : ChangeSpec := { name := "fnLiteralSplitsAtAnyCut", fn := fun _ => fun
  | [d1, d2] => { results := [.lit (.bool false)], args := [d1, d2] }
  | _ => none }
def FnLiteralSplitsAtAnyCutWrongFalsely : Prop := fnLiteralSplitsAtAnyCutRow.holds Try.pinned (OpenSpec.ofChange fnLiteralSplitsAtAnyCutWrong)

/-- 'zzlaws_shell_b1.FnLiteralRequoteIsStable': WHATEVER THE INPUT: true; the input reads as it did. -/
def fnLiteralRequoteIsStableSpec : ChangeSpec := { name := "fnLiteralRequoteIsStable", fn := fun _ => fun
  | [d] => { results := [.lit (.bool true)], args := [d] }
  | _ => none }
def fnLiteralRequoteIsStableRow : OpenClaim := { program := "qxb6626003a", sum := "7fb91c86dad609cdfc065a853db2268c2c82f5984f4e34fe8399a7a8794347bb", func := "example.com/hookwright/hookwright/zzlaws_shell_b1.FnLiteralRequoteIsStable", spec := "fnLiteralRequoteIsStable", apart := false }
def FnLiteralRequoteIsStableSaid : Prop := fnLiteralRequoteIsStableRow.holds Try.pinned (OpenSpec.ofChange fnLiteralRequoteIsStableSpec)

/-- ITS FALSE NEIGHBOUR: 'it returns false'. Refute it at one input. -/
def fnLiteralRequoteIsStableWrong : ChangeSpec := { name := "fnLiteralRequoteIsStable", fn := fun _ => fun
  | [d] => { results := [.lit (.bool false)], args := [d] }
  | _ => none }
def FnLiteralRequoteIsStableWrongFalsely : Prop := fnLiteralRequoteIsStableRow.holds Try.pinned (OpenSpec.ofChange fnLiteralRequoteIsStableWrong)

end Rows
end Go.Proofs.Qxb6626003a
