/-
  No cell of these rows narrows 'for every input' (looked for: loops, veiled, ifaces, maps, wideKeys, modest, calm, conditions, laid).
  DERIVED. THE GIVEN ROWS OF THIS SEAT. 2 by the template 'for every input the law returns true; each argument reads behind the call as it read before'; 0 by the template 'total and deterministic' (their statements: Qxb6625802aTotals.lean).
  GIVEN WITH THE SEED: the statements are not yours to turn. If you find one false, say at which input.
  Laid BY PROGRAM, IN A SANDBOX (cutbox-rows.mjs): the forced cells as the released guide's own fill.sh prints them over the translation 8e783a90d17f9d02… (all of the seat's roots in one cut). By AI agents, Wed Nov 11 2026. No macro, syntax, notation, axiom, sorry.
-/
import Derived.Test.Qxb6625802aChecked
import GoSem.Claim
import GoSem.ClaimJoined
import GoSem.ClaimMapViews
import Derived.JoinedTies
import Derived.KernelRfl
namespace Go.Proofs.Qxb6625802a
/- THE CELL 'sum', in the pinned program and in every row, IS THE sha256 OF THE DUMP (.gsa) THAT Qxb6625802aProg.lean LOADS. Nothing in Lean hashes anything: it is a label: what it is worth is what the hold of that sum in a sandbox is worth. -/
noncomputable def Try.pinned : Pinned := { name := "qxb6625802a", sum := "8e783a90d17f9d02b8cec802a94783c35de82218c5774d120fcf9ac23b7f2b64", checked := Try.checked }
namespace Rows
def none {H : Type} : Left H := { results := [], args := [] }

/-- 'zzlaws_root_b1.FnInstancesTileTheirParts': WHATEVER THE INPUT: true; the input reads as it did. -/
def fnInstancesTileTheirPartsSpec : ChangeSpec := { name := "fnInstancesTileTheirParts", fn := fun _ => fun
  | [d1, d2, d3, d4, d5] => { results := [.lit (.bool true)], args := [d1, d2, d3, d4, d5] }
  | _ => none }
def fnInstancesTileTheirPartsRow : OpenClaim := { program := "qxb6625802a", sum := "8e783a90d17f9d02b8cec802a94783c35de82218c5774d120fcf9ac23b7f2b64", func := "example.com/ogniwo/ogniwo/zzlaws_root_b1.FnInstancesTileTheirParts", spec := "fnInstancesTileTheirParts", apart := false }
def FnInstancesTileTheirPartsSaid : Prop := fnInstancesTileTheirPartsRow.holds Try.pinned (OpenSpec.ofChange fnInstancesTileTheirPartsSpec)

/-- ITS FALSE NEIGHBOUR: 'it returns false'. Refute it at one input. -/
def fnInstancesTileTheirPartsWrong : ChangeSpec := { name := "fnInstancesTileTheirParts", fn := fun _ => fun
  | [d1, d2, d3, d4, d5] => { results := [.lit (.bool false)], args := [d1, d2, d3, d4, d5] }
  | _ => none }
def FnInstancesTileTheirPartsWrongFalsely : Prop := fnInstancesTileTheirPartsRow.holds Try.pinned (OpenSpec.ofChange fnInstancesTileTheirPartsWrong)

/-- 'zzlaws_root_b1.FnTakingInAnInstanceKeepsTheEarlier': WHATEVER THE INPUT: true; the input reads as it did. -/
def fnTakingInAnInstanceKeepsTheEarlierSpec : ChangeSpec := { name := "fnTakingInAnInstanceKeepsTheEarlier", fn := fun _ => fun
  | [d1, d2, d3, d4, d5, d6, d7, d8] => { results := [.lit (.bool true)], args := [d1, d2, d3, d4, d5, d6, d7, d8] }
  | _ => none }
def fnTakingInAnInstanceKeepsTheEarlierRow : OpenClaim := { program := "qxb6625802a", sum := "8e783a90d17f9d02b8cec802a94783c35de82218c5774d120fcf9ac23b7f2b64", func := "example.com/ogniwo/ogniwo/zzlaws_root_b1.FnTakingInAnInstanceKeepsTheEarlier", spec := "fnTakingInAnInstanceKeepsTheEarlier", apart := false }
def FnTakingInAnInstanceKeepsTheEarlierSaid : Prop := fnTakingInAnInstanceKeepsTheEarlierRow.holds Try.pinned (OpenSpec.ofChange fnTakingInAnInstanceKeepsTheEarlierSpec)

/-- ITS FALSE NEIGHBOUR: 'it returns false'. Refute it at one input. -/
def fnTakingInAnInstanceKeepsTheEarlierWrong : ChangeSpec := { name := "fnTakingInAnInstanceKeepsTheEarlier", fn := fun _ => fun
  | [d1, d2, d3, d4, d5, d6, d7, d8] => { results := [.lit (.bool false)], args := [d1, d2, d3, d4, d5, d6, d7, d8] }
  | _ => none }
def FnTakingInAnInstanceKeepsTheEarlierWrongFalsely : Prop := fnTakingInAnInstanceKeepsTheEarlierRow.holds Try.pinned (OpenSpec.ofChange fnTakingInAnInstanceKeepsTheEarlierWrong)

end Rows
end Go.Proofs.Qxb6625802a
