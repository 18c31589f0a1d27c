/-
  No cell of these rows narrows 'for every input' (looked for: loops, veiled, ifaces, maps, wideKeys, modest, calm, conditions, laid).
  DERIVED. THE GIVEN ROWS OF THIS SEAT. 2 by the template 'for every input the law returns true; each argument reads behind the call as it read before'; 0 by the template 'total and deterministic' (their statements: Qxb6630627aTotals.lean).
  GIVEN WITH THE SEED: the statements are not yours to turn. If you find one false, say at which input.
  Laid BY PROGRAM, IN A SANDBOX (cutbox-rows.mjs): the forced cells as the released guide's own fill.sh prints them over the translation 7b9b4a29108a95b5… (all of the seat's roots in one cut). By AI agents, Wed Nov 11 2026. No macro, syntax, notation, axiom, sorry.
-/
import Derived.Test.Qxb6630627aChecked
import GoSem.Claim
import GoSem.ClaimJoined
import GoSem.ClaimMapViews
import Derived.JoinedTies
import Derived.KernelRfl
namespace Go.Proofs.Qxb6630627a
/- THE CELL 'sum', in the pinned program and in every row, IS THE sha256 OF THE DUMP (.gsa) THAT Qxb6630627aProg.lean LOADS. Nothing in Lean hashes anything: it is a label: what it is worth is what the hold of that sum in a sandbox is worth. -/
noncomputable def Try.pinned : Pinned := { name := "qxb6630627a", sum := "7b9b4a29108a95b5a9e089c9c5e9284577ea8d67efa5b8d809e03bd091add59f", checked := Try.checked }
namespace Rows
def none {H : Type} : Left H := { results := [], args := [] }

/-- 'zzlaws_root_b1.FnMarkedInsertAnywhere': WHATEVER THE INPUT: true; the input reads as it did. -/
def fnMarkedInsertAnywhereSpec : ChangeSpec := { name := "fnMarkedInsertAnywhere", fn := fun _ => fun
  | [d1, d2, d3, d4, d5, d6] => { results := [.lit (.bool true)], args := [d1, d2, d3, d4, d5, d6] }
  | _ => none }
def fnMarkedInsertAnywhereRow : OpenClaim := { program := "qxb6630627a", sum := "7b9b4a29108a95b5a9e089c9c5e9284577ea8d67efa5b8d809e03bd091add59f", func := "example.com/tendril/tendril/zzlaws_root_b1.FnMarkedInsertAnywhere", spec := "fnMarkedInsertAnywhere", apart := false }
def FnMarkedInsertAnywhereSaid : Prop := fnMarkedInsertAnywhereRow.holds Try.pinned (OpenSpec.ofChange fnMarkedInsertAnywhereSpec)

/-- ITS FALSE NEIGHBOUR: 'it returns false'. Refute it at one input. -/
def fnMarkedInsertAnywhereWrong : ChangeSpec := { name := "fnMarkedInsertAnywhere", fn := fun _ => fun
  | [d1, d2, d3, d4, d5, d6] => { results := [.lit (.bool false)], args := [d1, d2, d3, d4, d5, d6] }
  | _ => none }
def FnMarkedInsertAnywhereWrongFalsely : Prop := fnMarkedInsertAnywhereRow.holds Try.pinned (OpenSpec.ofChange fnMarkedInsertAnywhereWrong)

/-- 'zzlaws_root_b1.FnMarkedSplitMergeRebuilds': WHATEVER THE INPUT: true; the input reads as it did. -/
def fnMarkedSplitMergeRebuildsSpec : ChangeSpec := { name := "fnMarkedSplitMergeRebuilds", fn := fun _ => fun
  | [d1, d2, d3] => { results := [.lit (.bool true)], args := [d1, d2, d3] }
  | _ => none }
def fnMarkedSplitMergeRebuildsRow : OpenClaim := { program := "qxb6630627a", sum := "7b9b4a29108a95b5a9e089c9c5e9284577ea8d67efa5b8d809e03bd091add59f", func := "example.com/tendril/tendril/zzlaws_root_b1.FnMarkedSplitMergeRebuilds", spec := "fnMarkedSplitMergeRebuilds", apart := false }
def FnMarkedSplitMergeRebuildsSaid : Prop := fnMarkedSplitMergeRebuildsRow.holds Try.pinned (OpenSpec.ofChange fnMarkedSplitMergeRebuildsSpec)

/-- ITS FALSE NEIGHBOUR: 'it returns false'. Refute it at one input. -/
def fnMarkedSplitMergeRebuildsWrong : ChangeSpec := { name := "fnMarkedSplitMergeRebuilds", fn := fun _ => fun
  | [d1, d2, d3] => { results := [.lit (.bool false)], args := [d1, d2, d3] }
  | _ => none }
def FnMarkedSplitMergeRebuildsWrongFalsely : Prop := fnMarkedSplitMergeRebuildsRow.holds Try.pinned (OpenSpec.ofChange fnMarkedSplitMergeRebuildsWrong)

end Rows
end Go.Proofs.Qxb6630627a
