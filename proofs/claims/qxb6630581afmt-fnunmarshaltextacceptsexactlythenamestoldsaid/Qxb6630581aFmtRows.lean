/-
  No cell of these rows narrows 'for every input' (looked for: loops, veiled, ifaces, maps, wideKeys, modest, calm, conditions, laid).
  DERIVED. THE GIVEN ROWS OF THIS SEAT. 2 by the template 'for every input the law returns true; each argument reads behind the call as it read before'; 0 by the template 'total and deterministic' (their statements: Qxb6630581aFmtTotals.lean).
  GIVEN WITH THE SEED: the statements are not yours to turn. If you find one false, say at which input.
  Laid BY PROGRAM, IN A SANDBOX (cutbox-rows.mjs): the forced cells as the released guide's own fill.sh prints them over the translation 9fcca310f442b4d8… (all of the seat's roots in one cut). By AI agents, Wed Nov 11 2026. No macro, syntax, notation, axiom, sorry.
-/
import Derived.Test.Qxb6630581aFmtChecked
import GoSem.Claim
import GoSem.ClaimJoined
import GoSem.ClaimMapViews
import Derived.JoinedTies
import Derived.KernelRfl
namespace Go.Proofs.Qxb6630581aFmt
/- THE CELL 'sum', in the pinned program and in every row, IS THE sha256 OF THE DUMP (.gsa) THAT Qxb6630581aFmtProg.lean LOADS. Nothing in Lean hashes anything: it is a label: what it is worth is what the hold of that sum in a sandbox is worth. -/
noncomputable def Tryf.pinned : Pinned := { name := "qxb6630581afmt", sum := "9fcca310f442b4d823d728e8af8787106fbe7424861e7f093f14438fb588af68", checked := Tryf.checked }
namespace Rows
def none {H : Type} : Left H := { results := [], args := [] }

/-- 'zzlaws_pkg_book_b1.FnUnmarshalTextReadsWhatStringWrites': WHATEVER THE INPUT: true; the input reads as it did. -/
def fnUnmarshalTextReadsWhatStringWritesSpec : ChangeSpec := { name := "fnUnmarshalTextReadsWhatStringWrites", fn := fun _ => fun
  | [d1, d2] => { results := [.lit (.bool true)], args := [d1, d2] }
  | _ => none }
def fnUnmarshalTextReadsWhatStringWritesRow : OpenClaim := { program := "qxb6630581afmt", sum := "9fcca310f442b4d823d728e8af8787106fbe7424861e7f093f14438fb588af68", func := "example.com/tenderbook/tenderbook/zzlaws_pkg_book_b1.FnUnmarshalTextReadsWhatStringWrites", spec := "fnUnmarshalTextReadsWhatStringWrites", stops := ["fmt.Sprintf", "fmt.errorf"], inPlace := ["fmt.Sprintf", "fmt.errorf"], apart := false }
/-- NO THEOREM (fmt's text is open here; it may be false): for the released tool's asking of the row's closed facts alone. THE STATEMENT IS 'FnUnmarshalTextReadsWhatStringWritesToldSaid' (Qxb6630581aFmtCards.lean). -/
def FnUnmarshalTextReadsWhatStringWritesFormAsk : Prop := fnUnmarshalTextReadsWhatStringWritesRow.holds Tryf.pinned (OpenSpec.ofChange fnUnmarshalTextReadsWhatStringWritesSpec)

/-- ITS FALSE NEIGHBOUR: 'it returns false'. Refute it at one input. -/
def fnUnmarshalTextReadsWhatStringWritesWrong : ChangeSpec := { name := "fnUnmarshalTextReadsWhatStringWrites", fn := fun _ => fun
  | [d1, d2] => { results := [.lit (.bool false)], args := [d1, d2] }
  | _ => none }
def FnUnmarshalTextReadsWhatStringWritesWrongFormAsk : Prop := fnUnmarshalTextReadsWhatStringWritesRow.holds Tryf.pinned (OpenSpec.ofChange fnUnmarshalTextReadsWhatStringWritesWrong)

/-- 'zzlaws_pkg_book_b1.FnUnmarshalTextAcceptsExactlyTheNames': WHATEVER THE INPUT: true; the input reads as it did. -/
def fnUnmarshalTextAcceptsExactlyTheNamesSpec : ChangeSpec := { name := "fnUnmarshalTextAcceptsExactlyTheNames", fn := fun _ => fun
  | [d1, d2] => { results := [.lit (.bool true)], args := [d1, d2] }
  | _ => none }
def fnUnmarshalTextAcceptsExactlyTheNamesRow : OpenClaim := { program := "qxb6630581afmt", sum := "9fcca310f442b4d823d728e8af8787106fbe7424861e7f093f14438fb588af68", func := "example.com/tenderbook/tenderbook/zzlaws_pkg_book_b1.FnUnmarshalTextAcceptsExactlyTheNames", spec := "fnUnmarshalTextAcceptsExactlyTheNames", stops := ["fmt.Sprintf", "fmt.errorf"], inPlace := ["fmt.Sprintf", "fmt.errorf"], apart := false }
/-- NO THEOREM (fmt's text is open here; it may be false): for the released tool's asking of the row's closed facts alone. THE STATEMENT IS 'FnUnmarshalTextAcceptsExactlyTheNamesToldSaid' (Qxb6630581aFmtCards.lean). -/
def FnUnmarshalTextAcceptsExactlyTheNamesFormAsk : Prop := fnUnmarshalTextAcceptsExactlyTheNamesRow.holds Tryf.pinned (OpenSpec.ofChange fnUnmarshalTextAcceptsExactlyTheNamesSpec)

/-- ITS FALSE NEIGHBOUR: 'it returns false'. Refute it at one input. -/
def fnUnmarshalTextAcceptsExactlyTheNamesWrong : ChangeSpec := { name := "fnUnmarshalTextAcceptsExactlyTheNames", fn := fun _ => fun
  | [d1, d2] => { results := [.lit (.bool false)], args := [d1, d2] }
  | _ => none }
def FnUnmarshalTextAcceptsExactlyTheNamesWrongFormAsk : Prop := fnUnmarshalTextAcceptsExactlyTheNamesRow.holds Tryf.pinned (OpenSpec.ofChange fnUnmarshalTextAcceptsExactlyTheNamesWrong)

end Rows
end Go.Proofs.Qxb6630581aFmt
