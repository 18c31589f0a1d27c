/-
  DERIVED. GIVEN WITH THE SEED: THE CARDS: each row of Qxb6630581aFmtRows.lean that lists a variable, with what it lists TIED to the program's text (the seventh form; the later family's looks); each row that meets fmt, with fmt's text TOLD by the authors' own Lean function (tested against real Go, not proved from fmt's source: count such statements apart). THE CARD IS WHAT COUNTS. Prove the row's statement (the work); the ties are given (Qxb6630581aFmtTie.lean); close each card by the builder's one call (the guide's Derived/Test/ToyasCard.lean, 'card_holds'). Laid BY PROGRAM, IN A SANDBOX (cutbox-door.mjs). By AI agents, Wed Nov 11 2026. No macro, syntax, notation, axiom, sorry.
-/
import Derived.Test.Qxb6630581aFmtRows
import GoSem.ClaimSeven
namespace Go.Proofs.Qxb6630581aFmt
namespace Rows

/-- THE TOLD CARD OF 'zzlaws_pkg_book_b1.FnUnmarshalTextReadsWhatStringWrites'. -/
def fnUnmarshalTextReadsWhatStringWritesCard : Claim7 := { stood := { row := fnUnmarshalTextReadsWhatStringWritesRow, standIns := [], harness := (true, "a62c2bca30051e7979eb18149c1e8c3ba95d6be7b95afd0b456bae09e49197e2"), looks := false }, told := true, goes := false }
def FnUnmarshalTextReadsWhatStringWritesToldSaid : Prop := Claim7.holds Tryf.pinned (.plain (OpenSpec.ofChange fnUnmarshalTextReadsWhatStringWritesSpec)) fnUnmarshalTextReadsWhatStringWritesCard
/-- ITS FALSE NEIGHBOUR. Refute it at one input. -/
def FnUnmarshalTextReadsWhatStringWritesToldWrongFalsely : Prop := Claim7.holds Tryf.pinned (.plain (OpenSpec.ofChange fnUnmarshalTextReadsWhatStringWritesWrong)) fnUnmarshalTextReadsWhatStringWritesCard

/-- THE TOLD CARD OF 'zzlaws_pkg_book_b1.FnUnmarshalTextAcceptsExactlyTheNames'. -/
def fnUnmarshalTextAcceptsExactlyTheNamesCard : Claim7 := { stood := { row := fnUnmarshalTextAcceptsExactlyTheNamesRow, standIns := [], harness := (true, "a62c2bca30051e7979eb18149c1e8c3ba95d6be7b95afd0b456bae09e49197e2"), looks := false }, told := true, goes := false }
def FnUnmarshalTextAcceptsExactlyTheNamesToldSaid : Prop := Claim7.holds Tryf.pinned (.plain (OpenSpec.ofChange fnUnmarshalTextAcceptsExactlyTheNamesSpec)) fnUnmarshalTextAcceptsExactlyTheNamesCard
/-- ITS FALSE NEIGHBOUR. Refute it at one input. -/
def FnUnmarshalTextAcceptsExactlyTheNamesToldWrongFalsely : Prop := Claim7.holds Tryf.pinned (.plain (OpenSpec.ofChange fnUnmarshalTextAcceptsExactlyTheNamesWrong)) fnUnmarshalTextAcceptsExactlyTheNamesCard
end Rows
end Go.Proofs.Qxb6630581aFmt
