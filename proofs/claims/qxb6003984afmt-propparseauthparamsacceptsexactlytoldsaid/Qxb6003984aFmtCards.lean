/-
  DERIVED. GIVEN WITH THE SEED: THE CARDS: each row of Qxb6003984aFmtRows.lean that lists a variable, with what it lists TIED to the program's text (the seventh form; the later family's looks); each row that meets fmt, with fmt's text TOLD by the authors' own Lean function (tested against real Go, not proved from fmt's source: count such statements apart). THE CARD IS WHAT COUNTS. Prove the row's statement (the work); the ties are given (Qxb6003984aFmtTie.lean); close each card by the builder's one call (the guide's Derived/Test/ToyasCard.lean, 'card_holds'). Laid BY PROGRAM, IN A SANDBOX (cutbox-door.mjs). By AI agents, Wed Nov 11 2026. No macro, syntax, notation, axiom, sorry.
-/
import Derived.Test.Qxb6003984aFmtRows
import GoSem.ClaimSeven
namespace Go.Proofs.Qxb6003984aFmt
namespace Rows

/-- THE TOLD AND TIED CARD OF 'zzlaws_root_c3.PropParseAuthParamsAcceptsExactly'. -/
def propParseAuthParamsAcceptsExactlyCard : Claim7 := { stood := { row := propParseAuthParamsAcceptsExactlyRow, standIns := [], harness := (true, "8ea254c1a283a47d6c908b35b37445c5f5b0b10ab9096293e5a8f46dfcdc092d"), looks := true }, told := true, laidByText := true, laidKinds := [.data, .pinned, .pinned], laidTests := true, laidLooks := .later, goes := false }
def PropParseAuthParamsAcceptsExactlyToldSaid : Prop := Claim7.holds Tryf.pinned (.plain (OpenSpec.ofChange propParseAuthParamsAcceptsExactlySpec)) propParseAuthParamsAcceptsExactlyCard
/-- ITS FALSE NEIGHBOUR. Refute it at one input. -/
def PropParseAuthParamsAcceptsExactlyToldWrongFalsely : Prop := Claim7.holds Tryf.pinned (.plain (OpenSpec.ofChange propParseAuthParamsAcceptsExactlyWrong)) propParseAuthParamsAcceptsExactlyCard

/-- THE TOLD AND TIED CARD OF 'zzlaws_root_c3.PropAddTimeAcceptsDigitsInInt64'. -/
def propAddTimeAcceptsDigitsInInt64Card : Claim7 := { stood := { row := propAddTimeAcceptsDigitsInInt64Row, standIns := [], harness := (true, "8ea254c1a283a47d6c908b35b37445c5f5b0b10ab9096293e5a8f46dfcdc092d"), looks := true }, told := true, laidByText := true, laidKinds := [.data, .data, .data, .sentinel, .sentinel], laidTests := true, laidLooks := .later, goes := false }
def PropAddTimeAcceptsDigitsInInt64ToldSaid : Prop := Claim7.holds Tryf.pinned (.plain (OpenSpec.ofChange propAddTimeAcceptsDigitsInInt64Spec)) propAddTimeAcceptsDigitsInInt64Card
/-- ITS FALSE NEIGHBOUR. Refute it at one input. -/
def PropAddTimeAcceptsDigitsInInt64ToldWrongFalsely : Prop := Claim7.holds Tryf.pinned (.plain (OpenSpec.ofChange propAddTimeAcceptsDigitsInInt64Wrong)) propAddTimeAcceptsDigitsInInt64Card
end Rows
end Go.Proofs.Qxb6003984aFmt
