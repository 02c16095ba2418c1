/-
  DERIVED. GIVEN WITH THE SEED: THE CARDS: each row of Qxb6605488aDoorRows.lean that lists a variable, with what it lists TIED to the program's text (the seventh form; the later family's looks); each row that meets fmt, with fmt's text TOLD by the authors' own Lean function (tested against real Go, not proved from fmt's source: count such statements apart). THE CARD IS WHAT COUNTS. Prove the row's statement (the work); the ties are given (Qxb6605488aDoorTie.lean); close each card by the builder's one call (the guide's Derived/Test/ToyasCard.lean, 'card_holds'). Laid BY PROGRAM, IN A SANDBOX (cutbox-door.mjs). By AI agents, Wed Nov 11 2026. No macro, syntax, notation, axiom, sorry.
-/
import Derived.Test.Qxb6605488aDoorRows
import GoSem.ClaimSeven
namespace Go.Proofs.Qxb6605488aDoor
namespace Rows

/-- THE TIED CARD OF 'zzlaws_release_b1.FnInsertNotesMatchesModel'. -/
def fnInsertNotesMatchesModelCard : Claim7 := { stood := { row := fnInsertNotesMatchesModelRow, standIns := [], harness := (true, "5c40f2f69ded64b9fc58807c78c5115c5e41f571465d435d7153a96261e37efa"), looks := false }, kinds := [], alts := [], laidByText := true, laidKinds := [.data, .pinned], laidTests := true, laidLooks := .later }
def FnInsertNotesMatchesModelCardSaid : Prop := Claim7.holds Tryd.pinned (.plain (OpenSpec.ofChange fnInsertNotesMatchesModelSpec)) fnInsertNotesMatchesModelCard

/-- THE TIED CARD OF 'zzlaws_release_b1.FnInsertNotesTwiceIsOnceWithBoth'. -/
def fnInsertNotesTwiceIsOnceWithBothCard : Claim7 := { stood := { row := fnInsertNotesTwiceIsOnceWithBothRow, standIns := [], harness := (true, "5c40f2f69ded64b9fc58807c78c5115c5e41f571465d435d7153a96261e37efa"), looks := false }, kinds := [], alts := [], laidByText := true, laidKinds := [.data, .pinned], laidTests := true, laidLooks := .later }
def FnInsertNotesTwiceIsOnceWithBothCardSaid : Prop := Claim7.holds Tryd.pinned (.plain (OpenSpec.ofChange fnInsertNotesTwiceIsOnceWithBothSpec)) fnInsertNotesTwiceIsOnceWithBothCard
end Rows
end Go.Proofs.Qxb6605488aDoor
