/-
  NARROWER THAN 'FOR EVERY INPUT', by the rows' own cells (each row's printed sentence says how): FnInsertNotesMatchesModel: laid · FnInsertNotesTwiceIsOnceWithBoth: laid.
  DERIVED. THE GIVEN ROWS OF THIS SEAT. 2 by the template 'for every input the law returns true; each argument reads behind the call as it read before'; 0 by the template 'total and deterministic' (their statements: Qxb6605488aDoorTotals.lean).
  GIVEN WITH THE SEED: the statements are not yours to turn. If you find one false, say at which input.
  Laid BY PROGRAM, IN A SANDBOX (cutbox-rows.mjs): the forced cells as the released guide's own fill.sh prints them over the translation 4a2b0258eb9c13af… (all of the seat's roots in one cut). By AI agents, Wed Nov 11 2026. No macro, syntax, notation, axiom, sorry.
-/
import Derived.Test.Qxb6605488aDoorChecked
import GoSem.PinnedTables
import GoSem.Claim
import GoSem.ClaimJoined
import GoSem.ClaimMapViews
import Derived.JoinedTies
import Derived.KernelRfl
namespace Go.Proofs.Qxb6605488aDoor
/- THE CELL 'sum', in the pinned program and in every row, IS THE sha256 OF THE DUMP (.gsa) THAT Qxb6605488aDoorProg.lean LOADS. Nothing in Lean hashes anything: it is a label: what it is worth is what the hold of that sum in a sandbox is worth. -/
noncomputable def Tryd.pinned : Pinned := { name := "qxb6605488adoor", sum := "4a2b0258eb9c13af3fb35091d9ef3858d1c1b3d81297214a799761e7b73d6054", checked := Tryd.checked }
namespace Rows
def none {H : Type} : Left H := { results := [], args := [] }

/- WHAT THE LISTED PACKAGE-LEVEL VARIABLES READ AS WHEN THE CALL BEGINS. Each datum BY PROGRAM (the guide's laid-datum.mjs) off the statement by which the dump's own 'gosem.cut.vars' lays the variable. In a bare row this is a premise. The card (Qxb6605488aDoorCards.lean) ties it to the program's text. -/
def laid_unicode_utf8_acceptRanges {H : Type} : DataW H := .agg [.agg [.lit (.int .u8 128), .lit (.int .u8 191)], .agg [.lit (.int .u8 160), .lit (.int .u8 191)], .agg [.lit (.int .u8 128), .lit (.int .u8 159)], .agg [.lit (.int .u8 144), .lit (.int .u8 191)], .agg [.lit (.int .u8 128), .lit (.int .u8 143)], .agg [.lit (.int .u8 0), .lit (.int .u8 0)], .agg [.lit (.int .u8 0), .lit (.int .u8 0)], .agg [.lit (.int .u8 0), .lit (.int .u8 0)], .agg [.lit (.int .u8 0), .lit (.int .u8 0)], .agg [.lit (.int .u8 0), .lit (.int .u8 0)], .agg [.lit (.int .u8 0), .lit (.int .u8 0)], .agg [.lit (.int .u8 0), .lit (.int .u8 0)], .agg [.lit (.int .u8 0), .lit (.int .u8 0)], .agg [.lit (.int .u8 0), .lit (.int .u8 0)], .agg [.lit (.int .u8 0), .lit (.int .u8 0)], .agg [.lit (.int .u8 0), .lit (.int .u8 0)]]
/-- One of Go's own tables, pinned by name: the form's constant. -/
def laid_unicode_utf8_first : DataW Unit := Go.Pinned.utf8First

/-- 'zzlaws_release_b1.FnInsertNotesMatchesModel': WHATEVER THE INPUT: true; the input reads as it did. -/
def fnInsertNotesMatchesModelSpec : ChangeSpec := { name := "fnInsertNotesMatchesModel", fn := fun _ => fun
  | [d1, d2, d3] => { results := [.lit (.bool true)], args := [d1, d2, d3] }
  | _ => none }
def fnInsertNotesMatchesModelRow : OpenClaim := { program := "qxb6605488adoor", sum := "4a2b0258eb9c13af3fb35091d9ef3858d1c1b3d81297214a799761e7b73d6054", func := "example.com/commitrail/commitrail/zzlaws_release_b1.FnInsertNotesMatchesModel", spec := "fnInsertNotesMatchesModel", inPlace := ["internal/bytealg.IndexByteString", "internal/bytealg.CountString", "internal/bytealg.IndexString"], named := ["unicode/utf8.first", "unicode/utf8.acceptRanges", "internal/bytealg.MaxLen"], apart := false, laid := [("unicode/utf8.acceptRanges", laid_unicode_utf8_acceptRanges), ("unicode/utf8.first", laid_unicode_utf8_first)] }
def FnInsertNotesMatchesModelSaid : Prop := fnInsertNotesMatchesModelRow.holds Tryd.pinned (OpenSpec.ofChange fnInsertNotesMatchesModelSpec)

/-- ITS FALSE NEIGHBOUR: 'it returns false'. Refute it at one input. -/
def fnInsertNotesMatchesModelWrong : ChangeSpec := { name := "fnInsertNotesMatchesModel", fn := fun _ => fun
  | [d1, d2, d3] => { results := [.lit (.bool false)], args := [d1, d2, d3] }
  | _ => none }
def FnInsertNotesMatchesModelWrongFalsely : Prop := fnInsertNotesMatchesModelRow.holds Tryd.pinned (OpenSpec.ofChange fnInsertNotesMatchesModelWrong)

/-- 'zzlaws_release_b1.FnInsertNotesTwiceIsOnceWithBoth': WHATEVER THE INPUT: true; the input reads as it did. -/
def fnInsertNotesTwiceIsOnceWithBothSpec : ChangeSpec := { name := "fnInsertNotesTwiceIsOnceWithBoth", fn := fun _ => fun
  | [d1, d2, d3, d4] => { results := [.lit (.bool true)], args := [d1, d2, d3, d4] }
  | _ => none }
def fnInsertNotesTwiceIsOnceWithBothRow : OpenClaim := { program := "qxb6605488adoor", sum := "4a2b0258eb9c13af3fb35091d9ef3858d1c1b3d81297214a799761e7b73d6054", func := "example.com/commitrail/commitrail/zzlaws_release_b1.FnInsertNotesTwiceIsOnceWithBoth", spec := "fnInsertNotesTwiceIsOnceWithBoth", inPlace := ["internal/bytealg.IndexByteString", "internal/bytealg.CountString", "internal/bytealg.IndexString"], named := ["unicode/utf8.first", "unicode/utf8.acceptRanges", "internal/bytealg.MaxLen"], apart := false, laid := [("unicode/utf8.acceptRanges", laid_unicode_utf8_acceptRanges), ("unicode/utf8.first", laid_unicode_utf8_first)] }
def FnInsertNotesTwiceIsOnceWithBothSaid : Prop := fnInsertNotesTwiceIsOnceWithBothRow.holds Tryd.pinned (OpenSpec.ofChange fnInsertNotesTwiceIsOnceWithBothSpec)

/-- ITS FALSE NEIGHBOUR: 'it returns false'. Refute it at one input. -/
def fnInsertNotesTwiceIsOnceWithBothWrong : ChangeSpec := { name := "fnInsertNotesTwiceIsOnceWithBoth", fn := fun _ => fun
  | [d1, d2, d3, d4] => { results := [.lit (.bool false)], args := [d1, d2, d3, d4] }
  | _ => none }
def FnInsertNotesTwiceIsOnceWithBothWrongFalsely : Prop := fnInsertNotesTwiceIsOnceWithBothRow.holds Tryd.pinned (OpenSpec.ofChange fnInsertNotesTwiceIsOnceWithBothWrong)

end Rows
end Go.Proofs.Qxb6605488aDoor
