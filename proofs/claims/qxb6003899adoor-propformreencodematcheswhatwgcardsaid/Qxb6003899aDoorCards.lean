/-
  DERIVED. GIVEN WITH THE SEED: THE CARDS: each row of Qxb6003899aDoorRows.lean that lists a variable, with what it lists TIED to the program's text (the seventh form; the later family's looks); each row that meets fmt, with fmt's text TOLD by the authors' own Lean function (tested against real Go, not proved from fmt's source: count such statements apart). THE CARD IS WHAT COUNTS. Prove the row's statement (the work); the ties are given (Qxb6003899aDoorTie.lean); close each card by the builder's one call (the guide's Derived/Test/ToyasCard.lean, 'card_holds'). Laid BY PROGRAM, IN A SANDBOX (cutbox-door.mjs). By AI agents, Wed Nov 11 2026. No macro, syntax, notation, axiom, sorry.
-/
import Derived.Test.Qxb6003899aDoorRows
import GoSem.ClaimSeven
namespace Go.Proofs.Qxb6003899aDoor
namespace Rows

/-- THE TIED CARD OF 'zzlaws_internal_spool_c1.PropSpoolReadBlocksConcatenate'. -/
def propSpoolReadBlocksConcatenateCard : Claim7 := { stood := { row := propSpoolReadBlocksConcatenateRow, standIns := [], harness := (true, "f9b655d943f1b810228c7f475eb084002f87a85cdc42bc4a18c20b5009fb59fc"), looks := true }, kinds := [], alts := [], laidByText := true, laidKinds := [.sentinel, .sentinel, .sentinel], laidTests := true, laidLooks := .later }
def PropSpoolReadBlocksConcatenateCardSaid : Prop := Claim7.holds Tryd.pinned (.plain (OpenSpec.ofChange propSpoolReadBlocksConcatenateSpec)) propSpoolReadBlocksConcatenateCard

/-- THE TIED CARD OF 'zzlaws_internal_spool_c1.PropNewReaderIndependentNonDestructive'. -/
def propNewReaderIndependentNonDestructiveCard : Claim7 := { stood := { row := propNewReaderIndependentNonDestructiveRow, standIns := [], harness := (true, "f9b655d943f1b810228c7f475eb084002f87a85cdc42bc4a18c20b5009fb59fc"), looks := true }, kinds := [], alts := [], laidByText := true, laidKinds := [.sentinel], laidTests := true, laidLooks := .later }
def PropNewReaderIndependentNonDestructiveCardSaid : Prop := Claim7.holds Tryd.pinned (.plain (OpenSpec.ofChange propNewReaderIndependentNonDestructiveSpec)) propNewReaderIndependentNonDestructiveCard

/-- THE TIED CARD OF 'zzlaws_root_c1.PropFormReencodeMatchesWHATWG'. -/
def propFormReencodeMatchesWHATWGCard : Claim7 := { stood := { row := propFormReencodeMatchesWHATWGRow, standIns := [], harness := (true, "f9b655d943f1b810228c7f475eb084002f87a85cdc42bc4a18c20b5009fb59fc"), looks := true }, kinds := [], alts := [], laidByText := true, laidKinds := [.data, .pinned], laidTests := true, laidLooks := .later }
def PropFormReencodeMatchesWHATWGCardSaid : Prop := Claim7.holds Tryd.pinned (.plain (OpenSpec.ofChange propFormReencodeMatchesWHATWGSpec)) propFormReencodeMatchesWHATWGCard

/-- THE TIED CARD OF 'zzlaws_root_c1.PropFormReencodeAlphabetAndIdempotent'. -/
def propFormReencodeAlphabetAndIdempotentCard : Claim7 := { stood := { row := propFormReencodeAlphabetAndIdempotentRow, standIns := [], harness := (true, "f9b655d943f1b810228c7f475eb084002f87a85cdc42bc4a18c20b5009fb59fc"), looks := true }, kinds := [], alts := [], laidByText := true, laidKinds := [.data, .pinned], laidTests := true, laidLooks := .later }
def PropFormReencodeAlphabetAndIdempotentCardSaid : Prop := Claim7.holds Tryd.pinned (.plain (OpenSpec.ofChange propFormReencodeAlphabetAndIdempotentSpec)) propFormReencodeAlphabetAndIdempotentCard
end Rows
end Go.Proofs.Qxb6003899aDoor
