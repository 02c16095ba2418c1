/-
  NARROWER THAN 'FOR EVERY INPUT', by the rows' own cells (each row's printed sentence says how): PropSpoolReadBlocksConcatenate: laid · PropNewReaderIndependentNonDestructive: laid · PropFormReencodeMatchesWHATWG: laid · PropFormReencodeAlphabetAndIdempotent: laid.
  DERIVED. THE GIVEN ROWS OF THIS SEAT. 4 by the template 'for every input the law returns true; each argument reads behind the call as it read before'; 0 by the template 'total and deterministic' (their statements: Qxb6003899aDoorTotals.lean).
  GIVEN WITH THE SEED: the statements are not yours to turn. If you find one false, say at which input.
  Laid BY PROGRAM, IN A SANDBOX (cutbox-rows.mjs): the forced cells as the released guide's own fill.sh prints them over the translation f211b4eed97c1e33… (all of the seat's roots in one cut). By AI agents, Wed Nov 11 2026. No macro, syntax, notation, axiom, sorry.
-/
import Derived.Test.Qxb6003899aDoorChecked
import GoSem.PinnedTables
import GoSem.Claim
import GoSem.ClaimJoined
import GoSem.ClaimMapViews
import Derived.JoinedTies
import Derived.KernelRfl
namespace Go.Proofs.Qxb6003899aDoor
/- THE CELL 'sum', in the pinned program and in every row, IS THE sha256 OF THE DUMP (.gsa) THAT Qxb6003899aDoorProg.lean LOADS. Nothing in Lean hashes anything: it is a label: what it is worth is what the hold of that sum in a sandbox is worth. -/
noncomputable def Tryd.pinned : Pinned := { name := "qxb6003899adoor", sum := "f211b4eed97c1e3381c3f176a4a8ad896159211ea4b20d1a4ed151cc5a24e74b", checked := Tryd.checked }
namespace Rows
def none {H : Type} : Left H := { results := [], args := [] }

/- WHAT THE LISTED PACKAGE-LEVEL VARIABLES READ AS WHEN THE CALL BEGINS. Each datum BY PROGRAM (the guide's laid-datum.mjs) off the statement by which the dump's own 'gosem.cut.vars' lays the variable. In a bare row this is a premise. The card (Qxb6003899aDoorCards.lean) ties it to the program's text. -/
def laid_io_EOF {H : Type} : DataW H := .iface "*errors.errorString" (.ptr (.agg [.lit (.string [69, 79, 70])]))
def laid_io_ErrUnexpectedEOF {H : Type} : DataW H := .iface "*errors.errorString" (.ptr (.agg [.lit (.string [117, 110, 101, 120, 112, 101, 99, 116, 101, 100, 32, 69, 79, 70])]))
def laid_io_ErrNoProgress {H : Type} : DataW H := .iface "*errors.errorString" (.ptr (.agg [.lit (.string [109, 117, 108, 116, 105, 112, 108, 101, 32, 82, 101, 97, 100, 32, 99, 97, 108, 108, 115, 32, 114, 101, 116, 117, 114, 110, 32, 110, 111, 32, 100, 97, 116, 97, 32, 111, 114, 32, 101, 114, 114, 111, 114])]))
def laid_unicode_utf8_acceptRanges {H : Type} : DataW H := .agg [.agg [.lit (.int .u8 128), .lit (.int .u8 191)], .agg [.lit (.int .u8 160), .lit (.int .u8 191)], .agg [.lit (.int .u8 128), .lit (.int .u8 159)], .agg [.lit (.int .u8 144), .lit (.int .u8 191)], .agg [.lit (.int .u8 128), .lit (.int .u8 143)], .agg [.lit (.int .u8 0), .lit (.int .u8 0)], .agg [.lit (.int .u8 0), .lit (.int .u8 0)], .agg [.lit (.int .u8 0), .lit (.int .u8 0)], .agg [.lit (.int .u8 0), .lit (.int .u8 0)], .agg [.lit (.int .u8 0), .lit (.int .u8 0)], .agg [.lit (.int .u8 0), .lit (.int .u8 0)], .agg [.lit (.int .u8 0), .lit (.int .u8 0)], .agg [.lit (.int .u8 0), .lit (.int .u8 0)], .agg [.lit (.int .u8 0), .lit (.int .u8 0)], .agg [.lit (.int .u8 0), .lit (.int .u8 0)], .agg [.lit (.int .u8 0), .lit (.int .u8 0)]]
/-- One of Go's own tables, pinned by name: the form's constant. -/
def laid_unicode_utf8_first : DataW Unit := Go.Pinned.utf8First

/-- 'zzlaws_internal_spool_c1.PropSpoolReadBlocksConcatenate': WHATEVER THE INPUT: true; the input reads as it did. -/
def propSpoolReadBlocksConcatenateSpec : ChangeSpec := { name := "propSpoolReadBlocksConcatenate", fn := fun _ => fun
  | [d] => { results := [.lit (.bool true)], args := [d] }
  | _ => none }
def propSpoolReadBlocksConcatenateRow : OpenClaim := { program := "qxb6003899adoor", sum := "f211b4eed97c1e3381c3f176a4a8ad896159211ea4b20d1a4ed151cc5a24e74b", func := "example.com/countersign/countersign/zzlaws_internal_spool_c1.PropSpoolReadBlocksConcatenate", spec := "propSpoolReadBlocksConcatenate", inPlace := ["internal/reflectlite.TypeOf"], unfollowed := true, recurses := true, named := ["io.ErrUnexpectedEOF", "io.ErrNoProgress", "io.EOF"], apart := false, laid := [("io.EOF", laid_io_EOF), ("io.ErrUnexpectedEOF", laid_io_ErrUnexpectedEOF), ("io.ErrNoProgress", laid_io_ErrNoProgress)] }
def PropSpoolReadBlocksConcatenateSaid : Prop := propSpoolReadBlocksConcatenateRow.holds Tryd.pinned (OpenSpec.ofChange propSpoolReadBlocksConcatenateSpec)

/-- ITS FALSE NEIGHBOUR: 'it returns false'. Refute it at one input. -/
def propSpoolReadBlocksConcatenateWrong : ChangeSpec := { name := "propSpoolReadBlocksConcatenate", fn := fun _ => fun
  | [d] => { results := [.lit (.bool false)], args := [d] }
  | _ => none }
def PropSpoolReadBlocksConcatenateWrongFalsely : Prop := propSpoolReadBlocksConcatenateRow.holds Tryd.pinned (OpenSpec.ofChange propSpoolReadBlocksConcatenateWrong)

/-- 'zzlaws_internal_spool_c1.PropNewReaderIndependentNonDestructive': WHATEVER THE INPUT: true; the input reads as it did. -/
def propNewReaderIndependentNonDestructiveSpec : ChangeSpec := { name := "propNewReaderIndependentNonDestructive", fn := fun _ => fun
  | [d1, d2] => { results := [.lit (.bool true)], args := [d1, d2] }
  | _ => none }
def propNewReaderIndependentNonDestructiveRow : OpenClaim := { program := "qxb6003899adoor", sum := "f211b4eed97c1e3381c3f176a4a8ad896159211ea4b20d1a4ed151cc5a24e74b", func := "example.com/countersign/countersign/zzlaws_internal_spool_c1.PropNewReaderIndependentNonDestructive", spec := "propNewReaderIndependentNonDestructive", inPlace := ["internal/reflectlite.TypeOf"], unfollowed := true, recurses := true, named := ["io.EOF"], apart := false, laid := [("io.EOF", laid_io_EOF)] }
def PropNewReaderIndependentNonDestructiveSaid : Prop := propNewReaderIndependentNonDestructiveRow.holds Tryd.pinned (OpenSpec.ofChange propNewReaderIndependentNonDestructiveSpec)

/-- ITS FALSE NEIGHBOUR: 'it returns false'. Refute it at one input. -/
def propNewReaderIndependentNonDestructiveWrong : ChangeSpec := { name := "propNewReaderIndependentNonDestructive", fn := fun _ => fun
  | [d1, d2] => { results := [.lit (.bool false)], args := [d1, d2] }
  | _ => none }
def PropNewReaderIndependentNonDestructiveWrongFalsely : Prop := propNewReaderIndependentNonDestructiveRow.holds Tryd.pinned (OpenSpec.ofChange propNewReaderIndependentNonDestructiveWrong)

/-- 'zzlaws_root_c1.PropFormReencodeMatchesWHATWG': WHATEVER THE INPUT: true; the input reads as it did. -/
def propFormReencodeMatchesWHATWGSpec : ChangeSpec := { name := "propFormReencodeMatchesWHATWG", fn := fun _ => fun
  | [d] => { results := [.lit (.bool true)], args := [d] }
  | _ => none }
def propFormReencodeMatchesWHATWGRow : OpenClaim := { program := "qxb6003899adoor", sum := "f211b4eed97c1e3381c3f176a4a8ad896159211ea4b20d1a4ed151cc5a24e74b", func := "example.com/countersign/countersign/zzlaws_root_c1.PropFormReencodeMatchesWHATWG", spec := "propFormReencodeMatchesWHATWG", inPlace := ["internal/abi.NoEscape", "internal/bytealg.IndexByteString"], named := ["unicode/utf8.first", "unicode/utf8.acceptRanges"], apart := false, laid := [("unicode/utf8.acceptRanges", laid_unicode_utf8_acceptRanges), ("unicode/utf8.first", laid_unicode_utf8_first)] }
def PropFormReencodeMatchesWHATWGSaid : Prop := propFormReencodeMatchesWHATWGRow.holds Tryd.pinned (OpenSpec.ofChange propFormReencodeMatchesWHATWGSpec)

/-- ITS FALSE NEIGHBOUR: 'it returns false'. Refute it at one input. -/
def propFormReencodeMatchesWHATWGWrong : ChangeSpec := { name := "propFormReencodeMatchesWHATWG", fn := fun _ => fun
  | [d] => { results := [.lit (.bool false)], args := [d] }
  | _ => none }
def PropFormReencodeMatchesWHATWGWrongFalsely : Prop := propFormReencodeMatchesWHATWGRow.holds Tryd.pinned (OpenSpec.ofChange propFormReencodeMatchesWHATWGWrong)

/-- 'zzlaws_root_c1.PropFormReencodeAlphabetAndIdempotent': WHATEVER THE INPUT: true; the input reads as it did. -/
def propFormReencodeAlphabetAndIdempotentSpec : ChangeSpec := { name := "propFormReencodeAlphabetAndIdempotent", fn := fun _ => fun
  | [d] => { results := [.lit (.bool true)], args := [d] }
  | _ => none }
def propFormReencodeAlphabetAndIdempotentRow : OpenClaim := { program := "qxb6003899adoor", sum := "f211b4eed97c1e3381c3f176a4a8ad896159211ea4b20d1a4ed151cc5a24e74b", func := "example.com/countersign/countersign/zzlaws_root_c1.PropFormReencodeAlphabetAndIdempotent", spec := "propFormReencodeAlphabetAndIdempotent", inPlace := ["internal/abi.NoEscape", "internal/bytealg.IndexByteString"], named := ["unicode/utf8.first", "unicode/utf8.acceptRanges"], apart := false, laid := [("unicode/utf8.acceptRanges", laid_unicode_utf8_acceptRanges), ("unicode/utf8.first", laid_unicode_utf8_first)] }
def PropFormReencodeAlphabetAndIdempotentSaid : Prop := propFormReencodeAlphabetAndIdempotentRow.holds Tryd.pinned (OpenSpec.ofChange propFormReencodeAlphabetAndIdempotentSpec)

/-- ITS FALSE NEIGHBOUR: 'it returns false'. Refute it at one input. -/
def propFormReencodeAlphabetAndIdempotentWrong : ChangeSpec := { name := "propFormReencodeAlphabetAndIdempotent", fn := fun _ => fun
  | [d] => { results := [.lit (.bool false)], args := [d] }
  | _ => none }
def PropFormReencodeAlphabetAndIdempotentWrongFalsely : Prop := propFormReencodeAlphabetAndIdempotentRow.holds Tryd.pinned (OpenSpec.ofChange propFormReencodeAlphabetAndIdempotentWrong)

end Rows
end Go.Proofs.Qxb6003899aDoor
