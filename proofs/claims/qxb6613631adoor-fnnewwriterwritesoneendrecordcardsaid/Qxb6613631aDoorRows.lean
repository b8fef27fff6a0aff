/-
  NARROWER THAN 'FOR EVERY INPUT', by the rows' own cells (each row's printed sentence says how): FnSkipSpaceDropsJustTheLeadingBlanks: laid · FnSkipSpaceIsIdempotentAndAbsorbsBlanks: laid · FnNewWriterWritesOneEndRecord: laid.
  DERIVED. THE GIVEN ROWS OF THIS SEAT. 3 by the template 'for every input the law returns true; each argument reads behind the call as it read before'; 0 by the template 'total and deterministic' (their statements: Qxb6613631aDoorTotals.lean).
  GIVEN WITH THE SEED: the statements are not yours to turn. If you find one false, say at which input.
  Laid BY PROGRAM, IN A SANDBOX (cutbox-rows.mjs): the forced cells as the released guide's own fill.sh prints them over the translation 0732ee8ef3977fa3… (all of the seat's roots in one cut). By AI agents, Wed Nov 11 2026. No macro, syntax, notation, axiom, sorry.
-/
import Derived.Test.Qxb6613631aDoorChecked
import GoSem.PinnedTables
import GoSem.Claim
import GoSem.ClaimJoined
import GoSem.ClaimMapViews
import Derived.JoinedTies
import Derived.KernelRfl
namespace Go.Proofs.Qxb6613631aDoor
/- THE CELL 'sum', in the pinned program and in every row, IS THE sha256 OF THE DUMP (.gsa) THAT Qxb6613631aDoorProg.lean LOADS. Nothing in Lean hashes anything: it is a label: what it is worth is what the hold of that sum in a sandbox is worth. -/
noncomputable def Tryd.pinned : Pinned := { name := "qxb6613631adoor", sum := "0732ee8ef3977fa3b21fd39addb75512b2701b339d5347992fc3822a68367c18", checked := Tryd.checked }
namespace Rows
def none {H : Type} : Left H := { results := [], args := [] }

/- WHAT THE LISTED PACKAGE-LEVEL VARIABLES READ AS WHEN THE CALL BEGINS. Each datum BY PROGRAM (the guide's laid-datum.mjs) off the statement by which the dump's own 'gosem.cut.vars' lays the variable. In a bare row this is a premise. The card (Qxb6613631aDoorCards.lean) ties it to the program's text. -/
def laid_unicode_utf8_acceptRanges {H : Type} : DataW H := .agg [.agg [.lit (.int .u8 128), .lit (.int .u8 191)], .agg [.lit (.int .u8 160), .lit (.int .u8 191)], .agg [.lit (.int .u8 128), .lit (.int .u8 159)], .agg [.lit (.int .u8 144), .lit (.int .u8 191)], .agg [.lit (.int .u8 128), .lit (.int .u8 143)], .agg [.lit (.int .u8 0), .lit (.int .u8 0)], .agg [.lit (.int .u8 0), .lit (.int .u8 0)], .agg [.lit (.int .u8 0), .lit (.int .u8 0)], .agg [.lit (.int .u8 0), .lit (.int .u8 0)], .agg [.lit (.int .u8 0), .lit (.int .u8 0)], .agg [.lit (.int .u8 0), .lit (.int .u8 0)], .agg [.lit (.int .u8 0), .lit (.int .u8 0)], .agg [.lit (.int .u8 0), .lit (.int .u8 0)], .agg [.lit (.int .u8 0), .lit (.int .u8 0)], .agg [.lit (.int .u8 0), .lit (.int .u8 0)], .agg [.lit (.int .u8 0), .lit (.int .u8 0)]]
/-- One of Go's own tables, pinned by name: the form's constant. -/
def laid_unicode_utf8_first : DataW Unit := Go.Pinned.utf8First
def laid_io_ErrShortWrite {H : Type} : DataW H := .iface "*errors.errorString" (.ptr (.agg [.lit (.string [115, 104, 111, 114, 116, 32, 119, 114, 105, 116, 101])]))

/-- 'zzlaws_npz_b1.FnSkipSpaceDropsJustTheLeadingBlanks': WHATEVER THE INPUT: true; the input reads as it did. -/
def fnSkipSpaceDropsJustTheLeadingBlanksSpec : ChangeSpec := { name := "fnSkipSpaceDropsJustTheLeadingBlanks", fn := fun _ => fun
  | [d1, d2] => { results := [.lit (.bool true)], args := [d1, d2] }
  | _ => none }
def fnSkipSpaceDropsJustTheLeadingBlanksRow : OpenClaim := { program := "qxb6613631adoor", sum := "0732ee8ef3977fa3b21fd39addb75512b2701b339d5347992fc3822a68367c18", func := "example.com/hebbit/hebbit/zzlaws_npz_b1.FnSkipSpaceDropsJustTheLeadingBlanks", spec := "fnSkipSpaceDropsJustTheLeadingBlanks", inPlace := ["internal/bytealg.IndexByteString", "internal/bytealg.IndexString"], named := ["unicode/utf8.first", "unicode/utf8.acceptRanges", "internal/bytealg.MaxLen"], apart := false, laid := [("unicode/utf8.acceptRanges", laid_unicode_utf8_acceptRanges), ("unicode/utf8.first", laid_unicode_utf8_first)] }
def FnSkipSpaceDropsJustTheLeadingBlanksSaid : Prop := fnSkipSpaceDropsJustTheLeadingBlanksRow.holds Tryd.pinned (OpenSpec.ofChange fnSkipSpaceDropsJustTheLeadingBlanksSpec)

/-- ITS FALSE NEIGHBOUR: 'it returns false'. Refute it at one input. -/
def fnSkipSpaceDropsJustTheLeadingBlanksWrong : ChangeSpec := { name := "fnSkipSpaceDropsJustTheLeadingBlanks", fn := fun _ => fun
  | [d1, d2] => { results := [.lit (.bool false)], args := [d1, d2] }
  | _ => none }
def FnSkipSpaceDropsJustTheLeadingBlanksWrongFalsely : Prop := fnSkipSpaceDropsJustTheLeadingBlanksRow.holds Tryd.pinned (OpenSpec.ofChange fnSkipSpaceDropsJustTheLeadingBlanksWrong)

/-- 'zzlaws_npz_b1.FnSkipSpaceIsIdempotentAndAbsorbsBlanks': WHATEVER THE INPUT: true; the input reads as it did. -/
def fnSkipSpaceIsIdempotentAndAbsorbsBlanksSpec : ChangeSpec := { name := "fnSkipSpaceIsIdempotentAndAbsorbsBlanks", fn := fun _ => fun
  | [d1, d2] => { results := [.lit (.bool true)], args := [d1, d2] }
  | _ => none }
def fnSkipSpaceIsIdempotentAndAbsorbsBlanksRow : OpenClaim := { program := "qxb6613631adoor", sum := "0732ee8ef3977fa3b21fd39addb75512b2701b339d5347992fc3822a68367c18", func := "example.com/hebbit/hebbit/zzlaws_npz_b1.FnSkipSpaceIsIdempotentAndAbsorbsBlanks", spec := "fnSkipSpaceIsIdempotentAndAbsorbsBlanks", inPlace := ["internal/bytealg.IndexByteString", "internal/bytealg.IndexString"], named := ["unicode/utf8.first", "unicode/utf8.acceptRanges", "internal/bytealg.MaxLen"], apart := false, laid := [("unicode/utf8.acceptRanges", laid_unicode_utf8_acceptRanges), ("unicode/utf8.first", laid_unicode_utf8_first)] }
def FnSkipSpaceIsIdempotentAndAbsorbsBlanksSaid : Prop := fnSkipSpaceIsIdempotentAndAbsorbsBlanksRow.holds Tryd.pinned (OpenSpec.ofChange fnSkipSpaceIsIdempotentAndAbsorbsBlanksSpec)

/-- ITS FALSE NEIGHBOUR: 'it returns false'. Refute it at one input. -/
def fnSkipSpaceIsIdempotentAndAbsorbsBlanksWrong : ChangeSpec := { name := "fnSkipSpaceIsIdempotentAndAbsorbsBlanks", fn := fun _ => fun
  | [d1, d2] => { results := [.lit (.bool false)], args := [d1, d2] }
  | _ => none }
def FnSkipSpaceIsIdempotentAndAbsorbsBlanksWrongFalsely : Prop := fnSkipSpaceIsIdempotentAndAbsorbsBlanksRow.holds Tryd.pinned (OpenSpec.ofChange fnSkipSpaceIsIdempotentAndAbsorbsBlanksWrong)

/-- 'zzlaws_npz_b1.FnNewWriterWritesOneEndRecord': WHATEVER THE INPUT: true; the input reads as it did. -/
def fnNewWriterWritesOneEndRecordSpec : ChangeSpec := { name := "fnNewWriterWritesOneEndRecord", fn := fun _ => fun
  | [d] => { results := [.lit (.bool true)], args := [d] }
  | _ => none }
def fnNewWriterWritesOneEndRecordRow : OpenClaim := { program := "qxb6613631adoor", sum := "0732ee8ef3977fa3b21fd39addb75512b2701b339d5347992fc3822a68367c18", func := "example.com/hebbit/hebbit/zzlaws_npz_b1.FnNewWriterWritesOneEndRecord", spec := "fnNewWriterWritesOneEndRecord", unfollowed := true, recurses := true, named := ["encoding/binary.LittleEndian", "io.ErrShortWrite"], apart := false, laid := [("io.ErrShortWrite", laid_io_ErrShortWrite)] }
def FnNewWriterWritesOneEndRecordSaid : Prop := fnNewWriterWritesOneEndRecordRow.holds Tryd.pinned (OpenSpec.ofChange fnNewWriterWritesOneEndRecordSpec)

/-- ITS FALSE NEIGHBOUR: 'it returns false'. Refute it at one input. -/
def fnNewWriterWritesOneEndRecordWrong : ChangeSpec := { name := "fnNewWriterWritesOneEndRecord", fn := fun _ => fun
  | [d] => { results := [.lit (.bool false)], args := [d] }
  | _ => none }
def FnNewWriterWritesOneEndRecordWrongFalsely : Prop := fnNewWriterWritesOneEndRecordRow.holds Tryd.pinned (OpenSpec.ofChange fnNewWriterWritesOneEndRecordWrong)

end Rows
end Go.Proofs.Qxb6613631aDoor
