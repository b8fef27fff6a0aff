/-
  DERIVED. GIVEN WITH THE SEED: THE CARDS: each row of Qxb6613631aDoorRows.lean that lists a variable, with what it lists TIED to the program's text (the seventh form; the later family's looks); each row that meets fmt, with fmt's text TOLD by the authors' own Lean function (tested against real Go, not proved from fmt's source: count such statements apart). THE CARD IS WHAT COUNTS. Prove the row's statement (the work); the ties are given (Qxb6613631aDoorTie.lean); close each card by the builder's one call (the guide's Derived/Test/ToyasCard.lean, 'card_holds'). Laid BY PROGRAM, IN A SANDBOX (cutbox-door.mjs). By AI agents, Wed Nov 11 2026. No macro, syntax, notation, axiom, sorry.
-/
import Derived.Test.Qxb6613631aDoorRows
import GoSem.ClaimSeven
namespace Go.Proofs.Qxb6613631aDoor
namespace Rows

/-- THE TIED CARD OF 'zzlaws_npz_b1.FnSkipSpaceDropsJustTheLeadingBlanks'. -/
def fnSkipSpaceDropsJustTheLeadingBlanksCard : Claim7 := { stood := { row := fnSkipSpaceDropsJustTheLeadingBlanksRow, standIns := [], harness := (true, "aca7f0aa22706acb968b966535a2d7978161d8313967a51c7f3c55ba6441645f"), looks := true }, kinds := [], alts := [], laidByText := true, laidKinds := [.data, .pinned], laidTests := true, laidLooks := .later }
def FnSkipSpaceDropsJustTheLeadingBlanksCardSaid : Prop := Claim7.holds Tryd.pinned (.plain (OpenSpec.ofChange fnSkipSpaceDropsJustTheLeadingBlanksSpec)) fnSkipSpaceDropsJustTheLeadingBlanksCard

/-- THE TIED CARD OF 'zzlaws_npz_b1.FnSkipSpaceIsIdempotentAndAbsorbsBlanks'. -/
def fnSkipSpaceIsIdempotentAndAbsorbsBlanksCard : Claim7 := { stood := { row := fnSkipSpaceIsIdempotentAndAbsorbsBlanksRow, standIns := [], harness := (true, "aca7f0aa22706acb968b966535a2d7978161d8313967a51c7f3c55ba6441645f"), looks := true }, kinds := [], alts := [], laidByText := true, laidKinds := [.data, .pinned], laidTests := true, laidLooks := .later }
def FnSkipSpaceIsIdempotentAndAbsorbsBlanksCardSaid : Prop := Claim7.holds Tryd.pinned (.plain (OpenSpec.ofChange fnSkipSpaceIsIdempotentAndAbsorbsBlanksSpec)) fnSkipSpaceIsIdempotentAndAbsorbsBlanksCard

/-- THE TIED CARD OF 'zzlaws_npz_b1.FnNewWriterWritesOneEndRecord'. -/
def fnNewWriterWritesOneEndRecordCard : Claim7 := { stood := { row := fnNewWriterWritesOneEndRecordRow, standIns := [], harness := (true, "aca7f0aa22706acb968b966535a2d7978161d8313967a51c7f3c55ba6441645f"), looks := true }, kinds := [], alts := [], laidByText := true, laidKinds := [.sentinel], laidTests := true, laidLooks := .later }
def FnNewWriterWritesOneEndRecordCardSaid : Prop := Claim7.holds Tryd.pinned (.plain (OpenSpec.ofChange fnNewWriterWritesOneEndRecordSpec)) fnNewWriterWritesOneEndRecordCard
end Rows
end Go.Proofs.Qxb6613631aDoor
