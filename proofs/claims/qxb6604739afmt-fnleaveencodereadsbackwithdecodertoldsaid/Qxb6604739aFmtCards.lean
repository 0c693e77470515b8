/-
  DERIVED. GIVEN WITH THE SEED: THE CARDS: each row of Qxb6604739aFmtRows.lean that lists a variable, with what it lists TIED to the program's text (the seventh form; the later family's looks); each row that meets fmt, with fmt's text TOLD by the authors' own Lean function (tested against real Go, not proved from fmt's source: count such statements apart). THE CARD IS WHAT COUNTS. Prove the row's statement (the work); the ties are given (Qxb6604739aFmtTie.lean); close each card by the builder's one call (the guide's Derived/Test/ToyasCard.lean, 'card_holds'). Laid BY PROGRAM, IN A SANDBOX (cutbox-door.mjs). By AI agents, Wed Nov 11 2026. No macro, syntax, notation, axiom, sorry.
-/
import Derived.Test.Qxb6604739aFmtRows
import GoSem.ClaimSeven
namespace Go.Proofs.Qxb6604739aFmt
namespace Rows

/-- THE TOLD CARD OF 'zzlaws_internal_wire_b1.FnRefusalSurvivesTheWire'. -/
def fnRefusalSurvivesTheWireCard : Claim7 := { stood := { row := fnRefusalSurvivesTheWireRow, standIns := [], harness := (true, "f381f6c1d88b140729b039f1cfcd40e51f4256ff2b3d3a125d50839a9e12d8f3"), looks := true }, told := true, goes := false }
def FnRefusalSurvivesTheWireToldSaid : Prop := Claim7.holds Tryf.pinned (.plain (OpenSpec.ofChange fnRefusalSurvivesTheWireSpec)) fnRefusalSurvivesTheWireCard
/-- ITS FALSE NEIGHBOUR. Refute it at one input. -/
def FnRefusalSurvivesTheWireToldWrongFalsely : Prop := Claim7.holds Tryf.pinned (.plain (OpenSpec.ofChange fnRefusalSurvivesTheWireWrong)) fnRefusalSurvivesTheWireCard

/-- THE TOLD CARD OF 'zzlaws_internal_wire_b1.FnLeaveEncodeReadsBackWithDecoder'. -/
def fnLeaveEncodeReadsBackWithDecoderCard : Claim7 := { stood := { row := fnLeaveEncodeReadsBackWithDecoderRow, standIns := [], harness := (true, "f381f6c1d88b140729b039f1cfcd40e51f4256ff2b3d3a125d50839a9e12d8f3"), looks := true }, told := true, goes := false }
def FnLeaveEncodeReadsBackWithDecoderToldSaid : Prop := Claim7.holds Tryf.pinned (.plain (OpenSpec.ofChange fnLeaveEncodeReadsBackWithDecoderSpec)) fnLeaveEncodeReadsBackWithDecoderCard
/-- ITS FALSE NEIGHBOUR. Refute it at one input. -/
def FnLeaveEncodeReadsBackWithDecoderToldWrongFalsely : Prop := Claim7.holds Tryf.pinned (.plain (OpenSpec.ofChange fnLeaveEncodeReadsBackWithDecoderWrong)) fnLeaveEncodeReadsBackWithDecoderCard

/-- THE TOLD CARD OF 'zzlaws_internal_wire_b1.FnShiftDecodeReadsWhatEncoderWrote'. -/
def fnShiftDecodeReadsWhatEncoderWroteCard : Claim7 := { stood := { row := fnShiftDecodeReadsWhatEncoderWroteRow, standIns := [], harness := (true, "f381f6c1d88b140729b039f1cfcd40e51f4256ff2b3d3a125d50839a9e12d8f3"), looks := true }, told := true, goes := false }
def FnShiftDecodeReadsWhatEncoderWroteToldSaid : Prop := Claim7.holds Tryf.pinned (.plain (OpenSpec.ofChange fnShiftDecodeReadsWhatEncoderWroteSpec)) fnShiftDecodeReadsWhatEncoderWroteCard
/-- ITS FALSE NEIGHBOUR. Refute it at one input. -/
def FnShiftDecodeReadsWhatEncoderWroteToldWrongFalsely : Prop := Claim7.holds Tryf.pinned (.plain (OpenSpec.ofChange fnShiftDecodeReadsWhatEncoderWroteWrong)) fnShiftDecodeReadsWhatEncoderWroteCard
end Rows
end Go.Proofs.Qxb6604739aFmt
