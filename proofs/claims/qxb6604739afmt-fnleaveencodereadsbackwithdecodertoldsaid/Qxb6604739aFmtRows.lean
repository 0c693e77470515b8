/-
  No cell of these rows narrows 'for every input' (looked for: loops, veiled, ifaces, maps, wideKeys, modest, calm, conditions, laid).
  DERIVED. THE GIVEN ROWS OF THIS SEAT. 3 by the template 'for every input the law returns true; each argument reads behind the call as it read before'; 0 by the template 'total and deterministic' (their statements: Qxb6604739aFmtTotals.lean).
  GIVEN WITH THE SEED: the statements are not yours to turn. If you find one false, say at which input.
  Laid BY PROGRAM, IN A SANDBOX (cutbox-rows.mjs): the forced cells as the released guide's own fill.sh prints them over the translation 2c32bdc574a0c850… (all of the seat's roots in one cut). By AI agents, Wed Nov 11 2026. No macro, syntax, notation, axiom, sorry.
-/
import Derived.Test.Qxb6604739aFmtChecked
import GoSem.Claim
import GoSem.ClaimJoined
import GoSem.ClaimMapViews
import Derived.JoinedTies
import Derived.KernelRfl
namespace Go.Proofs.Qxb6604739aFmt
/- THE CELL 'sum', in the pinned program and in every row, IS THE sha256 OF THE DUMP (.gsa) THAT Qxb6604739aFmtProg.lean LOADS. Nothing in Lean hashes anything: it is a label: what it is worth is what the hold of that sum in a sandbox is worth. -/
noncomputable def Tryf.pinned : Pinned := { name := "qxb6604739afmt", sum := "2c32bdc574a0c85059dd0ea7e5b8d70a6c5cf986be41d4015c036c33bbb9bfbb", checked := Tryf.checked }
namespace Rows
def none {H : Type} : Left H := { results := [], args := [] }

/-- 'zzlaws_internal_wire_b1.FnRefusalSurvivesTheWire': WHATEVER THE INPUT: true; the input reads as it did. -/
def fnRefusalSurvivesTheWireSpec : ChangeSpec := { name := "fnRefusalSurvivesTheWire", fn := fun _ => fun
  | [d1, d2] => { results := [.lit (.bool true)], args := [d1, d2] }
  | _ => none }
def fnRefusalSurvivesTheWireRow : OpenClaim := { program := "qxb6604739afmt", sum := "2c32bdc574a0c85059dd0ea7e5b8d70a6c5cf986be41d4015c036c33bbb9bfbb", func := "example.com/arbormesh/arbormesh/zzlaws_internal_wire_b1.FnRefusalSurvivesTheWire", spec := "fnRefusalSurvivesTheWire", stops := ["fmt.errorf"], inPlace := ["fmt.errorf"], apart := false }
/-- NO THEOREM (fmt's text is open here; it may be false): for the released tool's asking of the row's closed facts alone. THE STATEMENT IS 'FnRefusalSurvivesTheWireToldSaid' (Qxb6604739aFmtCards.lean). -/
def FnRefusalSurvivesTheWireFormAsk : Prop := fnRefusalSurvivesTheWireRow.holds Tryf.pinned (OpenSpec.ofChange fnRefusalSurvivesTheWireSpec)

/-- ITS FALSE NEIGHBOUR: 'it returns false'. Refute it at one input. -/
def fnRefusalSurvivesTheWireWrong : ChangeSpec := { name := "fnRefusalSurvivesTheWire", fn := fun _ => fun
  | [d1, d2] => { results := [.lit (.bool false)], args := [d1, d2] }
  | _ => none }
def FnRefusalSurvivesTheWireWrongFormAsk : Prop := fnRefusalSurvivesTheWireRow.holds Tryf.pinned (OpenSpec.ofChange fnRefusalSurvivesTheWireWrong)

/-- 'zzlaws_internal_wire_b1.FnLeaveEncodeReadsBackWithDecoder': WHATEVER THE INPUT: true; the input reads as it did. -/
def fnLeaveEncodeReadsBackWithDecoderSpec : ChangeSpec := { name := "fnLeaveEncodeReadsBackWithDecoder", fn := fun _ => fun
  | [d1, d2, d3, d4, d5, d6, d7, d8, d9] => { results := [.lit (.bool true)], args := [d1, d2, d3, d4, d5, d6, d7, d8, d9] }
  | _ => none }
def fnLeaveEncodeReadsBackWithDecoderRow : OpenClaim := { program := "qxb6604739afmt", sum := "2c32bdc574a0c85059dd0ea7e5b8d70a6c5cf986be41d4015c036c33bbb9bfbb", func := "example.com/arbormesh/arbormesh/zzlaws_internal_wire_b1.FnLeaveEncodeReadsBackWithDecoder", spec := "fnLeaveEncodeReadsBackWithDecoder", stops := ["fmt.errorf"], inPlace := ["fmt.errorf"], apart := false }
/-- NO THEOREM (fmt's text is open here; it may be false): for the released tool's asking of the row's closed facts alone. THE STATEMENT IS 'FnLeaveEncodeReadsBackWithDecoderToldSaid' (Qxb6604739aFmtCards.lean). -/
def FnLeaveEncodeReadsBackWithDecoderFormAsk : Prop := fnLeaveEncodeReadsBackWithDecoderRow.holds Tryf.pinned (OpenSpec.ofChange fnLeaveEncodeReadsBackWithDecoderSpec)

/-- ITS FALSE NEIGHBOUR: 'it returns false'. Refute it at one input. -/
def fnLeaveEncodeReadsBackWithDecoderWrong : ChangeSpec := { name := "fnLeaveEncodeReadsBackWithDecoder", fn := fun _ => fun
  | [d1, d2, d3, d4, d5, d6, d7, d8, d9] => { results := [.lit (.bool false)], args := [d1, d2, d3, d4, d5, d6, d7, d8, d9] }
  | _ => none }
def FnLeaveEncodeReadsBackWithDecoderWrongFormAsk : Prop := fnLeaveEncodeReadsBackWithDecoderRow.holds Tryf.pinned (OpenSpec.ofChange fnLeaveEncodeReadsBackWithDecoderWrong)

/-- 'zzlaws_internal_wire_b1.FnShiftDecodeReadsWhatEncoderWrote': WHATEVER THE INPUT: true; the input reads as it did. -/
def fnShiftDecodeReadsWhatEncoderWroteSpec : ChangeSpec := { name := "fnShiftDecodeReadsWhatEncoderWrote", fn := fun _ => fun
  | [d1, d2, d3, d4, d5, d6, d7] => { results := [.lit (.bool true)], args := [d1, d2, d3, d4, d5, d6, d7] }
  | _ => none }
def fnShiftDecodeReadsWhatEncoderWroteRow : OpenClaim := { program := "qxb6604739afmt", sum := "2c32bdc574a0c85059dd0ea7e5b8d70a6c5cf986be41d4015c036c33bbb9bfbb", func := "example.com/arbormesh/arbormesh/zzlaws_internal_wire_b1.FnShiftDecodeReadsWhatEncoderWrote", spec := "fnShiftDecodeReadsWhatEncoderWrote", stops := ["fmt.errorf"], inPlace := ["fmt.errorf"], apart := false }
/-- NO THEOREM (fmt's text is open here; it may be false): for the released tool's asking of the row's closed facts alone. THE STATEMENT IS 'FnShiftDecodeReadsWhatEncoderWroteToldSaid' (Qxb6604739aFmtCards.lean). -/
def FnShiftDecodeReadsWhatEncoderWroteFormAsk : Prop := fnShiftDecodeReadsWhatEncoderWroteRow.holds Tryf.pinned (OpenSpec.ofChange fnShiftDecodeReadsWhatEncoderWroteSpec)

/-- ITS FALSE NEIGHBOUR: 'it returns false'. Refute it at one input. -/
def fnShiftDecodeReadsWhatEncoderWroteWrong : ChangeSpec := { name := "fnShiftDecodeReadsWhatEncoderWrote", fn := fun _ => fun
  | [d1, d2, d3, d4, d5, d6, d7] => { results := [.lit (.bool false)], args := [d1, d2, d3, d4, d5, d6, d7] }
  | _ => none }
def FnShiftDecodeReadsWhatEncoderWroteWrongFormAsk : Prop := fnShiftDecodeReadsWhatEncoderWroteRow.holds Tryf.pinned (OpenSpec.ofChange fnShiftDecodeReadsWhatEncoderWroteWrong)

end Rows
end Go.Proofs.Qxb6604739aFmt
