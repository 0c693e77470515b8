/-
  No cell of these rows narrows 'for every input' (looked for: loops, veiled, ifaces, maps, wideKeys, modest, calm, conditions, laid).
  DERIVED. THE GIVEN ROWS OF THIS SEAT. 1 by the template 'for every input the law returns true; each argument reads behind the call as it read before'; 0 by the template 'total and deterministic' (their statements: Qxb6604739aTotals.lean).
  GIVEN WITH THE SEED: the statements are not yours to turn. If you find one false, say at which input.
  Laid BY PROGRAM, IN A SANDBOX (cutbox-rows.mjs): the forced cells as the released guide's own fill.sh prints them over the translation 9e1964658a1b8e25… (all of the seat's roots in one cut). By AI agents, Wed Nov 11 2026. No macro, syntax, notation, axiom, sorry.
-/
import Derived.Test.Qxb6604739aChecked
import GoSem.Claim
import GoSem.ClaimJoined
import GoSem.ClaimMapViews
import Derived.JoinedTies
import Derived.KernelRfl
namespace Go.Proofs.Qxb6604739a
/- THE CELL 'sum', in the pinned program and in every row, IS THE sha256 OF THE DUMP (.gsa) THAT Qxb6604739aProg.lean LOADS. Nothing in Lean hashes anything: it is a label: what it is worth is what the hold of that sum in a sandbox is worth. -/
noncomputable def Try.pinned : Pinned := { name := "qxb6604739a", sum := "9e1964658a1b8e258f3a573971dc86a57b0bd8e8664dbe1f0a2df71d61fb0d7f", checked := Try.checked }
namespace Rows
def none {H : Type} : Left H := { results := [], args := [] }

/-- 'zzlaws_internal_wire_b1.FnLeaveEncodeParsesBackExactly': WHATEVER THE INPUT: true; the input reads as it did. -/
def fnLeaveEncodeParsesBackExactlySpec : ChangeSpec := { name := "fnLeaveEncodeParsesBackExactly", fn := fun _ => fun
  | [d1, d2, d3, d4, d5, d6, d7, d8, d9, d10] => { results := [.lit (.bool true)], args := [d1, d2, d3, d4, d5, d6, d7, d8, d9, d10] }
  | _ => none }
def fnLeaveEncodeParsesBackExactlyRow : OpenClaim := { program := "qxb6604739a", sum := "9e1964658a1b8e258f3a573971dc86a57b0bd8e8664dbe1f0a2df71d61fb0d7f", func := "example.com/arbormesh/arbormesh/zzlaws_internal_wire_b1.FnLeaveEncodeParsesBackExactly", spec := "fnLeaveEncodeParsesBackExactly", apart := false }
def FnLeaveEncodeParsesBackExactlySaid : Prop := fnLeaveEncodeParsesBackExactlyRow.holds Try.pinned (OpenSpec.ofChange fnLeaveEncodeParsesBackExactlySpec)

/-- ITS FALSE NEIGHBOUR: 'it returns false'. Refute it at one input. -/
def fnLeaveEncodeParsesBackExactlyWrong : ChangeSpec := { name := "fnLeaveEncodeParsesBackExactly", fn := fun _ => fun
  | [d1, d2, d3, d4, d5, d6, d7, d8, d9, d10] => { results := [.lit (.bool false)], args := [d1, d2, d3, d4, d5, d6, d7, d8, d9, d10] }
  | _ => none }
def FnLeaveEncodeParsesBackExactlyWrongFalsely : Prop := fnLeaveEncodeParsesBackExactlyRow.holds Try.pinned (OpenSpec.ofChange fnLeaveEncodeParsesBackExactlyWrong)

end Rows
end Go.Proofs.Qxb6604739a
