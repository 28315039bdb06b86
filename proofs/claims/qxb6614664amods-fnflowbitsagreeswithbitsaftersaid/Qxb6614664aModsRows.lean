/-
  No cell of these rows narrows 'for every input' (looked for: loops, veiled, ifaces, maps, wideKeys, modest, calm, conditions, laid).
  DERIVED. THE GIVEN ROWS OF THIS SEAT. 3 by the template 'for every input the law returns true; each argument reads behind the call as it read before'; 0 by the template 'total and deterministic' (their statements: Qxb6614664aModsTotals.lean).
  GIVEN WITH THE SEED: the statements are not yours to turn. If you find one false, say at which input.
  Laid BY PROGRAM, IN A SANDBOX (cutbox-rows.mjs): the forced cells as the released guide's own fill.sh prints them over the translation 18c601c4273b0387… (all of the seat's roots in one cut). By AI agents, Wed Nov 11 2026. No macro, syntax, notation, axiom, sorry.
-/
import Derived.Test.Qxb6614664aModsChecked
import GoSem.Claim
import GoSem.ClaimJoined
import GoSem.ClaimMapViews
import Derived.JoinedTies
import Derived.KernelRfl
namespace Go.Proofs.Qxb6614664aMods
/- THE CELL 'sum', in the pinned program and in every row, IS THE sha256 OF THE DUMP (.gsa) THAT Qxb6614664aModsProg.lean LOADS. Nothing in Lean hashes anything: it is a label: what it is worth is what the hold of that sum in a sandbox is worth. -/
noncomputable def Trym.pinned : Pinned := { name := "qxb6614664amods", sum := "18c601c4273b03877fa66f45cae4c881b0321b4868b22046ad21307adef2e9ff", checked := Trym.checked }
namespace Rows
def none {H : Type} : Left H := { results := [], args := [] }

/-- 'zzlaws_root_b1.FnFlowBitsIsTheHighestPrecisionRisenTo': WHATEVER THE INPUT: true; the input reads as it did. -/
def fnFlowBitsIsTheHighestPrecisionRisenToSpec : ChangeSpec := { name := "fnFlowBitsIsTheHighestPrecisionRisenTo", fn := fun _ => fun
  | [d1, d2] => { results := [.lit (.bool true)], args := [d1, d2] }
  | _ => none }
def fnFlowBitsIsTheHighestPrecisionRisenToRow : OpenClaim := { program := "qxb6614664amods", sum := "18c601c4273b03877fa66f45cae4c881b0321b4868b22046ad21307adef2e9ff", func := "example.com/prorata/prorata/zzlaws_root_b1.FnFlowBitsIsTheHighestPrecisionRisenTo", spec := "fnFlowBitsIsTheHighestPrecisionRisenTo", make := .lifted ["publicsums"], apart := false }
def FnFlowBitsIsTheHighestPrecisionRisenToSaid : Prop := fnFlowBitsIsTheHighestPrecisionRisenToRow.holds Trym.pinned (OpenSpec.ofChange fnFlowBitsIsTheHighestPrecisionRisenToSpec)

/-- ITS FALSE NEIGHBOUR: 'it returns false'. Refute it at one input. -/
def fnFlowBitsIsTheHighestPrecisionRisenToWrong : ChangeSpec := { name := "fnFlowBitsIsTheHighestPrecisionRisenTo", fn := fun _ => fun
  | [d1, d2] => { results := [.lit (.bool false)], args := [d1, d2] }
  | _ => none }
def FnFlowBitsIsTheHighestPrecisionRisenToWrongFalsely : Prop := fnFlowBitsIsTheHighestPrecisionRisenToRow.holds Trym.pinned (OpenSpec.ofChange fnFlowBitsIsTheHighestPrecisionRisenToWrong)

/-- 'zzlaws_root_b1.FnFlowBitsAgreesWithBitsAfter': WHATEVER THE INPUT: true; the input reads as it did. -/
def fnFlowBitsAgreesWithBitsAfterSpec : ChangeSpec := { name := "fnFlowBitsAgreesWithBitsAfter", fn := fun _ => fun
  | [d1, d2] => { results := [.lit (.bool true)], args := [d1, d2] }
  | _ => none }
def fnFlowBitsAgreesWithBitsAfterRow : OpenClaim := { program := "qxb6614664amods", sum := "18c601c4273b03877fa66f45cae4c881b0321b4868b22046ad21307adef2e9ff", func := "example.com/prorata/prorata/zzlaws_root_b1.FnFlowBitsAgreesWithBitsAfter", spec := "fnFlowBitsAgreesWithBitsAfter", make := .lifted ["publicsums"], apart := false }
def FnFlowBitsAgreesWithBitsAfterSaid : Prop := fnFlowBitsAgreesWithBitsAfterRow.holds Trym.pinned (OpenSpec.ofChange fnFlowBitsAgreesWithBitsAfterSpec)

/-- ITS FALSE NEIGHBOUR: 'it returns false'. Refute it at one input. -/
def fnFlowBitsAgreesWithBitsAfterWrong : ChangeSpec := { name := "fnFlowBitsAgreesWithBitsAfter", fn := fun _ => fun
  | [d1, d2] => { results := [.lit (.bool false)], args := [d1, d2] }
  | _ => none }
def FnFlowBitsAgreesWithBitsAfterWrongFalsely : Prop := fnFlowBitsAgreesWithBitsAfterRow.holds Trym.pinned (OpenSpec.ofChange fnFlowBitsAgreesWithBitsAfterWrong)

/-- 'zzlaws_root_b1.FnNewCSVWriterOverItsOwnBufferSharesIt': WHATEVER THE INPUT: true; the input reads as it did. -/
def fnNewCSVWriterOverItsOwnBufferSharesItSpec : ChangeSpec := { name := "fnNewCSVWriterOverItsOwnBufferSharesIt", fn := fun _ => fun
  | [d] => { results := [.lit (.bool true)], args := [d] }
  | _ => none }
def fnNewCSVWriterOverItsOwnBufferSharesItRow : OpenClaim := { program := "qxb6614664amods", sum := "18c601c4273b03877fa66f45cae4c881b0321b4868b22046ad21307adef2e9ff", func := "example.com/prorata/prorata/zzlaws_root_b1.FnNewCSVWriterOverItsOwnBufferSharesIt", spec := "fnNewCSVWriterOverItsOwnBufferSharesIt", make := .lifted ["publicsums"], apart := false }
def FnNewCSVWriterOverItsOwnBufferSharesItSaid : Prop := fnNewCSVWriterOverItsOwnBufferSharesItRow.holds Trym.pinned (OpenSpec.ofChange fnNewCSVWriterOverItsOwnBufferSharesItSpec)

/-- ITS FALSE NEIGHBOUR: 'it returns false'. Refute it at one input. -/
def fnNewCSVWriterOverItsOwnBufferSharesItWrong : ChangeSpec := { name := "fnNewCSVWriterOverItsOwnBufferSharesIt", fn := fun _ => fun
  | [d] => { results := [.lit (.bool false)], args := [d] }
  | _ => none }
def FnNewCSVWriterOverItsOwnBufferSharesItWrongFalsely : Prop := fnNewCSVWriterOverItsOwnBufferSharesItRow.holds Trym.pinned (OpenSpec.ofChange fnNewCSVWriterOverItsOwnBufferSharesItWrong)

end Rows
end Go.Proofs.Qxb6614664aMods
