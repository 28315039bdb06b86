/-
  No cell of these rows narrows 'for every input' (looked for: loops, veiled, ifaces, maps, wideKeys, modest, calm, conditions, laid).
  DERIVED. THE GIVEN ROWS OF THIS SEAT. 4 by the template 'for every input the law returns true; each argument reads behind the call as it read before'; 0 by the template 'total and deterministic' (their statements: Qxb6614682aModsTotals.lean).
  GIVEN WITH THE SEED: the statements are not yours to turn. If you find one false, say at which input.
  Laid BY PROGRAM, IN A SANDBOX (cutbox-rows.mjs): the forced cells as the released guide's own fill.sh prints them over the translation 8be8c1f0c0695540… (all of the seat's roots in one cut). By AI agents, Wed Nov 11 2026. No macro, syntax, notation, axiom, sorry.
-/
import Derived.Test.Qxb6614682aModsChecked
import GoSem.Claim
import GoSem.ClaimJoined
import GoSem.ClaimMapViews
import Derived.JoinedTies
import Derived.KernelRfl
namespace Go.Proofs.Qxb6614682aMods
/- THE CELL 'sum', in the pinned program and in every row, IS THE sha256 OF THE DUMP (.gsa) THAT Qxb6614682aModsProg.lean LOADS. Nothing in Lean hashes anything: it is a label: what it is worth is what the hold of that sum in a sandbox is worth. -/
noncomputable def Trym.pinned : Pinned := { name := "qxb6614682amods", sum := "8be8c1f0c0695540e195c69ae8ffbe18ebc459cea249a2191798f69889e64a25", checked := Trym.checked }
namespace Rows
def none {H : Type} : Left H := { results := [], args := [] }

/-- 'zzlaws_bsc_b1.FnHeldAlreadyMovesAlreadyUsed': WHATEVER THE INPUT: true; the input reads as it did. -/
def fnHeldAlreadyMovesAlreadyUsedSpec : ChangeSpec := { name := "fnHeldAlreadyMovesAlreadyUsed", fn := fun _ => fun
  | [d1, d2, d3, d4, d5, d6, d7, d8, d9] => { results := [.lit (.bool true)], args := [d1, d2, d3, d4, d5, d6, d7, d8, d9] }
  | _ => none }
def fnHeldAlreadyMovesAlreadyUsedRow : OpenClaim := { program := "qxb6614682amods", sum := "8be8c1f0c0695540e195c69ae8ffbe18ebc459cea249a2191798f69889e64a25", func := "example.com/tocsin/tocsin/zzlaws_bsc_b1.FnHeldAlreadyMovesAlreadyUsed", spec := "fnHeldAlreadyMovesAlreadyUsed", make := .lifted ["publicsums"], apart := false }
def FnHeldAlreadyMovesAlreadyUsedSaid : Prop := fnHeldAlreadyMovesAlreadyUsedRow.holds Trym.pinned (OpenSpec.ofChange fnHeldAlreadyMovesAlreadyUsedSpec)

/-- ITS FALSE NEIGHBOUR: 'it returns false'. Refute it at one input. -/
def fnHeldAlreadyMovesAlreadyUsedWrong : ChangeSpec := { name := "fnHeldAlreadyMovesAlreadyUsed", fn := fun _ => fun
  | [d1, d2, d3, d4, d5, d6, d7, d8, d9] => { results := [.lit (.bool false)], args := [d1, d2, d3, d4, d5, d6, d7, d8, d9] }
  | _ => none }
def FnHeldAlreadyMovesAlreadyUsedWrongFalsely : Prop := fnHeldAlreadyMovesAlreadyUsedRow.holds Trym.pinned (OpenSpec.ofChange fnHeldAlreadyMovesAlreadyUsedWrong)

/-- 'zzlaws_bsc_b1.FnHeldAlreadyInPieces': WHATEVER THE INPUT: true; the input reads as it did. -/
def fnHeldAlreadyInPiecesSpec : ChangeSpec := { name := "fnHeldAlreadyInPieces", fn := fun _ => fun
  | [d1, d2, d3, d4, d5, d6, d7, d8, d9, d10] => { results := [.lit (.bool true)], args := [d1, d2, d3, d4, d5, d6, d7, d8, d9, d10] }
  | _ => none }
def fnHeldAlreadyInPiecesRow : OpenClaim := { program := "qxb6614682amods", sum := "8be8c1f0c0695540e195c69ae8ffbe18ebc459cea249a2191798f69889e64a25", func := "example.com/tocsin/tocsin/zzlaws_bsc_b1.FnHeldAlreadyInPieces", spec := "fnHeldAlreadyInPieces", make := .lifted ["publicsums"], apart := false }
def FnHeldAlreadyInPiecesSaid : Prop := fnHeldAlreadyInPiecesRow.holds Trym.pinned (OpenSpec.ofChange fnHeldAlreadyInPiecesSpec)

/-- ITS FALSE NEIGHBOUR: 'it returns false'. Refute it at one input. -/
def fnHeldAlreadyInPiecesWrong : ChangeSpec := { name := "fnHeldAlreadyInPieces", fn := fun _ => fun
  | [d1, d2, d3, d4, d5, d6, d7, d8, d9, d10] => { results := [.lit (.bool false)], args := [d1, d2, d3, d4, d5, d6, d7, d8, d9, d10] }
  | _ => none }
def FnHeldAlreadyInPiecesWrongFalsely : Prop := fnHeldAlreadyInPiecesRow.holds Trym.pinned (OpenSpec.ofChange fnHeldAlreadyInPiecesWrong)

/-- 'zzlaws_bsc_b1.FnWaiterAnswersSymmetricReflexive': WHATEVER THE INPUT: true; the input reads as it did. -/
def fnWaiterAnswersSymmetricReflexiveSpec : ChangeSpec := { name := "fnWaiterAnswersSymmetricReflexive", fn := fun _ => fun
  | [d1, d2] => { results := [.lit (.bool true)], args := [d1, d2] }
  | _ => none }
def fnWaiterAnswersSymmetricReflexiveRow : OpenClaim := { program := "qxb6614682amods", sum := "8be8c1f0c0695540e195c69ae8ffbe18ebc459cea249a2191798f69889e64a25", func := "example.com/tocsin/tocsin/zzlaws_bsc_b1.FnWaiterAnswersSymmetricReflexive", spec := "fnWaiterAnswersSymmetricReflexive", make := .lifted ["publicsums"], apart := false }
def FnWaiterAnswersSymmetricReflexiveSaid : Prop := fnWaiterAnswersSymmetricReflexiveRow.holds Trym.pinned (OpenSpec.ofChange fnWaiterAnswersSymmetricReflexiveSpec)

/-- ITS FALSE NEIGHBOUR: 'it returns false'. Refute it at one input. -/
def fnWaiterAnswersSymmetricReflexiveWrong : ChangeSpec := { name := "fnWaiterAnswersSymmetricReflexive", fn := fun _ => fun
  | [d1, d2] => { results := [.lit (.bool false)], args := [d1, d2] }
  | _ => none }
def FnWaiterAnswersSymmetricReflexiveWrongFalsely : Prop := fnWaiterAnswersSymmetricReflexiveRow.holds Trym.pinned (OpenSpec.ofChange fnWaiterAnswersSymmetricReflexiveWrong)

/-- 'zzlaws_bsc_b1.FnWaiterAnswersOneVersion': WHATEVER THE INPUT: true; the input reads as it did. -/
def fnWaiterAnswersOneVersionSpec : ChangeSpec := { name := "fnWaiterAnswersOneVersion", fn := fun _ => fun
  | [d] => { results := [.lit (.bool true)], args := [d] }
  | _ => none }
def fnWaiterAnswersOneVersionRow : OpenClaim := { program := "qxb6614682amods", sum := "8be8c1f0c0695540e195c69ae8ffbe18ebc459cea249a2191798f69889e64a25", func := "example.com/tocsin/tocsin/zzlaws_bsc_b1.FnWaiterAnswersOneVersion", spec := "fnWaiterAnswersOneVersion", make := .lifted ["publicsums"], apart := false }
def FnWaiterAnswersOneVersionSaid : Prop := fnWaiterAnswersOneVersionRow.holds Trym.pinned (OpenSpec.ofChange fnWaiterAnswersOneVersionSpec)

/-- ITS FALSE NEIGHBOUR: 'it returns false'. Refute it at one input. -/
def fnWaiterAnswersOneVersionWrong : ChangeSpec := { name := "fnWaiterAnswersOneVersion", fn := fun _ => fun
  | [d] => { results := [.lit (.bool false)], args := [d] }
  | _ => none }
def FnWaiterAnswersOneVersionWrongFalsely : Prop := fnWaiterAnswersOneVersionRow.holds Trym.pinned (OpenSpec.ofChange fnWaiterAnswersOneVersionWrong)

end Rows
end Go.Proofs.Qxb6614682aMods
