/-
  No cell of these rows narrows 'for every input' (looked for: loops, veiled, ifaces, maps, wideKeys, modest, calm, conditions, laid).
  DERIVED. THE GIVEN ROWS OF THIS SEAT. 3 by the template 'for every input the law returns true; each argument reads behind the call as it read before'; 0 by the template 'total and deterministic' (their statements: Qxb6616257aModsTotals.lean).
  GIVEN WITH THE SEED: the statements are not yours to turn. If you find one false, say at which input.
  Laid BY PROGRAM, IN A SANDBOX (cutbox-rows.mjs): the forced cells as the released guide's own fill.sh prints them over the translation af55817892304933… (all of the seat's roots in one cut). By AI agents, Wed Nov 11 2026. No macro, syntax, notation, axiom, sorry.
-/
import Derived.Test.Qxb6616257aModsChecked
import GoSem.Claim
import GoSem.ClaimJoined
import GoSem.ClaimMapViews
import Derived.JoinedTies
import Derived.KernelRfl
namespace Go.Proofs.Qxb6616257aMods
/- THE CELL 'sum', in the pinned program and in every row, IS THE sha256 OF THE DUMP (.gsa) THAT Qxb6616257aModsProg.lean LOADS. Nothing in Lean hashes anything: it is a label: what it is worth is what the hold of that sum in a sandbox is worth. -/
noncomputable def Trym.pinned : Pinned := { name := "qxb6616257amods", sum := "af55817892304933f06bdb179a577c91342393aced4ccfef424a09d8c9fe9b75", checked := Trym.checked }
namespace Rows
def none {H : Type} : Left H := { results := [], args := [] }

/-- 'zzlaws_root_b1.FnChangeIsInlineDownwardInLengthNeverWhenEmptied': WHATEVER THE INPUT: true; the input reads as it did. -/
def fnChangeIsInlineDownwardInLengthNeverWhenEmptiedSpec : ChangeSpec := { name := "fnChangeIsInlineDownwardInLengthNeverWhenEmptied", fn := fun _ => fun
  | [d1, d2, d3, d4] => { results := [.lit (.bool true)], args := [d1, d2, d3, d4] }
  | _ => none }
def fnChangeIsInlineDownwardInLengthNeverWhenEmptiedRow : OpenClaim := { program := "qxb6616257amods", sum := "af55817892304933f06bdb179a577c91342393aced4ccfef424a09d8c9fe9b75", func := "example.com/xorweave/xorweave/zzlaws_root_b1.FnChangeIsInlineDownwardInLengthNeverWhenEmptied", spec := "fnChangeIsInlineDownwardInLengthNeverWhenEmptied", make := .lifted ["publicsums"], apart := false }
def FnChangeIsInlineDownwardInLengthNeverWhenEmptiedSaid : Prop := fnChangeIsInlineDownwardInLengthNeverWhenEmptiedRow.holds Trym.pinned (OpenSpec.ofChange fnChangeIsInlineDownwardInLengthNeverWhenEmptiedSpec)

/-- ITS FALSE NEIGHBOUR: 'it returns false'. Refute it at one input. -/
def fnChangeIsInlineDownwardInLengthNeverWhenEmptiedWrong : ChangeSpec := { name := "fnChangeIsInlineDownwardInLengthNeverWhenEmptied", fn := fun _ => fun
  | [d1, d2, d3, d4] => { results := [.lit (.bool false)], args := [d1, d2, d3, d4] }
  | _ => none }
def FnChangeIsInlineDownwardInLengthNeverWhenEmptiedWrongFalsely : Prop := fnChangeIsInlineDownwardInLengthNeverWhenEmptiedRow.holds Trym.pinned (OpenSpec.ofChange fnChangeIsInlineDownwardInLengthNeverWhenEmptiedWrong)

/-- 'zzlaws_root_b1.FnLeastSimMemoryAgainstAPerNodeModel': WHATEVER THE INPUT: true; the input reads as it did. -/
def fnLeastSimMemoryAgainstAPerNodeModelSpec : ChangeSpec := { name := "fnLeastSimMemoryAgainstAPerNodeModel", fn := fun _ => fun
  | [d1, d2] => { results := [.lit (.bool true)], args := [d1, d2] }
  | _ => none }
def fnLeastSimMemoryAgainstAPerNodeModelRow : OpenClaim := { program := "qxb6616257amods", sum := "af55817892304933f06bdb179a577c91342393aced4ccfef424a09d8c9fe9b75", func := "example.com/xorweave/xorweave/zzlaws_root_b1.FnLeastSimMemoryAgainstAPerNodeModel", spec := "fnLeastSimMemoryAgainstAPerNodeModel", inPlace := ["math.Float64bits", "math.Float64frombits", "math.archLog"], make := .lifted ["publicsums"], apart := false }
def FnLeastSimMemoryAgainstAPerNodeModelSaid : Prop := fnLeastSimMemoryAgainstAPerNodeModelRow.holds Trym.pinned (OpenSpec.ofChange fnLeastSimMemoryAgainstAPerNodeModelSpec)

/-- ITS FALSE NEIGHBOUR: 'it returns false'. Refute it at one input. -/
def fnLeastSimMemoryAgainstAPerNodeModelWrong : ChangeSpec := { name := "fnLeastSimMemoryAgainstAPerNodeModel", fn := fun _ => fun
  | [d1, d2] => { results := [.lit (.bool false)], args := [d1, d2] }
  | _ => none }
def FnLeastSimMemoryAgainstAPerNodeModelWrongFalsely : Prop := fnLeastSimMemoryAgainstAPerNodeModelRow.holds Trym.pinned (OpenSpec.ofChange fnLeastSimMemoryAgainstAPerNodeModelWrong)

/-- 'zzlaws_root_b1.FnLeastSimMemoryEachNodeAddsAtLeastItsOwn': WHATEVER THE INPUT: true; the input reads as it did. -/
def fnLeastSimMemoryEachNodeAddsAtLeastItsOwnSpec : ChangeSpec := { name := "fnLeastSimMemoryEachNodeAddsAtLeastItsOwn", fn := fun _ => fun
  | [d1, d2] => { results := [.lit (.bool true)], args := [d1, d2] }
  | _ => none }
def fnLeastSimMemoryEachNodeAddsAtLeastItsOwnRow : OpenClaim := { program := "qxb6616257amods", sum := "af55817892304933f06bdb179a577c91342393aced4ccfef424a09d8c9fe9b75", func := "example.com/xorweave/xorweave/zzlaws_root_b1.FnLeastSimMemoryEachNodeAddsAtLeastItsOwn", spec := "fnLeastSimMemoryEachNodeAddsAtLeastItsOwn", inPlace := ["math.Float64bits", "math.Float64frombits", "math.archLog"], make := .lifted ["publicsums"], apart := false }
def FnLeastSimMemoryEachNodeAddsAtLeastItsOwnSaid : Prop := fnLeastSimMemoryEachNodeAddsAtLeastItsOwnRow.holds Trym.pinned (OpenSpec.ofChange fnLeastSimMemoryEachNodeAddsAtLeastItsOwnSpec)

/-- ITS FALSE NEIGHBOUR: 'it returns false'. Refute it at one input. -/
def fnLeastSimMemoryEachNodeAddsAtLeastItsOwnWrong : ChangeSpec := { name := "fnLeastSimMemoryEachNodeAddsAtLeastItsOwn", fn := fun _ => fun
  | [d1, d2] => { results := [.lit (.bool false)], args := [d1, d2] }
  | _ => none }
def FnLeastSimMemoryEachNodeAddsAtLeastItsOwnWrongFalsely : Prop := fnLeastSimMemoryEachNodeAddsAtLeastItsOwnRow.holds Trym.pinned (OpenSpec.ofChange fnLeastSimMemoryEachNodeAddsAtLeastItsOwnWrong)

end Rows
end Go.Proofs.Qxb6616257aMods
