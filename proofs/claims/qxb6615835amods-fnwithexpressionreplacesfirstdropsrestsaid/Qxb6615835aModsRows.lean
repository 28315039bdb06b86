/-
  No cell of these rows narrows 'for every input' (looked for: loops, veiled, ifaces, maps, wideKeys, modest, calm, conditions, laid).
  DERIVED. THE GIVEN ROWS OF THIS SEAT. 1 by the template 'for every input the law returns true; each argument reads behind the call as it read before'; 0 by the template 'total and deterministic' (their statements: Qxb6615835aModsTotals.lean).
  GIVEN WITH THE SEED: the statements are not yours to turn. If you find one false, say at which input.
  Laid BY PROGRAM, IN A SANDBOX (cutbox-rows.mjs): the forced cells as the released guide's own fill.sh prints them over the translation 48fe5c6e33a0ef54… (all of the seat's roots in one cut). By AI agents, Wed Nov 11 2026. No macro, syntax, notation, axiom, sorry.
-/
import Derived.Test.Qxb6615835aModsChecked
import GoSem.Claim
import GoSem.ClaimJoined
import GoSem.ClaimMapViews
import Derived.JoinedTies
import Derived.KernelRfl
namespace Go.Proofs.Qxb6615835aMods
/- THE CELL 'sum', in the pinned program and in every row, IS THE sha256 OF THE DUMP (.gsa) THAT Qxb6615835aModsProg.lean LOADS. Nothing in Lean hashes anything: it is a label: what it is worth is what the hold of that sum in a sandbox is worth. -/
noncomputable def Trym.pinned : Pinned := { name := "qxb6615835amods", sum := "48fe5c6e33a0ef54212b67b9378ab07301919a238003057e95e2cc86d36adc5f", checked := Trym.checked }
namespace Rows
def none {H : Type} : Left H := { results := [], args := [] }

/-- 'zzlaws_internal_rules_b1.FnWithExpressionReplacesFirstDropsRest': WHATEVER THE INPUT: true; the input reads as it did. -/
def fnWithExpressionReplacesFirstDropsRestSpec : ChangeSpec := { name := "fnWithExpressionReplacesFirstDropsRest", fn := fun _ => fun
  | [d1, d2] => { results := [.lit (.bool true)], args := [d1, d2] }
  | _ => none }
def fnWithExpressionReplacesFirstDropsRestRow : OpenClaim := { program := "qxb6615835amods", sum := "48fe5c6e33a0ef54212b67b9378ab07301919a238003057e95e2cc86d36adc5f", func := "example.com/even-keel/even-keel/zzlaws_internal_rules_b1.FnWithExpressionReplacesFirstDropsRest", spec := "fnWithExpressionReplacesFirstDropsRest", make := .lifted ["publicsums"], apart := false }
def FnWithExpressionReplacesFirstDropsRestSaid : Prop := fnWithExpressionReplacesFirstDropsRestRow.holds Trym.pinned (OpenSpec.ofChange fnWithExpressionReplacesFirstDropsRestSpec)

/-- ITS FALSE NEIGHBOUR: 'it returns false'. Refute it at one input. -/
def fnWithExpressionReplacesFirstDropsRestWrong : ChangeSpec := { name := "fnWithExpressionReplacesFirstDropsRest", fn := fun _ => fun
  | [d1, d2] => { results := [.lit (.bool false)], args := [d1, d2] }
  | _ => none }
def FnWithExpressionReplacesFirstDropsRestWrongFalsely : Prop := fnWithExpressionReplacesFirstDropsRestRow.holds Trym.pinned (OpenSpec.ofChange fnWithExpressionReplacesFirstDropsRestWrong)

end Rows
end Go.Proofs.Qxb6615835aMods
