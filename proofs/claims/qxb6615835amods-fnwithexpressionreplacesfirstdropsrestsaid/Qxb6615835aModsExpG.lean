import Derived.Test.Qxb6615835aModsExpF
import Derived.ProofKit
import Derived.OpenShut
import Derived.ShutString
import Derived.ChangeOld
import Derived.SliceStrings
namespace Go.Proofs.Qxb6615835aMods
open Go.ChangeShapes Go.WideShapes Go.ChangeAt Go.RowKit
set_option linter.unusedVariables false
namespace fnWithExpressionReplacesFirstDropsRest

theorem own : ownKnob Trym.prog.godebug = none := by kernel_rfl
theorem laidOut : laidOutB Trym.prog = true := by kernel_rfl
theorem cells9 : Trym.prog.cellsOf 9 = 1 := by kernel_rfl

theorem walk (ao : Option Addr) (n cap : Nat) (K : Nat → ByteArray) (key : ByteArray) (w : World) (hnil : ao = none → n = 0 ∧ cap = 0) (hK : Keys w ao n K) :
    Calls Trym.prog 3 #[.slice ao n cap, .string key] w fun e w' => e = .returned (.bool true) ∧ Below w.heap.size w w' := by
  by_cases h : 65536 < n ∨ 1048576 < key.size
  · exact law_long ao n cap K key w hK h
  · exact law_in ao n cap K key w hnil hK (by omega) (by omega)

set_option maxRecDepth 100000 in
set_option maxHeartbeats 1600000 in
theorem lifted (os : Os) (started : os.Started) (H : Type) (enc : TypeId × Value → H) :
    ReturnsInHanded {} Trym.checked os 3 .any (Rows.fnWithExpressionReplacesFirstDropsRestSpec.pre6 enc Trym.prog Trym.f3 Rows.fnWithExpressionReplacesFirstDropsRestRow.domain false) (Rows.fnWithExpressionReplacesFirstDropsRestSpec.post enc Trym.prog Trym.f3 false true false false) := by
  refine returnsInHanded_of_change (C := Trym.checked) own started (by kernel_rfl) Trym.func3
    (ChangeSpec.witness6 (enc := enc) (C := Trym.checked) false ⟨#[], #[.slice none 0 0, .string ⟨#[]⟩], []⟩ 8 (by kernel_rfl) (by kernel_rfl) (by kernel_rfl) (by kernel_rfl)) ?_
  intro W base args ds gs before hval0 hW hcnd _
  have hval : ∀ (j : Nat) t v, Trym.f3.params[j]? = some t → args[j]? = some v → Value.okWide Trym.prog W .any base t v := hval0
  have hW' := hW
  obtain ⟨p, q, hA0, hV, rfl, hfz, hnd⟩ := hW
  have hA : DataW.TrodAll enc Trym.prog W 0 (fun _ => true) true Trym.f3.params.toList args.toList ds p := hA0
  rw [Trym.params3] at hA hval
  obtain ⟨v0, vs0, d0, ds0, p0, q0, hargs, rfl, rfl, h0, r0⟩ := trodAll_cons hA
  obtain ⟨v1, vs1, d1, ds1, p1, q1, rfl, rfl, rfl, h1, r1⟩ := trodAll_cons r0
  obtain ⟨rfl, rfl, rfl⟩ := trodAll_nil r1
  obtain rfl : args = #[v0, v1] := by cases args; simp_all
  obtain ⟨rfl, rfl⟩ := trodVars_none hV
  obtain ⟨a0, len0, cap0, rfl⟩ := okWide_slice Trym.underlying22 (hval 0 22 v0 rfl rfl)
  have k0 := h0
  have lt0 : ∀ x ∈ p0, x.block < W.heap.size := by obtain ⟨m, hm⟩ := k0; exact DataW.trod_lt m _ _ _ hm
  obtain ⟨w0, K, hK⟩ : (a0 = none → len0 = 0 ∧ cap0 = 0) ∧ ∃ K, Keys W a0 len0 K := by
    obtain ⟨fuel, hf⟩ := h0
    rcases open_strings Trym.underlying22 Trym.underlying9 cells9 hf with ⟨hcs, _⟩ | ⟨a, len, cap, ss, hcs, _, hl, hm, hz, _, hcell, _⟩
    · simp [Value.cells] at hcs
      obtain ⟨rfl, rfl, rfl⟩ := hcs
      exact ⟨(fun _ => ⟨rfl, rfl⟩), (fun _ => ByteArray.empty), 0, 0, (fun h => by omega), (fun j hj => by omega)⟩
    · simp [Value.cells] at hcs
      obtain ⟨rfl, rfl, rfl⟩ := hcs
      simp only [if_true] at hz
      refine ⟨(fun h => by cases h), (fun j => ss.getD j ByteArray.empty), a.block, a.off, fun hpos => ?_, fun j hj => ?_⟩
      · have hs := World.cell?_spot (hcell 0 (by omega))
        simp [Addr.add] at hs
        cases a; simp_all
      · have hs := World.cell?_spot (hcell 0 (by omega))
        simp [Addr.add] at hs
        obtain ⟨b, off, spot⟩ := a
        simp only at hs
        subst hs
        have := hcell j (by omega)
        rw [Addr.add_mid] at this
        exact this
  obtain ⟨a1, rfl, rfl, rfl, w1⟩ := Go.ChangeMaps.open_string Trym.underlying9 (hval 1 9 v1 rfl rfl) h1
  clear hA0 hval0
  refine (walk a0 len0 cap0 K a1 W w0 hK).mono fun e W' ⟨he, bel⟩ => ?_
  subst he
  exact ⟨_, rfl, _, _, _, [], _, [], hW', trodAll_mk1 (shut_bool Trym.underlying4 _), (trodAll_cons_mk (Below.trod laidOut (by kernel_rfl) (of_decide_eq_true (by kernel_rfl)) k0 bel lt0) (trodAll_cons_mk (Go.ChangeMaps.shut_string Trym.underlying9 w1) trodAll_mk0)), rfl, bel.frame _, fun h => by cases h⟩

theorem over : Rows.fnWithExpressionReplacesFirstDropsRestRow.holds Trym.pinned (OpenSpec.ofChange Rows.fnWithExpressionReplacesFirstDropsRestSpec) :=
  OpenClaim.holds_of_wide 3 Trym.f3 rfl rfl rfl rfl rfl rfl rfl ⟨rfl, rfl, rfl, rfl, rfl⟩ rfl rfl rfl rfl rfl (by kernel_rfl) Trym.func3 (by kernel_rfl)
    (of_decide_eq_true (by kernel_rfl)) (by unfold Func.isWrapper; first | (rw [if_pos (by decide +kernel)]; kernel_rfl) | (rw [if_neg (by decide +kernel)]; exact ⟨rfl, rfl⟩))
    (fun os started H enc _ => lifted os started H enc)
end fnWithExpressionReplacesFirstDropsRest

/-- THE STATEMENT -/
theorem withExpressionReplacesFirstDropsRest_proved : Rows.FnWithExpressionReplacesFirstDropsRestSaid := fnWithExpressionReplacesFirstDropsRest.over
end Go.Proofs.Qxb6615835aMods
