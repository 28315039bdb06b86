import Derived.Test.Qxb6614682aModsWaitB
import Derived.ProofKit
import Derived.OpenShut
import Derived.ShutString
import Derived.ChangeOld
namespace Go.Proofs.Qxb6614682aMods
open Go.ChangeShapes Go.WideShapes Go.ChangeAt Go.RowKit
set_option linter.unusedVariables false
namespace fnWaiterAnswersSymmetricReflexive

theorem own : ownKnob Trym.prog.godebug = none := by kernel_rfl
theorem laidOut : laidOutB Trym.prog = true := by kernel_rfl
theorem cells22 : Trym.prog.cellsOf 22 = 1 := by kernel_rfl
theorem bounds16 {v : Int} (h : (Lit.int .u16 v).wf = true) : 0 ≤ v ∧ v < 65536 := by
  simp [Lit.wf, IntKind.min, IntKind.max, IntKind.signed, IntKind.bits] at h
  exact ⟨by omega, by omega⟩

set_option maxRecDepth 100000 in
theorem lifted (os : Os) (started : os.Started) (H : Type) (enc : TypeId × Value → H) :
    ReturnsInHanded {} Trym.checked os 5 .any (Rows.fnWaiterAnswersSymmetricReflexiveSpec.pre6 enc Trym.prog Trym.f5 Rows.fnWaiterAnswersSymmetricReflexiveRow.domain false) (Rows.fnWaiterAnswersSymmetricReflexiveSpec.post enc Trym.prog Trym.f5 false true false false) := by
  refine returnsInHanded_of_change (C := Trym.checked) own started (by kernel_rfl) Trym.func5
    (ChangeSpec.witness6 (enc := enc) (C := Trym.checked) false ⟨#[], #[.pointer none, .pointer none], []⟩ 8 (by kernel_rfl) (by kernel_rfl) (by kernel_rfl) (by kernel_rfl)) ?_
  intro W base args ds gs before hval0 hW hcnd _
  have hval : ∀ (j : Nat) t v, Trym.f5.params[j]? = some t → args[j]? = some v → Value.okWide Trym.prog W .any base t v := hval0
  have hW' := hW
  obtain ⟨p, q, hA0, hV, rfl, hfz, hnd⟩ := hW
  have hA : DataW.TrodAll enc Trym.prog W 0 (fun _ => true) true Trym.f5.params.toList args.toList ds p := hA0
  rw [Trym.params5] at hA hval
  obtain ⟨v0, vs0, d0, ds0, p0, q0, hargs, rfl, rfl, h0, r0⟩ := trodAll_cons hA
  obtain ⟨v1, vs1, d1, ds1, p1, q1, rfl, rfl, rfl, h1, r1⟩ := trodAll_cons r0
  obtain ⟨rfl, rfl, rfl⟩ := trodAll_nil r1
  obtain rfl : args = #[v0, v1] := by cases args; simp_all
  obtain ⟨rfl, rfl⟩ := trodVars_none hV
  obtain ⟨a0, rfl⟩ : ∃ a, v0 = .pointer a := by
    rcases open_ptr_int Trym.underlying23 Trym.underlying22 cells22 (hval 0 23 v0 rfl rfl) h0 with ⟨h, _, _⟩ | ⟨b, off, n, h, _, _, _, _⟩ <;> exact ⟨_, h⟩
  have k0 := h0
  have lt0 : ∀ x ∈ p0, x.block < W.heap.size := by obtain ⟨m, hm⟩ := k0; exact DataW.trod_lt m _ _ _ hm
  obtain ⟨x0, xb0, w0⟩ : ∃ x, (∀ v, x = some v → 0 ≤ v ∧ v < 65536) ∧ At W a0 x := by
    rcases open_ptr_int Trym.underlying23 Trym.underlying22 cells22 (hval 0 23 (.pointer a0) rfl rfl) h0 with ⟨h, _, _⟩ | ⟨b, off, n, h, _, _, hcell, wn⟩
    · cases h
      exact ⟨none, fun v hv => (by cases hv), .inl ⟨rfl, rfl⟩⟩
    · cases h
      exact ⟨some n, fun v hv => (by cases hv; exact bounds16 wn), .inr ⟨b, off, n, rfl, rfl, hcell⟩⟩
  obtain ⟨a1, rfl⟩ : ∃ a, v1 = .pointer a := by
    rcases open_ptr_int Trym.underlying23 Trym.underlying22 cells22 (hval 1 23 v1 rfl rfl) h1 with ⟨h, _, _⟩ | ⟨b, off, n, h, _, _, _, _⟩ <;> exact ⟨_, h⟩
  have k1 := h1
  have lt1 : ∀ x ∈ p1, x.block < W.heap.size := by obtain ⟨m, hm⟩ := k1; exact DataW.trod_lt m _ _ _ hm
  obtain ⟨x1, xb1, w1⟩ : ∃ x, (∀ v, x = some v → 0 ≤ v ∧ v < 65536) ∧ At W a1 x := by
    rcases open_ptr_int Trym.underlying23 Trym.underlying22 cells22 (hval 1 23 (.pointer a1) rfl rfl) h1 with ⟨h, _, _⟩ | ⟨b, off, n, h, _, _, hcell, wn⟩
    · cases h
      exact ⟨none, fun v hv => (by cases hv), .inl ⟨rfl, rfl⟩⟩
    · cases h
      exact ⟨some n, fun v hv => (by cases hv; exact bounds16 wn), .inr ⟨b, off, n, rfl, rfl, hcell⟩⟩
  clear hA0 hval0
  refine (symm_walk a0 a1 x0 x1 W w0 w1).mono fun e W' ⟨he, bel⟩ => ?_
  subst he
  exact ⟨_, rfl, _, _, _, [], _, [], hW', trodAll_mk1 (shut_bool Trym.underlying4 _), (trodAll_cons_mk (Below.trod laidOut (by kernel_rfl) (of_decide_eq_true (by kernel_rfl)) k0 bel lt0) (trodAll_cons_mk (Below.trod laidOut (by kernel_rfl) (of_decide_eq_true (by kernel_rfl)) k1 bel lt1) trodAll_mk0)), rfl, bel.frame _, fun h => by cases h⟩

theorem over : Rows.fnWaiterAnswersSymmetricReflexiveRow.holds Trym.pinned (OpenSpec.ofChange Rows.fnWaiterAnswersSymmetricReflexiveSpec) :=
  OpenClaim.holds_of_wide 5 Trym.f5 rfl rfl rfl rfl rfl rfl rfl ⟨rfl, rfl, rfl, rfl, rfl⟩ rfl rfl rfl rfl rfl (by kernel_rfl) Trym.func5 (by kernel_rfl)
    (of_decide_eq_true (by kernel_rfl)) (by unfold Func.isWrapper; first | (rw [if_pos (by decide +kernel)]; kernel_rfl) | (rw [if_neg (by decide +kernel)]; exact ⟨rfl, rfl⟩))
    (fun os started H enc _ => lifted os started H enc)
end fnWaiterAnswersSymmetricReflexive

/-- THE STATEMENT -/
theorem waiterAnswersSymmetricReflexive_proved : Rows.FnWaiterAnswersSymmetricReflexiveSaid := fnWaiterAnswersSymmetricReflexive.over
end Go.Proofs.Qxb6614682aMods
