import Derived.Test.Qxb6614664aModsFlowE
import Derived.ProofKit
import Derived.OpenShut
import Derived.ShutString
import Derived.ChangeOld
import Derived.Deep.SlicePairs
namespace Go.Proofs.Qxb6614664aMods
open Go.ChangeShapes Go.WideShapes Go.ChangeAt Go.RowKit
set_option linter.unusedVariables false

theorem own : ownKnob Trym.prog.godebug = none := by kernel_rfl
theorem laidOut : laidOutB Trym.prog = true := by kernel_rfl
theorem Trym.cells37 : Trym.prog.cellsOf 37 = 2 := by kernel_rfl
theorem Trym.cells2 : Trym.prog.cellsOf 2 = 1 := by kernel_rfl
theorem Trym.cells24 : Trym.prog.cellsOf 24 = 1 := by kernel_rfl

/-- WHAT THE WALK IS TOLD OF THE SLICE. -/
def IsRises (w : World) (ao : Option Addr) (len cap : Nat) : Prop :=
  len ≤ cap ∧ cap ≤ 9223372036854775807 ∧ ∃ (b off : Nat) (R B : Nat → Int), (0 < len → ao = some ⟨b, off, none⟩) ∧ Rises w b off len R B

theorem walk (ao : Option Addr) (len cap : Nat) (n : Int) (w : World) (h : IsRises w ao len cap) :
    Calls Trym.prog 4 #[.slice ao len cap, .int .i64 n] w fun e w' => e = .returned (.bool true) ∧ Below w.heap.size w w' := by
  obtain ⟨hlc, hcm, b, off, R, B, hao, hc⟩ := h
  by_cases h1 : 1048576 < len
  · exact law_long ao len cap n w h1
  by_cases h2 : 4096 < len
  · exact law_mid ao len cap n w (by omega) h2
  by_cases h3 : n < 0
  · exact law_neg ao len cap n w (by omega) h3
  by_cases h4 : (len : Int) < n
  · exact law_far ao len cap n w (by omega) h3 h4
  obtain ⟨m, rfl⟩ := Int.eq_ofNat_of_zero_le (by omega : 0 ≤ n)
  exact law_in ao b off len cap m R B w (by omega) hlc hcm (by omega) hao hc

theorem choose_int {k : IntKind} {len : Nat} {V : Nat → Value} (h : ∀ i, i < len → ∃ z, V i = .int k z) : ∃ Z : Nat → Int, ∀ i, i < len → V i = .int k (Z i) := by
  obtain ⟨Z, hZ⟩ := Deep.choose_lt h
  exact ⟨Z, hZ⟩

set_option maxRecDepth 100000 in
theorem lifted (os : Os) (started : os.Started) (H : Type) (enc : TypeId × Value → H) :
    ReturnsInHanded {} Trym.checked os 4 .any (Rows.fnFlowBitsAgreesWithBitsAfterSpec.pre6 enc Trym.prog Trym.f4 Rows.fnFlowBitsAgreesWithBitsAfterRow.domain false) (Rows.fnFlowBitsAgreesWithBitsAfterSpec.post enc Trym.prog Trym.f4 false true false false) := by
  refine returnsInHanded_of_change (C := Trym.checked) own started (by kernel_rfl) Trym.func4
    (ChangeSpec.witness6 (enc := enc) (C := Trym.checked) false ⟨#[], #[.slice none 0 0, .int .i64 0], []⟩ 8 (by kernel_rfl) (by kernel_rfl) (by kernel_rfl) (by kernel_rfl)) ?_
  intro W base args ds gs before hval0 hW hcnd _
  have hval : ∀ (j : Nat) t v, Trym.f4.params[j]? = some t → args[j]? = some v → Value.okWide Trym.prog W .any base t v := hval0
  have hW' := hW
  obtain ⟨p, q, hA0, hV, rfl, hfz, hnd⟩ := hW
  have hA : DataW.TrodAll enc Trym.prog W 0 (fun _ => true) true Trym.f4.params.toList args.toList ds p := hA0
  rw [Trym.params4] at hA hval
  obtain ⟨v0, vs0, d0, ds0, p0, q0, hargs, rfl, rfl, h0, r0⟩ := trodAll_cons hA
  obtain ⟨v1, vs1, d1, ds1, p1, q1, rfl, rfl, rfl, h1, r1⟩ := trodAll_cons r0
  obtain ⟨rfl, rfl, rfl⟩ := trodAll_nil r1
  obtain rfl : args = #[v0, v1] := by cases args; simp_all
  obtain ⟨rfl, rfl⟩ := trodVars_none hV
  obtain ⟨a0, len0, cap0, rfl⟩ := okWide_slice Trym.underlying22 (hval 0 22 v0 rfl rfl)
  have k0 := h0
  have lt0 : ∀ x ∈ p0, x.block < W.heap.size := by obtain ⟨m, hm⟩ := k0; exact DataW.trod_lt m _ _ _ hm
  have w0 : IsRises W a0 len0 cap0 := by
    obtain ⟨fuel, hf⟩ := h0
    rcases Deep.open_slice_pairs Trym.underlying22 Trym.underlying37 Trym.cells37 rfl rfl Trym.cells2 Trym.cells24 hf with ⟨hcs, _⟩ | ⟨a, len, cap, m, n, V0, V1, D0, D1, P0, P1, hcs, _, hl, hm, hmm, _, hx⟩
    · simp [Value.cells] at hcs
      obtain ⟨rfl, rfl, rfl⟩ := hcs
      exact ⟨Nat.le_refl _, by omega, 0, 0, fun _ => 0, fun _ => 0, fun h => by omega, fun k hk => by omega⟩
    · simp [Value.cells] at hcs
      obtain ⟨rfl, rfl, rfl⟩ := hcs
      simp only [if_true] at hmm
      subst hmm
      obtain ⟨R, hR⟩ := choose_int (k := .i64) (len := len0) (V := V0) (fun i hi => by
        obtain ⟨_, _, hy, _⟩ := hx i (by omega)
        obtain ⟨z, e, _⟩ := DataW.trod_int Trym.underlying2 hy
        exact ⟨z, by simpa using e⟩)
      obtain ⟨B, hB⟩ := choose_int (k := .u64) (len := len0) (V := V1) (fun i hi => by
        obtain ⟨_, _, _, hy⟩ := hx i (by omega)
        obtain ⟨z, e, _⟩ := DataW.trod_int Trym.underlying24 hy
        exact ⟨z, by simpa using e⟩)
      refine ⟨hl, by unfold maxLen at hm; omega, a.block, a.off, R, B, fun hpos => ?_, fun k hk => ?_⟩
      · have hs := World.cell?_spot (hx 0 (by omega)).1
        simp [Addr.add] at hs
        cases a; simp_all
      · have hs := World.cell?_spot (hx 0 (by omega)).1
        simp [Addr.add] at hs
        obtain ⟨b, off, spot⟩ := a
        simp only at hs
        subst hs
        obtain ⟨e0, e1, _, _⟩ := hx k (by omega)
        rw [add_plain] at e0 e1
        rw [hR k hk] at e0
        rw [hB k hk] at e1
        exact ⟨e0, by simpa [Nat.add_assoc] using e1⟩
  obtain ⟨a1, rfl, rfl, rfl, w1⟩ := open_int Trym.underlying3 (hval 1 3 v1 rfl rfl) h1
  clear hA0 hval0
  refine (walk a0 len0 cap0 a1 W w0).mono fun e W' ⟨he, bel⟩ => ?_
  subst he
  exact ⟨_, rfl, _, _, _, [], _, [], hW', trodAll_mk1 (shut_bool Trym.underlying4 _), (trodAll_cons_mk (Below.trod laidOut (by kernel_rfl) (of_decide_eq_true (by kernel_rfl)) k0 bel lt0) (trodAll_cons_mk (shut_int Trym.underlying3 w1) trodAll_mk0)), rfl, bel.frame _, fun h => by cases h⟩

theorem over : Rows.fnFlowBitsAgreesWithBitsAfterRow.holds Trym.pinned (OpenSpec.ofChange Rows.fnFlowBitsAgreesWithBitsAfterSpec) :=
  OpenClaim.holds_of_wide 4 Trym.f4 rfl rfl rfl rfl rfl rfl rfl ⟨rfl, rfl, rfl, rfl, rfl⟩ rfl rfl rfl rfl rfl (by kernel_rfl) Trym.func4 (by kernel_rfl)
    (of_decide_eq_true (by kernel_rfl)) (by unfold Func.isWrapper; first | (rw [if_pos (by decide +kernel)]; kernel_rfl) | (rw [if_neg (by decide +kernel)]; exact ⟨rfl, rfl⟩))
    (fun os started H enc _ => lifted os started H enc)

/-- THE STATEMENT -/
theorem flowBitsAgreesWithBitsAfter_proved : Rows.FnFlowBitsAgreesWithBitsAfterSaid := over
end Go.Proofs.Qxb6614664aMods
