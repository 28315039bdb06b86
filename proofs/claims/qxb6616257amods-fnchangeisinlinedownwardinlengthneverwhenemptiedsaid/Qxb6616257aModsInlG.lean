import Derived.Test.Qxb6616257aModsInlF
import Derived.ProofKit
import Derived.OpenShut
import Derived.ShutString
import Derived.ChangeOld
namespace Go.Proofs.Qxb6616257aMods
open Go.ChangeShapes Go.WideShapes Go.ChangeAt Go.RowKit
set_option linter.unusedVariables false
namespace fnChangeIsInlineDownwardInLengthNeverWhenEmptied

theorem own : ownKnob Trym.prog.godebug = none := by kernel_rfl
theorem laidOut : laidOutB Trym.prog = true := by kernel_rfl
theorem cells22 : Trym.prog.cellsOf 22 = 32 := by kernel_rfl
theorem cells5 : Trym.prog.cellsOf 5 = 1 := by kernel_rfl

theorem open_digest {H : Type} {enc : TypeId × Value → H} {W : World} {v : Value} {d : DataW H} {p : List MemPlace} (hv : Value.okWide Trym.prog W .any 0 22 v)
    (h : ∃ fuel, DataW.trod enc Trym.prog W 0 (fun _ => true) true fuel 22 v.cells.toList = some (d, p)) : ∃ Ds : List Int, Ds.length = 32 ∧ v = .agg (ints8 Ds).toArray := by
  have hv' := hv
  unfold Value.okWide at hv'
  simp only [Trym.underlying22] at hv'
  obtain ⟨cs, rfl, hs, -⟩ := hv'
  obtain ⟨fuel, hf⟩ := h
  obtain ⟨xs, m, -, -, hl, hx, ha⟩ := DataW.trod_array Trym.underlying22 hf
  rw [cells22] at hl
  rw [cells5] at ha
  have key : ∀ l : List Value, (∀ i, i < l.length → ∃ z, l[i]? = some (.int .u8 z)) → ∃ Ds : List Int, Ds.length = l.length ∧ l = ints8 Ds := by
    intro l
    induction l with
    | nil => intro _; exact ⟨[], rfl, rfl⟩
    | cons x l ih =>
      intro hz
      obtain ⟨z, hz0⟩ := hz 0 (by simp)
      obtain ⟨Ds, e1, e2⟩ := ih fun i hi => by
        have := hz (i + 1) (by simpa using hi)
        simpa using this
      refine ⟨z :: Ds, by simp [e1], ?_⟩
      simp at hz0
      rw [e2, hz0]
      rfl
  obtain ⟨Ds, e1, e2⟩ := key (Value.agg cs).cells.toList fun i hi => by
    have h1 := ha i (by omega)
    rw [List.getElem?_eq_getElem (by omega : i < xs.length)] at h1
    obtain ⟨z, e, -⟩ := DataW.trod_int Trym.underlying5 h1
    refine ⟨z, ?_⟩
    have h2 : ((((Value.agg cs).cells.toList.drop (i * 1)).take 1))[0]? = some (Value.int .u8 z) := by rw [e]; rfl
    rw [List.getElem?_take] at h2
    simpa using h2
  refine ⟨Ds, e1.trans hl, ?_⟩
  have : cs.toList = ints8 Ds := e2
  rw [← this]

theorem walk (c a b : Int) (Ds : List Int) (w : World) (hDs : Ds.length = 32) :
    Calls Trym.prog 3 #[.int .u8 c, .agg (ints8 Ds).toArray, .int .i64 a, .int .i64 b] w fun e w' => e = .returned (.bool true) ∧ Below w.heap.size w w' := by
  by_cases h : 127 < c
  · exact law_big c a b _ w h
  by_cases hc : c = 0
  · subst hc
    exact law_eq a b Ds w hDs _ rfl
  have hc0 : (c == 0) = false := by simpa using hc
  refine law_ne c a b _ w h hc (by simp [ints8, hDs]) (decide (a ≤ 1024)) (decide (b ≤ 1024)) (decide (a ≤ b)) ?_ ?_ rfl rfl rfl ?_
  · show _ = _
    rw [hc0]; rfl
  · show _ = _
    rw [hc0]; rfl
  · intro h1 h2
    have h1 := of_decide_eq_true h1
    have h2 := of_decide_eq_true h2
    exact decide_eq_true (by omega)

set_option maxRecDepth 100000 in
set_option maxHeartbeats 1600000 in
theorem lifted (os : Os) (started : os.Started) (H : Type) (enc : TypeId × Value → H) :
    ReturnsInHanded {} Trym.checked os 3 .any (Rows.fnChangeIsInlineDownwardInLengthNeverWhenEmptiedSpec.pre6 enc Trym.prog Trym.f3 Rows.fnChangeIsInlineDownwardInLengthNeverWhenEmptiedRow.domain false) (Rows.fnChangeIsInlineDownwardInLengthNeverWhenEmptiedSpec.post enc Trym.prog Trym.f3 false true false false) := by
  refine returnsInHanded_of_change (C := Trym.checked) own started (by kernel_rfl) Trym.func3
    (ChangeSpec.witness6 (enc := enc) (C := Trym.checked) false ⟨#[], #[.int .u8 0, .agg #[.int .u8 0, .int .u8 0, .int .u8 0, .int .u8 0, .int .u8 0, .int .u8 0, .int .u8 0, .int .u8 0, .int .u8 0, .int .u8 0, .int .u8 0, .int .u8 0, .int .u8 0, .int .u8 0, .int .u8 0, .int .u8 0, .int .u8 0, .int .u8 0, .int .u8 0, .int .u8 0, .int .u8 0, .int .u8 0, .int .u8 0, .int .u8 0, .int .u8 0, .int .u8 0, .int .u8 0, .int .u8 0, .int .u8 0, .int .u8 0, .int .u8 0, .int .u8 0], .int .i64 0, .int .i64 0], []⟩ 8 (by kernel_rfl) (by kernel_rfl) (by kernel_rfl) (by kernel_rfl)) ?_
  intro W base args ds gs before hval0 hW hcnd _
  have hval : ∀ (j : Nat) t v, Trym.f3.params[j]? = some t → args[j]? = some v → Value.okWide Trym.prog W .any base t v := hval0
  have hW' := hW
  obtain ⟨p, q, hA0, hV, rfl, hfz, hnd⟩ := hW
  have hA : DataW.TrodAll enc Trym.prog W 0 (fun _ => true) true Trym.f3.params.toList args.toList ds p := hA0
  rw [Trym.params3] at hA hval
  obtain ⟨v0, vs0, d0, ds0, p0, q0, hargs, rfl, rfl, h0, r0⟩ := trodAll_cons hA
  obtain ⟨v1, vs1, d1, ds1, p1, q1, rfl, rfl, rfl, h1, r1⟩ := trodAll_cons r0
  obtain ⟨v2, vs2, d2, ds2, p2, q2, rfl, rfl, rfl, h2, r2⟩ := trodAll_cons r1
  obtain ⟨v3, vs3, d3, ds3, p3, q3, rfl, rfl, rfl, h3, r3⟩ := trodAll_cons r2
  obtain ⟨rfl, rfl, rfl⟩ := trodAll_nil r3
  obtain rfl : args = #[v0, v1, v2, v3] := by cases args; simp_all
  obtain ⟨rfl, rfl⟩ := trodVars_none hV
  obtain ⟨a0, rfl, rfl, rfl, w0⟩ := open_int Trym.underlying5 (hval 0 5 v0 rfl rfl) h0
  obtain ⟨L1, l1, rfl⟩ := open_digest (hval 1 22 v1 rfl rfl) h1
  have k1 := h1
  have lt1 : ∀ x ∈ p1, x.block < W.heap.size := by obtain ⟨m, hm⟩ := k1; exact DataW.trod_lt m _ _ _ hm
  obtain ⟨a2, rfl, rfl, rfl, w2⟩ := open_int Trym.underlying3 (hval 2 3 v2 rfl rfl) h2
  obtain ⟨a3, rfl, rfl, rfl, w3⟩ := open_int Trym.underlying3 (hval 3 3 v3 rfl rfl) h3
  clear hA0 hval0
  refine (walk a0 a2 a3 L1 W l1).mono fun e W' ⟨he, bel⟩ => ?_
  subst he
  exact ⟨_, rfl, _, _, _, [], _, [], hW', trodAll_mk1 (shut_bool Trym.underlying4 _), (trodAll_cons_mk (shut_int Trym.underlying5 w0) (trodAll_cons_mk (Below.trod laidOut (by kernel_rfl) (of_decide_eq_true (by kernel_rfl)) k1 bel lt1) (trodAll_cons_mk (shut_int Trym.underlying3 w2) (trodAll_cons_mk (shut_int Trym.underlying3 w3) trodAll_mk0)))), rfl, bel.frame _, fun h => by cases h⟩

theorem over : Rows.fnChangeIsInlineDownwardInLengthNeverWhenEmptiedRow.holds Trym.pinned (OpenSpec.ofChange Rows.fnChangeIsInlineDownwardInLengthNeverWhenEmptiedSpec) :=
  OpenClaim.holds_of_wide 3 Trym.f3 rfl rfl rfl rfl rfl rfl rfl ⟨rfl, rfl, rfl, rfl, rfl⟩ rfl rfl rfl rfl rfl (by kernel_rfl) Trym.func3 (by kernel_rfl)
    (of_decide_eq_true (by kernel_rfl)) (by unfold Func.isWrapper; first | (rw [if_pos (by decide +kernel)]; kernel_rfl) | (rw [if_neg (by decide +kernel)]; exact ⟨rfl, rfl⟩))
    (fun os started H enc _ => lifted os started H enc)
end fnChangeIsInlineDownwardInLengthNeverWhenEmptied

/-- THE STATEMENT -/
theorem changeIsInlineDownwardInLengthNeverWhenEmptied_proved : Rows.FnChangeIsInlineDownwardInLengthNeverWhenEmptiedSaid := fnChangeIsInlineDownwardInLengthNeverWhenEmptied.over
end Go.Proofs.Qxb6616257aMods
