import Derived.Test.Qxb6614682aModsPiecF
import Derived.Test.Qxb6614682aModsHeldM
namespace Go.Proofs.Qxb6614682aMods
open Go.ChangeShapes Go.WideShapes Go.ChangeAt Go.RowKit
set_option linter.unusedVariables false
namespace fnHeldAlreadyInPieces

theorem own : ownKnob Trym.prog.godebug = none := by kernel_rfl
theorem laidOut : laidOutB Trym.prog = true := by kernel_rfl
theorem cells22 : Trym.prog.cellsOf 22 = 1 := by kernel_rfl

theorem walk (t m s c kk : Int) (p : Option Addr) (x : Option Int) (ac : Option Addr) (nc cc : Nat) (af : Option Addr) (nf cf : Nat) (ab : Option Addr) (nb cb : Nat) (al : Option Addr) (nl cl : Nat) (Cs : List ZC) (Fs : List ZF) (Bs : List ZB) (Ls : List ZL) (w : World)
    (hI : In w p x (.slice ac nc cc) (.slice af nf cf) (.slice ab nb cb) (.slice al nl cl) Cs Fs Bs Ls) :
    Calls Trym.prog 4 #[.int .u8 t, .int .u16 m, .int .u16 s, .int .u8 c, .pointer p, .slice ac nc cc, .slice af nf cf, .slice ab nb cb, .slice al nl cl, .int .i64 kk] w fun e w' => e = .returned (.bool true) ∧ Below w.heap.size w w' := by
  by_cases hbig : 65536 < nc ∨ 65536 < nf ∨ 65536 < nb ∨ 65536 < nl
  · exact lawB_bytes t m s c kk p x ac nc cc af nf cf ab nb cb al nl cl Cs Fs Bs Ls w hI hbig
  · obtain rfl := hI.c.view.1
    obtain rfl := hI.f.view.1
    obtain rfl := hI.b.view.1
    obtain rfl := hI.l.view.1
    exact lawB_in t m s c kk p x ac cc af cf ab cb al cl Cs Fs Bs Ls w hI (by omega) (by omega) (by omega) (by omega)

set_option maxRecDepth 100000 in
set_option maxHeartbeats 1600000 in
theorem lifted (os : Os) (started : os.Started) (H : Type) (enc : TypeId × Value → H) :
    ReturnsInHanded {} Trym.checked os 4 .any (Rows.fnHeldAlreadyInPiecesSpec.pre6 enc Trym.prog Trym.f4 Rows.fnHeldAlreadyInPiecesRow.domain false) (Rows.fnHeldAlreadyInPiecesSpec.post enc Trym.prog Trym.f4 false true false false) := by
  refine returnsInHanded_of_change (C := Trym.checked) own started (by kernel_rfl) Trym.func4
    (ChangeSpec.witness6 (enc := enc) (C := Trym.checked) false ⟨#[], #[.int .u8 0, .int .u16 0, .int .u16 0, .int .u8 0, .pointer none, .slice none 0 0, .slice none 0 0, .slice none 0 0, .slice none 0 0, .int .i64 0], []⟩ 8 (by kernel_rfl) (by kernel_rfl) (by kernel_rfl) (by kernel_rfl)) ?_
  intro W base args ds gs before hval0 hW hcnd _
  have hval : ∀ (j : Nat) t v, Trym.f4.params[j]? = some t → args[j]? = some v → Value.okWide Trym.prog W .any base t v := hval0
  have hW' := hW
  obtain ⟨p, q, hA0, hV, rfl, hfz, hnd⟩ := hW
  have hA : DataW.TrodAll enc Trym.prog W 0 (fun _ => true) true Trym.f4.params.toList args.toList ds p := hA0
  rw [Trym.params4] at hA hval
  obtain ⟨v0, vs0, d0, ds0, p0, q0, hargs, rfl, rfl, h0, r0⟩ := trodAll_cons hA
  obtain ⟨v1, vs1, d1, ds1, p1, q1, rfl, rfl, rfl, h1, r1⟩ := trodAll_cons r0
  obtain ⟨v2, vs2, d2, ds2, p2, q2, rfl, rfl, rfl, h2, r2⟩ := trodAll_cons r1
  obtain ⟨v3, vs3, d3, ds3, p3, q3, rfl, rfl, rfl, h3, r3⟩ := trodAll_cons r2
  obtain ⟨v4, vs4, d4, ds4, p4, q4, rfl, rfl, rfl, h4, r4⟩ := trodAll_cons r3
  obtain ⟨v5, vs5, d5, ds5, p5, q5, rfl, rfl, rfl, h5, r5⟩ := trodAll_cons r4
  obtain ⟨v6, vs6, d6, ds6, p6, q6, rfl, rfl, rfl, h6, r6⟩ := trodAll_cons r5
  obtain ⟨v7, vs7, d7, ds7, p7, q7, rfl, rfl, rfl, h7, r7⟩ := trodAll_cons r6
  obtain ⟨v8, vs8, d8, ds8, p8, q8, rfl, rfl, rfl, h8, r8⟩ := trodAll_cons r7
  obtain ⟨v9, vs9, d9, ds9, p9, q9, rfl, rfl, rfl, h9, r9⟩ := trodAll_cons r8
  obtain ⟨rfl, rfl, rfl⟩ := trodAll_nil r9
  obtain rfl : args = #[v0, v1, v2, v3, v4, v5, v6, v7, v8, v9] := by cases args; simp_all
  obtain ⟨rfl, rfl⟩ := trodVars_none hV
  obtain ⟨a0, rfl, rfl, rfl, w0⟩ := open_int Trym.underlying5 (hval 0 5 v0 rfl rfl) h0
  obtain ⟨a1, rfl, rfl, rfl, w1⟩ := open_int Trym.underlying22 (hval 1 22 v1 rfl rfl) h1
  obtain ⟨a2, rfl, rfl, rfl, w2⟩ := open_int Trym.underlying22 (hval 2 22 v2 rfl rfl) h2
  obtain ⟨a3, rfl, rfl, rfl, w3⟩ := open_int Trym.underlying5 (hval 3 5 v3 rfl rfl) h3
  obtain ⟨a4, rfl⟩ : ∃ a, v4 = .pointer a := by
    rcases open_ptr_int Trym.underlying23 Trym.underlying22 cells22 (hval 4 23 v4 rfl rfl) h4 with ⟨h, _, _⟩ | ⟨b, off, n, h, _, _, _, _⟩ <;> exact ⟨_, h⟩
  have k4 := h4
  have lt4 : ∀ x ∈ p4, x.block < W.heap.size := by obtain ⟨m, hm⟩ := k4; exact DataW.trod_lt m _ _ _ hm
  obtain ⟨x4, w4⟩ : ∃ x, At W a4 x := by
    rcases open_ptr_int Trym.underlying23 Trym.underlying22 cells22 (hval 4 23 (.pointer a4) rfl rfl) h4 with ⟨h, _, _⟩ | ⟨b, off, n, h, _, _, hcell, wn⟩
    · cases h
      exact ⟨none, .inl ⟨rfl, rfl⟩⟩
    · cases h
      exact ⟨some n, .inr ⟨b, off, n, rfl, rfl, hcell⟩⟩
  obtain ⟨a5, len5, cap5, rfl⟩ := okWide_slice Trym.underlying24 (hval 5 24 v5 rfl rfl)
  have k5 := h5
  have lt5 : ∀ x ∈ p5, x.block < W.heap.size := by obtain ⟨m, hm⟩ := k5; exact DataW.trod_lt m _ _ _ hm
  obtain ⟨L5, w5, l5⟩ : ∃ L : List ZC, Sl W (.slice a5 len5 cap5) 5 (L.map ZC.cells) ∧ L.length = len5 := by
    obtain ⟨fuel, hf⟩ := h5
    exact sl_open (cells := ZC.cells) Trym.underlying24 (show Trym.prog.cellsOf 53 = 5 from by kernel_rfl) (by omega) (fun n cs y hy hl => trod_ZC hy hl) (fun z => rfl) hf
  obtain ⟨a6, len6, cap6, rfl⟩ := okWide_slice Trym.underlying25 (hval 6 25 v6 rfl rfl)
  have k6 := h6
  have lt6 : ∀ x ∈ p6, x.block < W.heap.size := by obtain ⟨m, hm⟩ := k6; exact DataW.trod_lt m _ _ _ hm
  obtain ⟨L6, w6, l6⟩ : ∃ L : List ZF, Sl W (.slice a6 len6 cap6) 6 (L.map ZF.cells) ∧ L.length = len6 := by
    obtain ⟨fuel, hf⟩ := h6
    exact sl_open (cells := ZF.cells) Trym.underlying25 (show Trym.prog.cellsOf 55 = 6 from by kernel_rfl) (by omega) (fun n cs y hy hl => trod_ZF hy hl) (fun z => rfl) hf
  obtain ⟨a7, len7, cap7, rfl⟩ := okWide_slice Trym.underlying26 (hval 7 26 v7 rfl rfl)
  have k7 := h7
  have lt7 : ∀ x ∈ p7, x.block < W.heap.size := by obtain ⟨m, hm⟩ := k7; exact DataW.trod_lt m _ _ _ hm
  obtain ⟨L7, w7, l7⟩ : ∃ L : List ZB, Sl W (.slice a7 len7 cap7) 7 (L.map ZB.cells) ∧ L.length = len7 := by
    obtain ⟨fuel, hf⟩ := h7
    exact sl_open (cells := ZB.cells) Trym.underlying26 (show Trym.prog.cellsOf 67 = 7 from by kernel_rfl) (by omega) (fun n cs y hy hl => trod_ZB hy hl) (fun z => rfl) hf
  obtain ⟨a8, len8, cap8, rfl⟩ := okWide_slice Trym.underlying27 (hval 8 27 v8 rfl rfl)
  have k8 := h8
  have lt8 : ∀ x ∈ p8, x.block < W.heap.size := by obtain ⟨m, hm⟩ := k8; exact DataW.trod_lt m _ _ _ hm
  obtain ⟨L8, w8, l8⟩ : ∃ L : List ZL, Sl W (.slice a8 len8 cap8) 7 (L.map ZL.cells) ∧ L.length = len8 := by
    obtain ⟨fuel, hf⟩ := h8
    exact sl_open (cells := ZL.cells) Trym.underlying27 (show Trym.prog.cellsOf 74 = 7 from by kernel_rfl) (by omega) (fun n cs y hy hl => trod_ZL hy hl) (fun z => rfl) hf
  obtain ⟨a9, rfl, rfl, rfl, w9⟩ := open_int Trym.underlying3 (hval 9 3 v9 rfl rfl) h9
  clear hA0 hval0
  refine (walk a0 a1 a2 a3 a9 a4 x4 a5 len5 cap5 a6 len6 cap6 a7 len7 cap7 a8 len8 cap8 L5 L6 L7 L8 W ⟨w4, w5, w6, w7, w8⟩).mono fun e W' ⟨he, bel⟩ => ?_
  subst he
  exact ⟨_, rfl, _, _, _, [], _, [], hW', trodAll_mk1 (shut_bool Trym.underlying4 _), (trodAll_cons_mk (shut_int Trym.underlying5 w0) (trodAll_cons_mk (shut_int Trym.underlying22 w1) (trodAll_cons_mk (shut_int Trym.underlying22 w2) (trodAll_cons_mk (shut_int Trym.underlying5 w3) (trodAll_cons_mk (Below.trod laidOut (by kernel_rfl) (of_decide_eq_true (by kernel_rfl)) k4 bel lt4) (trodAll_cons_mk (Below.trod laidOut (by kernel_rfl) (of_decide_eq_true (by kernel_rfl)) k5 bel lt5) (trodAll_cons_mk (Below.trod laidOut (by kernel_rfl) (of_decide_eq_true (by kernel_rfl)) k6 bel lt6) (trodAll_cons_mk (Below.trod laidOut (by kernel_rfl) (of_decide_eq_true (by kernel_rfl)) k7 bel lt7) (trodAll_cons_mk (Below.trod laidOut (by kernel_rfl) (of_decide_eq_true (by kernel_rfl)) k8 bel lt8) (trodAll_cons_mk (shut_int Trym.underlying3 w9) trodAll_mk0)))))))))), rfl, bel.frame _, fun h => by cases h⟩

theorem over : Rows.fnHeldAlreadyInPiecesRow.holds Trym.pinned (OpenSpec.ofChange Rows.fnHeldAlreadyInPiecesSpec) :=
  OpenClaim.holds_of_wide 4 Trym.f4 rfl rfl rfl rfl rfl rfl rfl ⟨rfl, rfl, rfl, rfl, rfl⟩ rfl rfl rfl rfl rfl (by kernel_rfl) Trym.func4 (by kernel_rfl)
    (of_decide_eq_true (by kernel_rfl)) (by unfold Func.isWrapper; first | (rw [if_pos (by decide +kernel)]; kernel_rfl) | (rw [if_neg (by decide +kernel)]; exact ⟨rfl, rfl⟩))
    (fun os started H enc _ => lifted os started H enc)
end fnHeldAlreadyInPieces

/-- THE STATEMENT -/
theorem heldAlreadyInPieces_proved : Rows.FnHeldAlreadyInPiecesSaid := fnHeldAlreadyInPieces.over
end Go.Proofs.Qxb6614682aMods
