import Derived.Test.Qxb6616257aModsInlD
namespace Go.Proofs.Qxb6616257aMods
open Go.RowKit
set_option linter.unusedVariables false

theorem wpList_alloc {ops : Array Oper} {rest : List Oper} {o : Oper} {a : Act} {w : World} {Q : Exit → Act → World → Prop} (hgd : o.guard = none) (t : TypeId) (hop : o.op = .alloc t) (ob : Obj)
    (hb : ∀ w, (Instr.alloc t true (.tuple #[])).run Trym.prog w = .ok (.pointer (some ⟨w.heap.size, 0, none⟩)) (w.alloc ob)) (h : wpList Trym.prog ops Q rest (a.put o.dst (.pointer (some ⟨w.heap.size, 0, none⟩))) (w.alloc ob)) : wpList Trym.prog ops Q (o :: rest) a w :=
  wpList_plain hgd fun _ hK => by
    unfold Oper.wp execOp
    simp only [hop, Sem.run_bind, hb, Result.andThen_ok, Sem.run_pure]
    exact hK _ _ h
theorem alloc22 (w : World) : (Instr.alloc 22 true (.tuple #[])).run Trym.prog w = .ok (.pointer (some ⟨w.heap.size, 0, none⟩)) (w.alloc (.cells (z8 32).toArray 22)) := by kernel_rfl
theorem alloc24 (w : World) : (Instr.alloc 24 true (.tuple #[])).run Trym.prog w = .ok (.pointer (some ⟨w.heap.size, 0, none⟩)) (w.alloc (.cells (z8 64).toArray 24)) := by kernel_rfl

theorem below_chain {a b c : World} (h : Below a.heap.size a b) (k : Below b.heap.size b c) : Below a.heap.size a c := h.trans (k.mono h.size)

set_option maxHeartbeats 800000 in
theorem law_big (c a b : Int) (ds : List Value) (w : World) (h : 127 < c) :
    Calls Trym.prog 3 #[.int .u8 c, .agg ds.toArray, .int .i64 a, .int .i64 b] w fun e w' => e = .returned (.bool true) ∧ Below w.heap.size w w' := by
  go_enter Trym.func3, Trym.ntmps3
  go_wp2
  go_ret
  exact ⟨rfl, (Below.refl _ _).alloc (Nat.le_refl _) _⟩

set_option maxHeartbeats 3200000 in
theorem law_ne (c a b : Int) (ds : List Value) (w : World) (h : ¬ 127 < c) (hc : ¬ c = 0) (hd : ds.length = 32) (rA rB rL : Bool) (IA : Hid ((!(c == 0) && decide (a ≤ 1024)) = rA)) (IB : Hid ((!(c == 0) && decide (b ≤ 1024)) = rB)) (tA : decide (a ≤ 1024) = rA) (tB : decide (b ≤ 1024) = rB) (tL : decide (a ≤ b) = rL) (hr : rL = true → rB = true → rA = true) :
    Calls Trym.prog 3 #[.int .u8 c, .agg ds.toArray, .int .i64 a, .int .i64 b] w fun e w' => e = .returned (.bool true) ∧ Below w.heap.size w w' := by
  have hc0 : (c == 0) = false := by simpa using hc
  have hc1 : (c != 0) = true := by simpa using hc
  have h127 : decide ((127 : Int) < c) = false := decide_eq_false h
  by_cases ha0 : a < 0
  · go_enter Trym.func3, Trym.ntmps3
    go_wp2
    go_ret
    exact ⟨rfl, (Below.refl _ _).alloc (Nat.le_refl _) _⟩
  have ha0' : decide (a < 0) = false := decide_eq_false ha0
  by_cases hb0 : b < 0
  · go_enter Trym.func3, Trym.ntmps3
    go_wp2
    go_ret
    exact ⟨rfl, (Below.refl _ _).alloc (Nat.le_refl _) _⟩
  have hb0' : decide (b < 0) = false := decide_eq_false hb0
  have hC : Cid c ds := ⟨hd, fun h => absurd h hc⟩
  have HR : Hid (rL = true → rB = true → rA = true) := hr
  clear hr
  cases rA <;> cases rB <;> cases rL <;> try exact absurd (HR.out rfl rfl) Bool.false_ne_true
  all_goals
    obtain ⟨zd, hzd⟩ : ∃ zd, zd = z8 32 := ⟨_, rfl⟩
    obtain ⟨zs, hzs⟩ : ∃ zs, zs = z8 64 := ⟨_, rfl⟩
    have A22 : Hid (∀ w, (Instr.alloc 22 true (.tuple #[])).run Trym.prog w = .ok (.pointer (some ⟨w.heap.size, 0, none⟩)) (w.alloc (.cells zd.toArray 22))) := by rw [hzd]; exact alloc22
    have A24 : Hid (∀ w, (Instr.alloc 24 true (.tuple #[])).run Trym.prog w = .ok (.pointer (some ⟨w.heap.size, 0, none⟩)) (w.alloc (.cells zs.toArray 24))) := by rw [hzs]; exact alloc24
    have ld : zd.length = 32 := by rw [hzd]; rfl
    have ls : zs.length = 64 := by rw [hzs]; rfl
    have hC0 : Cid 0 zd := ⟨ld, fun _ => hzd⟩
    have HLD : Hid (zd.length = 32) := ld
    have HLS : Hid (zs.length = 64) := ls
    have HD : Hid (ds.length = 32) := hd
    have rD := World.rangeAt_alloc (World.rangeAt_alloc (range_new w ds 22) (.cells zd.toArray 22)) (.cells zs.toArray 24)
    have rZ := World.rangeAt_alloc (range_new (w.alloc (.cells ds.toArray 22)) zd 22) (.cells zs.toArray 24)
    have rS := range_new ((w.alloc (.cells ds.toArray 22)).alloc (.cells zd.toArray 22)) zs 24
    simp only [World.size_alloc] at rZ rS
    have B0 : Below w.heap.size w (((w.alloc (.cells ds.toArray 22)).alloc (.cells zd.toArray 22)).alloc (.cells zs.toArray 24)) := (((Below.refl _ _).alloc (Nat.le_refl _) _).alloc (by simp) _).alloc (by simp; omega) _
    clear hzd hzs ld ls hd
    go_enter Trym.func3, Trym.ntmps3
    go_wp2_with (first
      | ((with_reducible refine wpList_alloc ?_ 22 ?_ (.cells zd.toArray 22) A22.out ?_); exact rfl; exact rfl)
      | ((with_reducible refine wpList_alloc ?_ 24 ?_ (.cells zs.toArray 24) A24.out ?_); exact rfl; exact rfl)
      | ((with_reducible refine wpList_load_mid ?_ 22 (.tmp 5) ?_ w.heap.size 0 ?_ ds _ ?_ Trym.underlying22 ?_ ?_ ?_); exact rfl; exact rfl; exact rfl; exact rD; exact rfl; exact (info22.trans (by rw [HD.out])))
      | ((with_reducible refine wpList_load_mid ?_ 24 (.tmp 10) ?_ (w.heap.size + 1 + 1) 0 ?_ zs _ ?_ Trym.underlying24 ?_ ?_ ?_); exact rfl; exact rfl; exact rfl; exact rS; exact rfl; exact (info24.trans (by rw [HLS.out]))))
    refine (newChange_any 1 c a ds zs _ HD.out HLS.out).mono ?_
    rintro e w1 ⟨g1, rfl, i1, l1, b1⟩
    have C1 : Ch w1 g1 c a ds := ⟨i1, l1⟩
    have rD1 := rangeAt_below rD b1 (Nat.le_refl _)
    have rZ1 := rangeAt_below rZ b1 (Nat.le_refl _)
    have rS1 := rangeAt_below rS b1 (Nat.le_refl _)
    have B1 := below_chain B0 b1
    clear rD rZ rS B0 i1 l1 b1
    go_wp2_with (first | ((with_reducible refine wpList_load_mid ?_ 22 (.tmp 5) ?_ w.heap.size 0 ?_ ds _ ?_ Trym.underlying22 ?_ ?_ ?_); exact rfl; exact rfl; exact rfl; exact rD1; exact rfl; exact (info22.trans (by rw [HD.out]))) | ((with_reducible refine wpList_load_mid ?_ 24 (.tmp 10) ?_ (w.heap.size + 1 + 1) 0 ?_ zs _ ?_ Trym.underlying24 ?_ ?_ ?_); exact rfl; exact rfl; exact rfl; exact rS1; exact rfl; exact (info24.trans (by rw [HLS.out]))))
    refine (newChange_any 2 c b ds zs _ HD.out HLS.out).mono ?_
    rintro e w2 ⟨g2, rfl, i2, l2, b2⟩
    have C2 : Ch w2 g2 c b ds := ⟨i2, l2⟩
    have C1' := C1.below b2 (Nat.le_refl _)
    have rZ2 := rangeAt_below rZ1 b2 (Nat.le_refl _)
    have rS2 := rangeAt_below rS1 b2 (Nat.le_refl _)
    have B2 := below_chain B1 b2
    clear rD1 rZ1 rS1 B1 i2 l2 b2 C1
    go_wp2_with (first | ((with_reducible refine wpList_load_mid ?_ 22 (.tmp 9) ?_ (w.heap.size + 1) 0 ?_ zd _ ?_ Trym.underlying22 ?_ ?_ ?_); exact rfl; exact rfl; exact rfl; exact rZ2; exact rfl; exact (info22.trans (by rw [HLD.out]))) | ((with_reducible refine wpList_load_mid ?_ 24 (.tmp 10) ?_ (w.heap.size + 1 + 1) 0 ?_ zs _ ?_ Trym.underlying24 ?_ ?_ ?_); exact rfl; exact rfl; exact rfl; exact rS2; exact rfl; exact (info24.trans (by rw [HLS.out]))))
    refine (newChange_any 3 0 0 zd zs _ HLD.out HLS.out).mono ?_
    rintro e w3 ⟨g3, rfl, i3, l3, b3⟩
    have C3 : Ch w3 g3 0 0 zd := ⟨i3, l3⟩
    have D1 := C1'.below b3 (Nat.le_refl _)
    have D2 := C2.below b3 (Nat.le_refl _)
    have B3 := below_chain B2 b3
    clear rZ2 rS2 B2 i3 l3 b3 C1' C2
    go_wp2_with fail
    refine (zinline_any g1 c a ds _ D1 hC).mono ?_
    rintro e w4 ⟨rfl, hw⟩
    obtain rfl := hw.symm
    rw [IA.out]
    clear hw
    go_wp2_with fail
    refine (zinline_any g2 c b ds _ D2 hC).mono ?_
    rintro e w4 ⟨rfl, hw⟩
    obtain rfl := hw.symm
    rw [IB.out]
    clear hw
    go_wp2_with fail
    refine (zempties_any g3 0 0 zd _ C3 hC0).mono ?_
    rintro e w4 ⟨rfl, hw⟩
    obtain rfl := hw.symm
    clear hw
    go_wp2_with fail
    refine (zinline_any g3 0 0 zd _ C3 hC0).mono ?_
    rintro e w4 ⟨rfl, hw⟩
    obtain rfl := hw.symm
    clear hw
    go_wp2_with fail
    refine (zempties_any g1 c a ds _ D1 hC).mono ?_
    rintro e w4 ⟨rfl, hw⟩
    obtain rfl := hw.symm
    rw [hc0]
    clear hw
    go_wp2
    go_ret
    exact ⟨rfl, B3⟩

end Go.Proofs.Qxb6616257aMods
