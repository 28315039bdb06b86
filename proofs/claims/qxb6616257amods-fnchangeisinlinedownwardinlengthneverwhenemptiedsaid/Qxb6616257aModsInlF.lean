import Derived.Test.Qxb6616257aModsInlE
namespace Go.Proofs.Qxb6616257aMods
open Go.RowKit
set_option linter.unusedVariables false

theorem wpList_load_g {ops : Array Oper} {rest : List Oper} {op : Oper} {a : Act} {w : World} {Q : Exit → Act → World → Prop} (hw : Region.wanted op (yielded ops a.tmps) = true) (ty : TypeId) (x : Operand) (ho : op.op = .load ty x)
    (b o : Nat) (hx : a.eval x = .pointer (some ⟨b, o, none⟩)) (cs : List Value) (d : TypeDesc) (hc : w.rangeAt b o cs)
    (hu : Trym.prog.underlying ty = some d) (hd : d.isRow = true) (hi : (Trym.prog.info? ty).map (·.size) = some cs.length)
    (h : wpList Trym.prog ops Q rest (a.put op.dst (.agg cs.toArray)) w) : wpList Trym.prog ops Q (op :: rest) a w :=
  BigFrame.wpList_want hw fun _ hK => wp_load_mid ty x ho b o hx cs d hc hu hd hi (hK _ _ h)
set_option maxHeartbeats 3200000 in
theorem law_eq (a b : Int) (Ds : List Int) (w : World) (hDs : Ds.length = 32) (rL : Bool) (tL : decide (a ≤ b) = rL) :
    Calls Trym.prog 3 #[.int .u8 0, .agg (ints8 Ds).toArray, .int .i64 a, .int .i64 b] w fun e w' => e = .returned (.bool true) ∧ Below w.heap.size w w' := by
  have ba : Below w.heap.size w (w.alloc (.cells (ints8 Ds).toArray 22)) := (Below.refl _ _).alloc (Nat.le_refl _) _
  have r0 := range_new w (ints8 Ds) 22
  have hd0 : (ints8 Ds).length = 32 := by simp [ints8, hDs]
  have HZ := digest_any Ds hDs (w.alloc (.cells (ints8 Ds).toArray 22))
  have HQ : Hid (_ ∧ True) := ⟨HZ, trivial⟩
  clear HZ
  obtain ⟨ds, hds⟩ : ∃ ds, ds = ints8 Ds := ⟨_, rfl⟩
  rw [← hds] at ba r0 hd0 HQ ⊢
  have HD : Hid (ds.length = 32) := hd0
  have HE : Hid (ds = ints8 Ds) := hds
  clear hds hd0
  go_enter Trym.func3, Trym.ntmps3
  go_wp2_with ((with_reducible refine wpList_load_g ?_ 22 (.tmp 5) ?_ w.heap.size 0 ?_ ds _ ?_ Trym.underlying22 ?_ ?_ ?_); exact rfl; exact rfl; exact rfl; exact r0; exact rfl; exact (info22.trans (by rw [HD.out])))
  refine HQ.out.1.mono ?_
  rintro e wd ⟨⟨r, rfl, hz⟩, bd⟩
  have B := below_chain ba bd
  have r1 := rangeAt_below r0 bd (Nat.le_refl _)
  clear HQ bd ba r0
  cases r
  · clear hz
    go_wp2
    go_ret
    exact ⟨rfl, B⟩
  have hC : Cid 0 ds := ⟨HD.out, fun _ => HE.out.trans (hz rfl)⟩
  clear hz
  by_cases ha0 : a < 0
  · go_wp2
    go_ret
    exact ⟨rfl, B⟩
  have ha0' : decide (a < 0) = false := decide_eq_false ha0
  by_cases hb0 : b < 0
  · go_wp2
    go_ret
    exact ⟨rfl, B⟩
  have hb0' : decide (b < 0) = false := decide_eq_false hb0
  cases rL
  all_goals
    obtain ⟨zd, hzd⟩ : ∃ zd, zd = z8 32 := ⟨_, rfl⟩
    obtain ⟨zs, hzs⟩ : ∃ zs, zs = z8 64 := ⟨_, rfl⟩
    have A22 : Hid (∀ w, (Instr.alloc 22 true (.tuple #[])).run Trym.prog w = .ok (.pointer (some ⟨w.heap.size, 0, none⟩)) (w.alloc (.cells zd.toArray 22))) := by rw [hzd]; exact alloc22
    have A24 : Hid (∀ w, (Instr.alloc 24 true (.tuple #[])).run Trym.prog w = .ok (.pointer (some ⟨w.heap.size, 0, none⟩)) (w.alloc (.cells zs.toArray 24))) := by rw [hzs]; exact alloc24
    have ld : zd.length = 32 := by rw [hzd]; rfl
    have ls : zs.length = 64 := by rw [hzs]; rfl
    have hC0 : Cid 0 zd := ⟨ld, fun _ => hzd⟩
    have HLD : Hid (zd.length = 32) := ld
    have HLS : Hid (zs.length = 64) := ls
    have IA : Hid ((!((0 : Int) == 0) && decide (a ≤ 1024)) = false) := by simp [Hid]
    have IB : Hid ((!((0 : Int) == 0) && decide (b ≤ 1024)) = false) := by simp [Hid]
    have rD := World.rangeAt_alloc (World.rangeAt_alloc r1 (.cells zd.toArray 22)) (.cells zs.toArray 24)
    have rZ := World.rangeAt_alloc (range_new wd zd 22) (.cells zs.toArray 24)
    have rS := range_new (wd.alloc (.cells zd.toArray 22)) zs 24
    simp only [World.size_alloc] at rS
    have B0 : Below w.heap.size w ((wd.alloc (.cells zd.toArray 22)).alloc (.cells zs.toArray 24)) := (B.alloc B.size _).alloc (by simp; have := B.size; omega) _
    clear hzd hzs ld ls r1 B
    go_wp2_with (first
      | ((with_reducible refine wpList_alloc ?_ 22 ?_ (.cells zd.toArray 22) A22.out ?_); exact rfl; exact rfl)
      | ((with_reducible refine wpList_alloc ?_ 24 ?_ (.cells zs.toArray 24) A24.out ?_); exact rfl; exact rfl)
      | ((with_reducible refine wpList_load_mid ?_ 22 (.tmp 5) ?_ w.heap.size 0 ?_ ds _ ?_ Trym.underlying22 ?_ ?_ ?_); exact rfl; exact rfl; exact rfl; exact rD; exact rfl; exact (info22.trans (by rw [HD.out])))
      | ((with_reducible refine wpList_load_mid ?_ 24 (.tmp 10) ?_ (wd.heap.size + 1) 0 ?_ zs _ ?_ Trym.underlying24 ?_ ?_ ?_); exact rfl; exact rfl; exact rfl; exact rS; exact rfl; exact (info24.trans (by rw [HLS.out]))))
    refine (newChange_any 1 0 a ds zs _ HD.out HLS.out).mono ?_
    rintro e w1 ⟨g1, rfl, i1, l1, b1⟩
    have C1 : Ch w1 g1 0 a ds := ⟨i1, l1⟩
    have rD1 := rangeAt_below rD b1 (Nat.le_refl _)
    have rZ1 := rangeAt_below rZ b1 (Nat.le_refl _)
    have rS1 := rangeAt_below rS b1 (Nat.le_refl _)
    have B1 := below_chain B0 b1
    clear rD rZ rS B0 i1 l1 b1
    go_wp2_with (first | ((with_reducible refine wpList_load_mid ?_ 22 (.tmp 5) ?_ w.heap.size 0 ?_ ds _ ?_ Trym.underlying22 ?_ ?_ ?_); exact rfl; exact rfl; exact rfl; exact rD1; exact rfl; exact (info22.trans (by rw [HD.out]))) | ((with_reducible refine wpList_load_mid ?_ 24 (.tmp 10) ?_ (wd.heap.size + 1) 0 ?_ zs _ ?_ Trym.underlying24 ?_ ?_ ?_); exact rfl; exact rfl; exact rfl; exact rS1; exact rfl; exact (info24.trans (by rw [HLS.out]))))
    refine (newChange_any 2 0 b ds zs _ HD.out HLS.out).mono ?_
    rintro e w2 ⟨g2, rfl, i2, l2, b2⟩
    have C2 : Ch w2 g2 0 b ds := ⟨i2, l2⟩
    have C1' := C1.below b2 (Nat.le_refl _)
    have rZ2 := rangeAt_below rZ1 b2 (Nat.le_refl _)
    have rS2 := rangeAt_below rS1 b2 (Nat.le_refl _)
    have B2 := below_chain B1 b2
    clear rD1 rZ1 rS1 B1 i2 l2 b2 C1
    go_wp2_with (first | ((with_reducible refine wpList_load_mid ?_ 22 (.tmp 9) ?_ wd.heap.size 0 ?_ zd _ ?_ Trym.underlying22 ?_ ?_ ?_); exact rfl; exact rfl; exact rfl; exact rZ2; exact rfl; exact (info22.trans (by rw [HLD.out]))) | ((with_reducible refine wpList_load_mid ?_ 24 (.tmp 10) ?_ (wd.heap.size + 1) 0 ?_ zs _ ?_ Trym.underlying24 ?_ ?_ ?_); exact rfl; exact rfl; exact rfl; exact rS2; exact rfl; exact (info24.trans (by rw [HLS.out]))))
    refine (newChange_any 3 0 0 zd zs _ HLD.out HLS.out).mono ?_
    rintro e w3 ⟨g3, rfl, i3, l3, b3⟩
    have C3 : Ch w3 g3 0 0 zd := ⟨i3, l3⟩
    have D1 := C1'.below b3 (Nat.le_refl _)
    have D2 := C2.below b3 (Nat.le_refl _)
    have B3 := below_chain B2 b3
    clear rZ2 rS2 B2 i3 l3 b3 C1' C2
    go_wp2_with fail
    refine (zinline_any g1 0 a ds _ D1 hC).mono ?_
    rintro e w4 ⟨rfl, hw⟩
    obtain rfl := hw.symm
    rw [IA.out]
    clear hw
    go_wp2_with fail
    refine (zinline_any g2 0 b ds _ D2 hC).mono ?_
    rintro e w4 ⟨rfl, hw⟩
    obtain rfl := hw.symm
    rw [IB.out]
    clear hw
    go_wp2_with fail
    refine (zempties_any g3 0 0 zd _ C3 hC0).mono ?_
    rintro e w4 ⟨rfl, hw⟩
    obtain rfl := hw.symm
    clear hw
    go_wp2_with fail
    refine (zinline_any g3 0 0 zd _ C3 hC0).mono ?_
    rintro e w4 ⟨rfl, hw⟩
    obtain rfl := hw.symm
    clear hw
    go_wp2_with fail
    refine (zempties_any g1 0 a ds _ D1 hC).mono ?_
    rintro e w4 ⟨rfl, hw⟩
    obtain rfl := hw.symm
    clear hw
    go_wp2
    go_ret
    exact ⟨rfl, B3⟩
end Go.Proofs.Qxb6616257aMods
