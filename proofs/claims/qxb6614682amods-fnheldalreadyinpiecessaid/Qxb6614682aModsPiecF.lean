import Derived.Test.Qxb6614682aModsPiecE
namespace Go.Proofs.Qxb6614682aMods
open Go.RowKit
set_option linter.unusedVariables false

set_option maxRecDepth 100000 in
set_option maxHeartbeats 6400000 in
theorem lawB_in (t m s c kk : Int) (p : Option Addr) (x : Option Int) (ac : Option Addr) (cc : Nat) (af : Option Addr) (cf : Nat) (ab : Option Addr) (cb : Nat) (al : Option Addr) (cl : Nat) (Cs : List ZC) (Fs : List ZF) (Bs : List ZB) (Ls : List ZL) (w : World)
    (hI : In w p x (.slice ac Cs.length cc) (.slice af Fs.length cf) (.slice ab Bs.length cb) (.slice al Ls.length cl) Cs Fs Bs Ls)
    (h1 : Cs.length ≤ 65536) (h2 : Fs.length ≤ 65536) (h3 : Bs.length ≤ 65536) (h4 : Ls.length ≤ 65536) :
    Calls Trym.prog 4 #[.int .u8 t, .int .u16 m, .int .u16 s, .int .u8 c, .pointer p, .slice ac Cs.length cc, .slice af Fs.length cf, .slice ab Bs.length cb, .slice al Ls.length cl, .int .i64 kk] w fun e w' => e = .returned (.bool true) ∧ Below w.heap.size w w' := by
  have D1 : decide ((65536 : Int) < Cs.length) = false := decide_eq_false (by omega)
  have D2 : decide ((65536 : Int) < Fs.length) = false := decide_eq_false (by omega)
  have D3 : decide ((65536 : Int) < Bs.length) = false := decide_eq_false (by omega)
  have D4 : decide ((65536 : Int) < Ls.length) = false := decide_eq_false (by omega)
  go_enter Trym.func4, Trym.ntmps4
  go_wp2_with fail
  refine (bytesB_any t m s c kk p ac _ cc af _ cf ab _ cb al _ cl Cs Fs Bs Ls w hI.c.view hI.f.view hI.b.view hI.l.view).mono ?_
  rintro e w0 ⟨⟨r, rfl⟩, hw⟩
  obtain rfl := hw.symm
  cases r with
  | false =>
    go_wp2
    go_ret
    exact ⟨rfl, Below.refl _ _⟩
  | true =>
    clear hw
    go_wp2_with fail
    refine (fits_any ac _ cc af _ cf ab _ cb al _ cl Cs Fs Bs Ls w h1 h2 h3 h4 hI.c.view hI.f.view hI.b.view hI.l.view).mono ?_
    rintro e w1 ⟨⟨r, rfl⟩, b1⟩
    cases r with
    | false =>
      go_wp2
      go_ret
      exact ⟨rfl, b1⟩
    | true =>
      have I1 := hI.below b1 (Nat.le_refl _)
      clear hI
      by_cases hk0 : kk < 0
      · have E1 : decide (kk < 0) = true := decide_eq_true hk0
        go_wp2
        go_ret
        exact ⟨rfl, b1⟩
      by_cases hkl : (Fs.length : Int) < kk
      · have E1 : decide (kk < 0) = false := decide_eq_false hk0
        have E2 : decide ((Fs.length : Int) < kk) = true := decide_eq_true hkl
        go_wp2
        go_ret
        exact ⟨rfl, b1⟩
      obtain ⟨kn, rfl⟩ := Int.eq_ofNat_of_zero_le (by omega : 0 ≤ kk)
      have E1 : decide ((kn : Int) < 0) = false := decide_eq_false hk0
      have E2 : decide ((Fs.length : Int) < (kn : Int)) = false := decide_eq_false hkl
      have E3 : decide (Fs.length < kn) = false := decide_eq_false (by omega)
      obtain ⟨Hs, Gs, a1, c1, a2, c2, hFG, hHs, S1, S2, T1, T2⟩ := sl_cut I1.f kn (by omega)
      have HFG : Hid (Fs = Hs ++ Gs) := hFG
      have hGs : Hs.length + Gs.length = Fs.length := by rw [hFG, List.length_append]
      have HHS : Hid (Hs.length = kn) := hHs
      have hh2 : Hs.length ≤ 65536 := by omega
      have hg2 : Gs.length ≤ 65536 := by omega
      have HS1 : Hid (∀ w, (Instr.slice 25 (.slice af Fs.length cf) none (some (.int .i64 kn)) none).run Trym.prog w = .ok (.slice a1 Hs.length c1) w) := S1
      have HS2 : Hid (∀ w, (Instr.slice 25 (.slice af Fs.length cf) (some (.int .i64 kn)) none none).run Trym.prog w = .ok (.slice a2 Gs.length c2) w) := S2
      clear hFG hHs hGs S1 S2 hk0 hkl
      go_wp2_with fail
      go_loopw [21, 22] (fun mv i wr => ∃ k mk : Nat, k ≤ Fs.length ∧ i = .int .i64 k ∧ mv = .int .i64 mk ∧ mk ≤ k ∧ Hid (mk = (moved (Fs.take k)).length) ∧ wr = w1) (fun _ i _ => Fs.length - (intOf i).toNat)
      case atStart => exact ⟨0, 0, Nat.zero_le _, rfl, rfl, Nat.le_refl _, rfl, rfl⟩
      case round =>
        obtain ⟨k, mk, hk, rfl, rfl, hmk, HM, rfl⟩ := hrel
        by_cases hlt : k < Fs.length
        · obtain ⟨b1', o1, f, e1, hf, r1⟩ := I1.f.view.at hlt
          obtain ⟨p0, p1, p2, p3, p4, p5⟩ := range6 r1
          subst e1
          have HT : Hid (Fs.take (k + 1) = Fs.take k ++ [f]) := take_snoc hf
          have hi0 : (0 : Int) ≤ (k : Int) := Int.natCast_nonneg _
          have hi1 : (k : Int) < (Fs.length : Int) := by omega
          clear r1 p0 p1 p2 p3 p4 hf
          by_cases h13 : (f.z == 13) = true
          · go_wp2_with fail
            go_roundw
            case rel => exact ⟨k + 1, mk + 1, by omega, by go_num, by go_num, by omega, by show _ = _; rw [HT.out, moved_yes _ _ h13, List.length_append, ← HM.out]; rfl, trivial⟩
            case measure => simp [intOf]; omega
          · have h13' : (f.z == 13) = false := by simpa using h13
            clear h13
            go_wp2_with fail
            go_roundw
            case rel => exact ⟨k + 1, mk, by omega, by go_num, rfl, by omega, by show _ = _; rw [HT.out, moved_no _ _ h13']; exact HM.out, trivial⟩
            case measure => simp [intOf]; omega
        · have hkl : Fs.length = k := by omega
          subst hkl
          have HM' : Hid (mk = (moved Fs).length) := by have := HM.out; rw [List.take_length] at this; exact this
          clear HM hlt
          go_wp2_with fail
          refine (answer_any t m s c p x _ _ _ _ Cs Fs Bs Ls _ h1 h2 h3 h4 I1).mono ?_
          rintro e w2 ⟨q1, ac1, cc1, af1, cf1, ob1, kb1, ol1, kl1, rfl, I2, -, -, b2⟩
          have B2 := below_chain b1 b2
          have I1' := I1.below b2 (Nat.le_refl _)
          have T1' := T1.below b2 (Nat.le_refl _)
          have T2' := T2.below b2 (Nat.le_refl _)
          clear I1 T1 T2 b1 b2
          go_wp2_with fail
          refine (zheld_any t m s c q1 ac1 _ cc1 af1 _ cf1 ob1 _ kb1 ol1 _ kl1 Cs Fs _ (by omega) (by omega) I2.c I2.f).mono ?_
          rintro e w3 ⟨oc1, kc1, of1, kf1, rfl, C3, F3, b3⟩
          have ba : Below w3.heap.size w3 (w3.alloc (.cells #[.int .u8 t, .int .u16 m, .int .u16 s, .int .u8 c, .pointer q1, .slice oc1 (Cs.length + (moved Fs).length) kc1, .slice of1 (kept Fs).length kf1, .slice ob1 Bs.length kb1, .slice ol1 Ls.length kl1] 39)) := (Below.refl _ _).alloc (Nat.le_refl _) _
          have b34 := below_chain b3 ba
          have B4 := below_chain B2 b34
          have J1 := I1'.below b34 (Nat.le_refl _)
          have J2 := I2.below b34 (Nat.le_refl _)
          have U1 := T1'.below b34 (Nat.le_refl _)
          have U2 := T2'.below b34 (Nat.le_refl _)
          have C4 := C3.below ba (Nat.le_refl _)
          have F4 := owns_below F3 ba (Nat.le_refl _)
          have K4 : Hid ((w3.alloc (.cells #[.int .u8 t, .int .u16 m, .int .u16 s, .int .u8 c, .pointer q1, .slice oc1 (Cs.length + (moved Fs).length) kc1, .slice of1 (kept Fs).length kf1, .slice ob1 Bs.length kb1, .slice ol1 Ls.length kl1] 39)).heap[w3.heap.size]? = some (.cells #[.int .u8 t, .int .u16 m, .int .u16 s, .int .u8 c, .pointer q1, .slice oc1 (Cs.length + (moved Fs).length) kc1, .slice of1 (kept Fs).length kf1, .slice ob1 Bs.length kb1, .slice ol1 Ls.length kl1] 39 (0, 0))) := heap_alloc_new w3 _
          clear I1' I2 T1' T2' C3 F3 B2 b3 ba b34
          have s1 := HS1.out
          go_wp2_with fail
          clear s1
          refine (answer_any t m s c p x _ _ _ _ Cs Hs Bs Ls _ h1 hh2 h3 h4 ⟨J1.p, J1.c, U1, J1.b, J1.l⟩).mono ?_
          rintro e w5 ⟨q2, ac2, cc2, af2, cf2, ob2, kb2, ol2, kl2, rfl, I5, -, -, b5⟩
          have B5 := below_chain B4 b5
          have J2' := J2.below b5 (Nat.le_refl _)
          have U2' := U2.below b5 (Nat.le_refl _)
          have C5 := C4.below b5 (Nat.le_refl _)
          have F5 := owns_below F4 b5 (Nat.le_refl _)
          have K5 : Hid (w5.heap[w3.heap.size]? = some (.cells #[.int .u8 t, .int .u16 m, .int .u16 s, .int .u8 c, .pointer q1, .slice oc1 (Cs.length + (moved Fs).length) kc1, .slice of1 (kept Fs).length kf1, .slice ob1 Bs.length kb1, .slice ol1 Ls.length kl1] 39 (0, 0))) := (b5.block _ (by simp)).trans K4.out
          clear J1 J2 U1 U2 C4 F4 K4 B4 b5
          go_wp2_with fail
          refine (zheld_any2 t m s c q2 ac2 _ cc2 af2 _ cf2 ob2 _ kb2 ol2 _ kl2 Cs Hs _ (by omega) (by omega) I5.c I5.f).mono ?_
          rintro e w6 ⟨oc2, kc2, of2, kf2, rfl, C6, F6, b6⟩
          have hkH := kept_le Hs
          have hmH := moved_le Hs
          have U7 : Sl (w6.alloc (.cells #[.int .u8 t, .int .u16 m, .int .u16 s, .int .u8 c, .pointer q2, .slice oc2 (Cs.length + (moved Hs).length) kc2, .slice of2 (kept Hs).length kf2, .slice ob2 Bs.length kb2, .slice ol2 Ls.length kl2] 39)).drew (.slice a2 Gs.length c2) 6 (Gs.map ZF.cells) := (U2'.below b6 (Nat.le_refl _)).below (((Below.refl _ _).alloc (Nat.le_refl _) _).drew) (Nat.le_refl _)
          have L7 : (w6.alloc (.cells #[.int .u8 t, .int .u16 m, .int .u16 s, .int .u8 c, .pointer q2, .slice oc2 (Cs.length + (moved Hs).length) kc2, .slice of2 (kept Hs).length kf2, .slice ob2 Bs.length kb2, .slice ol2 Ls.length kl2] 39)).drew.cell? ⟨w6.heap.size, 6, none⟩ = some (.slice of2 (kept Hs).length kf2) := blk_cell (show (w6.alloc (.cells #[.int .u8 t, .int .u16 m, .int .u16 s, .int .u8 c, .pointer q2, .slice oc2 (Cs.length + (moved Hs).length) kc2, .slice of2 (kept Hs).length kf2, .slice ob2 Bs.length kb2, .slice ol2 Ls.length kl2] 39)).drew.heap[w6.heap.size]? = some (.cells #[.int .u8 t, .int .u16 m, .int .u16 s, .int .u8 c, .pointer q2, .slice oc2 (Cs.length + (moved Hs).length) kc2, .slice of2 (kept Hs).length kf2, .slice ob2 Bs.length kb2, .slice ol2 Ls.length kl2] 39 (0, 0)) from heap_alloc_new w6 _) rfl
          clear U2'
          have s2 := HS2.out
          go_wp2_with fail
          go_region_law (first
            | (refine step_call2 (by rfl) 16 (.tmp 112) _ (by rfl) (.slice a2 Gs.length c2) (by rfl) (enter16 _ _) (zzFailures_ex Gs _ _ hg2 U7) ?_; rintro e w8 ⟨a8, c8, rfl, G8, -, b8⟩; refine ⟨_, rfl, ?_⟩; obtain ⟨K8, F8, N8⟩ := stage8 b6 F6 b8; have L8 : w8.cell? ⟨w6.heap.size, 6, none⟩ = some (.slice of2 (kept Hs).length kf2) := blk_cell K8 rfl)
            | (refine step_append_any (by rfl) (.tmp 109) (.tmp 113) (by rfl) (by rfl) (by rfl) F8 N8 G8 (by omega) (by omega) ?_; intro ao cap w9 hown hgrow; obtain ⟨K9, hst⟩ := stage9 b6 F6 C6 (ZC.len _) b8 hown hgrow; have L9 : w9.cell? ⟨w6.heap.size, 6, none⟩ = some (.slice of2 (kept Hs).length kf2) := blk_cell K9 rfl; have M9 : w9.frozen? ⟨w6.heap.size, 6, none⟩ = false := blk_free K9))
          all_goals
            obtain ⟨B10', C10, F10⟩ := hst (.slice ao ((kept Hs).length + Gs.length) cap)
            have B10 := below_chain B5 B10'
            have hM5 : w3.heap.size < w5.heap.size := (Array.getElem?_eq_some_iff.1 K5.out).1
            have K10 : Hid ((w9.setCell ⟨w6.heap.size, 6, none⟩ (.slice ao ((kept Hs).length + Gs.length) cap)).heap[w3.heap.size]? = some (.cells #[.int .u8 t, .int .u16 m, .int .u16 s, .int .u8 c, .pointer q1, .slice oc1 (Cs.length + (moved Fs).length) kc1, .slice of1 (kept Fs).length kf1, .slice ob1 Bs.length kb1, .slice ol1 Ls.length kl1] 39 (0, 0))) := (B10'.block _ hM5).trans K5.out
            have F10' : Sl (w9.setCell ⟨w6.heap.size, 6, none⟩ (.slice ao ((kept Hs).length + Gs.length) cap)) (.slice ao ((kept Hs).length + Gs.length) cap) 6 ((kept Hs ++ Gs).map ZF.cells) := by
              have e1 : ((kept Hs).map ZF.cells).flatten ++ (Gs.map ZF.cells).flatten = ((kept Hs ++ Gs).map ZF.cells).flatten := by simp
              have e2 : (kept Hs).length + Gs.length = ((kept Hs ++ Gs).map ZF.cells).length := by simp
              rw [e1] at F10
              refine sl_of_owns (base := w5.heap.size) (e := 58) ?_ (ZF.len _)
              rw [← e2]
              exact F10
            have I10 := I5.below B10' (Nat.le_refl _)
            have J10 := J2'.below B10' (Nat.le_refl _)
            have CW := C5.below B10' (Nat.le_refl _)
            have FW := owns_below F5 B10' (Nat.le_refl _)
            have k0 := blk_cell (j := 0) K9 rfl
            have k1 := blk_cell (j := 1) K9 rfl
            have k2 := blk_cell (j := 2) K9 rfl
            have k3 := blk_cell (j := 3) K9 rfl
            have k4 := blk_cell (j := 4) K9 rfl
            have k5 := blk_cell (j := 5) K9 rfl
            have k6 := blk_cell (j := 6) K9 rfl
            have k7 := blk_cell (j := 7) K9 rfl
            have k8 := blk_cell (j := 8) K9 rfl
            clear s2 hown hgrow hst U7 L7 L8 L9 M9 K8 K9 F8 N8 b8 b6 C6 F6 G8 F10 I5 J2' C5 F5 B5 B10' hM5 K5
            go_wp2_with fail
            refine (zheld_any t m s c q2 oc2 _ kc2 ao _ cap ob2 _ kb2 ol2 _ kl2 (Cs ++ moved Hs) (kept Hs ++ Gs) _ (by rw [List.length_append]; omega) (by rw [List.length_append]; omega) C10 F10').mono ?_
            rintro e w11 hO
            have hO' := again_out hO
            rw [← HFG.out] at hO'
            obtain ⟨oc3, kc3, of3, kf3, rfl, C11, F11, b11⟩ := hO'
            have b12 : Below w11.heap.size w11 (w11.alloc (.cells #[.int .u8 t, .int .u16 m, .int .u16 s, .int .u8 c, .pointer q2, .slice oc3 (Cs.length + (moved Fs).length) kc3, .slice of3 (kept Fs).length kf3, .slice ob2 Bs.length kb2, .slice ol2 Ls.length kl2] 39)) := (Below.refl _ _).alloc (Nat.le_refl _) _
            have b112 := below_chain b11 b12
            have B12 := below_chain B10 b112
            have K12 : (w11.alloc (.cells #[.int .u8 t, .int .u16 m, .int .u16 s, .int .u8 c, .pointer q2, .slice oc3 (Cs.length + (moved Fs).length) kc3, .slice of3 (kept Fs).length kf3, .slice ob2 Bs.length kb2, .slice ol2 Ls.length kl2] 39)).heap[w3.heap.size]? = some (.cells #[.int .u8 t, .int .u16 m, .int .u16 s, .int .u8 c, .pointer q1, .slice oc1 (Cs.length + (moved Fs).length) kc1, .slice of1 (kept Fs).length kf1, .slice ob1 Bs.length kb1, .slice ol1 Ls.length kl1] 39 (0, 0)) := (b112.block _ (Array.getElem?_eq_some_iff.1 K10.out).1).trans K10.out
            have I12 := I10.below b112 (Nat.le_refl _)
            have J12 := J10.below b112 (Nat.le_refl _)
            have CW12 := (CW.below b112 (Nat.le_refl _)).view
            have lk : (kept Fs).length = ((kept Fs).map ZF.cells).length := by simp
            have FW12 := owns_below FW b112 (Nat.le_refl _)
            have FA12 := owns_below F11 b12 (Nat.le_refl _)
            have CA12 := (C11.below b12 (Nat.le_refl _)).view
            have fw : View (w11.alloc (.cells #[.int .u8 t, .int .u16 m, .int .u16 s, .int .u8 c, .pointer q2, .slice oc3 (Cs.length + (moved Fs).length) kc3, .slice of3 (kept Fs).length kf3, .slice ob2 Bs.length kb2, .slice ol2 Ls.length kl2] 39)) of1 (kept Fs).length 6 ZF.cells (kept Fs) := by
              refine Sl.view (c := kf1) (sl_of_owns (base := w2.heap.size) (e := 58) ?_ (ZF.len _))
              rw [← lk]
              exact FW12
            have fa : View (w11.alloc (.cells #[.int .u8 t, .int .u16 m, .int .u16 s, .int .u8 c, .pointer q2, .slice oc3 (Cs.length + (moved Fs).length) kc3, .slice of3 (kept Fs).length kf3, .slice ob2 Bs.length kb2, .slice ol2 Ls.length kl2] 39)) of3 (kept Fs).length 6 ZF.cells (kept Fs) := by
              refine Sl.view (c := kf3) (sl_of_owns (base := (w9.setCell ⟨w6.heap.size, 6, none⟩ (.slice ao ((kept Hs).length + Gs.length) cap)).heap.size) (e := 58) ?_ (ZF.len _))
              rw [← lk]
              exact FA12
            have hmF := moved_le Fs
            have hkF := kept_le Fs
            have hcl := count_len Fs
            have m0 := blk_cell (j := 0) K12 rfl
            have m1 := blk_cell (j := 1) K12 rfl
            have m2 := blk_cell (j := 2) K12 rfl
            have m3 := blk_cell (j := 3) K12 rfl
            have m4 := blk_cell (j := 4) K12 rfl
            have m5 := blk_cell (j := 5) K12 rfl
            have m6 := blk_cell (j := 6) K12 rfl
            have m7 := blk_cell (j := 7) K12 rfl
            have m8 := blk_cell (j := 8) K12 rfl
            have HE := eq_any t m s c q2 q1 x oc3 kc3 oc1 kc1 (Cs.length + (moved Fs).length) of3 kf3 of1 kf1 (kept Fs).length ob2 kb2 ob1 kb1 Bs.length ol2 kl2 ol1 kl1 Ls.length (Cs ++ moved Fs) (kept Fs) Bs Ls _ I12.p J12.p CA12 CW12 (by omega) fa fw (by omega) I12.b.view J12.b.view (by omega) I12.l.view J12.l.view (by omega)
            have HEH : Hid (_ ∧ True) := ⟨HE, trivial⟩
            clear HE k0 k1 k2 k3 k4 k5 k6 k7 k8 C10 F10' I10 J10 CW FW hO C11 F11 b11 b12 b112 B10 I12 J12 CW12 lk FW12 FA12 CA12 fw fa K12 K10
            go_wp2_with fail
            refine HEH.out.1.mono ?_
            rintro e w13 ⟨rfl, b13⟩
            have n5 := cell_under m5 b13 (Nat.le_refl _)
            have n6 := cell_under m6 b13 (Nat.le_refl _)
            have B13 := below_chain B12 b13
            have hm := HM'.out
            clear m0 m1 m2 m3 m4 m5 m6 m7 m8 HEH b13 B12 HM'
            have q1' : (mk : Int) = ((moved Fs).length : Int) := by rw [hm]
            have q2' : (Fs.length : Int) - (mk : Int) = ((kept Fs).length : Int) := by omega
            have wA : IntKind.i64.wrap ((Cs.length : Int) + (mk : Int)) = (Cs.length : Int) + ((moved Fs).length : Int) := by rw [q1']; exact IntWalk.i64_in _ ⟨by omega, by omega⟩
            have wB : wrap64 ((Cs.length : Int) + (mk : Int)) = (Cs.length : Int) + ((moved Fs).length : Int) := by rw [q1']; exact IntWalk.wrap64_in _ ⟨by omega, by omega⟩
            have wC : IntKind.i64.wrap ((Fs.length : Int) - (mk : Int)) = ((kept Fs).length : Int) := by rw [q2']; exact IntWalk.i64_in _ ⟨by omega, by omega⟩
            have wD : wrap64 ((Fs.length : Int) - (mk : Int)) = ((kept Fs).length : Int) := by rw [q2']; exact IntWalk.wrap64_in _ ⟨by omega, by omega⟩
            clear q1' q2' hm hcl hmF hkF
            go_wp2
            go_ret
            exact ⟨by simp, B13⟩
end Go.Proofs.Qxb6614682aMods
