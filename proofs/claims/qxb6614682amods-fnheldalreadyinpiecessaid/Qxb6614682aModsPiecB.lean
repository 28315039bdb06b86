import Derived.Test.Qxb6614682aModsHeldI
import Derived.Deep.QuietTactic
import Derived.BigQuiet
namespace Go.Proofs.Qxb6614682aMods
open Go.RowKit
set_option linter.unusedVariables false

theorem View.under {K : Type} {w w' : World} {a : Option Addr} {n size N : Nat} {cells : K → List Value} {L : List K} (h : View w a n size cells L) (hb : Below N w w') (hN : w.heap.size ≤ N) : View w' a n size cells L := by
  obtain ⟨hl, b, off, h1, h2⟩ := h
  exact ⟨hl, b, off, h1, fun i x hi => rangeAt_below (h2 i x hi) hb hN⟩
theorem cell_under {w w' : World} {a : Addr} {v : Value} {N : Nat} (h : w.cell? a = some v) (hb : Below N w w') (hN : w.heap.size ≤ N) : w'.cell? a = some v :=
  (hb.cell (Nat.lt_of_lt_of_le (World.block_lt_of_cell? w _ h) hN)).trans h
theorem cell_new (w : World) (cs : Array Value) (t : TypeId) (j : Nat) {v : Value} (h : cs[j]? = some v) : (w.alloc (.cells cs t)).cell? ⟨w.heap.size, j, none⟩ = some v := blk_cell (heap_alloc_new w (.cells cs t)) h

/-- Two answers in blocks N and N + 1 that bear the same lists. -/
structure Pair (w : World) (N : Nat) (ac1 : Option Addr) (cc1 : Nat) (ac2 : Option Addr) (cc2 : Nat) (nc : Nat) (af1 : Option Addr) (cf1 : Nat) (af2 : Option Addr) (cf2 : Nat) (nf : Nat) (ab1 : Option Addr) (cb1 : Nat) (ab2 : Option Addr) (cb2 : Nat) (nb : Nat) (al1 : Option Addr) (cl1 : Nat) (al2 : Option Addr) (cl2 : Nat) (nl : Nat) (Cs : List ZC) (Fs : List ZF) (Bs : List ZB) (Ls : List ZL) : Prop where
  xc : w.cell? ⟨N, 5, none⟩ = some (.slice ac1 nc cc1)
  yc : w.cell? ⟨N + 1, 5, none⟩ = some (.slice ac2 nc cc2)
  uc : View w ac1 nc 5 ZC.cells Cs
  vc : View w ac2 nc 5 ZC.cells Cs
  xf : w.cell? ⟨N, 6, none⟩ = some (.slice af1 nf cf1)
  yf : w.cell? ⟨N + 1, 6, none⟩ = some (.slice af2 nf cf2)
  uf : View w af1 nf 6 ZF.cells Fs
  vf : View w af2 nf 6 ZF.cells Fs
  xb : w.cell? ⟨N, 7, none⟩ = some (.slice ab1 nb cb1)
  yb : w.cell? ⟨N + 1, 7, none⟩ = some (.slice ab2 nb cb2)
  ub : View w ab1 nb 7 ZB.cells Bs
  vb : View w ab2 nb 7 ZB.cells Bs
  xl : w.cell? ⟨N, 8, none⟩ = some (.slice al1 nl cl1)
  yl : w.cell? ⟨N + 1, 8, none⟩ = some (.slice al2 nl cl2)
  ul : View w al1 nl 7 ZL.cells Ls
  vl : View w al2 nl 7 ZL.cells Ls
theorem Pair.below {w w' : World} {N B : Nat} {ac1 : Option Addr} {cc1 : Nat} {ac2 : Option Addr} {cc2 : Nat} {nc : Nat} {af1 : Option Addr} {cf1 : Nat} {af2 : Option Addr} {cf2 : Nat} {nf : Nat} {ab1 : Option Addr} {cb1 : Nat} {ab2 : Option Addr} {cb2 : Nat} {nb : Nat} {al1 : Option Addr} {cl1 : Nat} {al2 : Option Addr} {cl2 : Nat} {nl : Nat} {Cs : List ZC} {Fs : List ZF} {Bs : List ZB} {Ls : List ZL} (h : Pair w N ac1 cc1 ac2 cc2 nc af1 cf1 af2 cf2 nf ab1 cb1 ab2 cb2 nb al1 cl1 al2 cl2 nl Cs Fs Bs Ls) (hb : Below B w w') (hN : w.heap.size ≤ B) : Pair w' N ac1 cc1 ac2 cc2 nc af1 cf1 af2 cf2 nf ab1 cb1 ab2 cb2 nb al1 cl1 al2 cl2 nl Cs Fs Bs Ls :=
  ⟨cell_under h.xc hb hN, cell_under h.yc hb hN, h.uc.under hb hN, h.vc.under hb hN, cell_under h.xf hb hN, cell_under h.yf hb hN, h.uf.under hb hN, h.vf.under hb hN, cell_under h.xb hb hN, cell_under h.yb hb hN, h.ub.under hb hN, h.vb.under hb hN, cell_under h.xl hb hN, cell_under h.yl hb hN, h.ul.under hb hN, h.vl.under hb hN⟩

set_option maxRecDepth 100000 in
set_option maxHeartbeats 6400000 in
theorem eq_any (t m s c : Int) (p1 p2 : Option Addr) (x : Option Int) (ac1 : Option Addr) (cc1 : Nat) (ac2 : Option Addr) (cc2 : Nat) (nc : Nat) (af1 : Option Addr) (cf1 : Nat) (af2 : Option Addr) (cf2 : Nat) (nf : Nat) (ab1 : Option Addr) (cb1 : Nat) (ab2 : Option Addr) (cb2 : Nat) (nb : Nat) (al1 : Option Addr) (cl1 : Nat) (al2 : Option Addr) (cl2 : Nat) (nl : Nat) (Cs : List ZC) (Fs : List ZF) (Bs : List ZB) (Ls : List ZL) (w : World)
    (hp1 : At w p1 x) (hp2 : At w p2 x) (huc : View w ac1 nc 5 ZC.cells Cs) (hvc : View w ac2 nc 5 ZC.cells Cs) (hnc : nc ≤ 1000000) (huf : View w af1 nf 6 ZF.cells Fs) (hvf : View w af2 nf 6 ZF.cells Fs) (hnf : nf ≤ 1000000) (hub : View w ab1 nb 7 ZB.cells Bs) (hvb : View w ab2 nb 7 ZB.cells Bs) (hnb : nb ≤ 1000000) (hul : View w al1 nl 7 ZL.cells Ls) (hvl : View w al2 nl 7 ZL.cells Ls) (hnl : nl ≤ 1000000) :
    Calls Trym.prog 17 #[.agg #[.int .u8 t, .int .u16 m, .int .u16 s, .int .u8 c, .pointer p1, .slice ac1 nc cc1, .slice af1 nf cf1, .slice ab1 nb cb1, .slice al1 nl cl1], .agg #[.int .u8 t, .int .u16 m, .int .u16 s, .int .u8 c, .pointer p2, .slice ac2 nc cc2, .slice af2 nf cf2, .slice ab2 nb cb2, .slice al2 nl cl2]] w fun e w' => e = .returned (.bool true) ∧ Below w.heap.size w w' := by
  have BA : Below w.heap.size w ((w.alloc (.cells #[.int .u8 t, .int .u16 m, .int .u16 s, .int .u8 c, .pointer p1, .slice ac1 nc cc1, .slice af1 nf cf1, .slice ab1 nb cb1, .slice al1 nl cl1] 39)).alloc (.cells #[.int .u8 t, .int .u16 m, .int .u16 s, .int .u8 c, .pointer p2, .slice ac2 nc cc2, .slice af2 nf cf2, .slice ab2 nb cb2, .slice al2 nl cl2] 39)) := ((Below.refl _ _).alloc (Nat.le_refl _) _).alloc (by simp) _
  have S0 : Pair ((w.alloc (.cells #[.int .u8 t, .int .u16 m, .int .u16 s, .int .u8 c, .pointer p1, .slice ac1 nc cc1, .slice af1 nf cf1, .slice ab1 nb cb1, .slice al1 nl cl1] 39)).alloc (.cells #[.int .u8 t, .int .u16 m, .int .u16 s, .int .u8 c, .pointer p2, .slice ac2 nc cc2, .slice af2 nf cf2, .slice ab2 nb cb2, .slice al2 nl cl2] 39)) w.heap.size ac1 cc1 ac2 cc2 nc af1 cf1 af2 cf2 nf ab1 cb1 ab2 cb2 nb al1 cl1 al2 cl2 nl Cs Fs Bs Ls := by
    have h2 : ∀ (j : Nat) v, (#[.int .u8 t, .int .u16 m, .int .u16 s, .int .u8 c, .pointer p2, .slice ac2 nc cc2, .slice af2 nf cf2, .slice ab2 nb cb2, .slice al2 nl cl2] : Array Value)[j]? = some v → ((w.alloc (.cells #[.int .u8 t, .int .u16 m, .int .u16 s, .int .u8 c, .pointer p1, .slice ac1 nc cc1, .slice af1 nf cf1, .slice ab1 nb cb1, .slice al1 nl cl1] 39)).alloc (.cells #[.int .u8 t, .int .u16 m, .int .u16 s, .int .u8 c, .pointer p2, .slice ac2 nc cc2, .slice af2 nf cf2, .slice ab2 nb cb2, .slice al2 nl cl2] 39)).cell? ⟨w.heap.size + 1, j, none⟩ = some v := fun j v hv => by
      have := cell_new (w.alloc (.cells #[.int .u8 t, .int .u16 m, .int .u16 s, .int .u8 c, .pointer p1, .slice ac1 nc cc1, .slice af1 nf cf1, .slice ab1 nb cb1, .slice al1 nl cl1] 39)) #[.int .u8 t, .int .u16 m, .int .u16 s, .int .u8 c, .pointer p2, .slice ac2 nc cc2, .slice af2 nf cf2, .slice ab2 nb cb2, .slice al2 nl cl2] 39 j hv
      rw [World.size_alloc] at this
      exact this
    have h1 : ∀ (j : Nat) v, (#[.int .u8 t, .int .u16 m, .int .u16 s, .int .u8 c, .pointer p1, .slice ac1 nc cc1, .slice af1 nf cf1, .slice ab1 nb cb1, .slice al1 nl cl1] : Array Value)[j]? = some v → ((w.alloc (.cells #[.int .u8 t, .int .u16 m, .int .u16 s, .int .u8 c, .pointer p1, .slice ac1 nc cc1, .slice af1 nf cf1, .slice ab1 nb cb1, .slice al1 nl cl1] 39)).alloc (.cells #[.int .u8 t, .int .u16 m, .int .u16 s, .int .u8 c, .pointer p2, .slice ac2 nc cc2, .slice af2 nf cf2, .slice ab2 nb cb2, .slice al2 nl cl2] 39)).cell? ⟨w.heap.size, j, none⟩ = some v := fun j v hv =>
      cell_under (cell_new w #[.int .u8 t, .int .u16 m, .int .u16 s, .int .u8 c, .pointer p1, .slice ac1 nc cc1, .slice af1 nf cf1, .slice ab1 nb cb1, .slice al1 nl cl1] 39 j hv) ((Below.refl _ _).alloc (Nat.le_refl _) _) (Nat.le_refl _)
    exact ⟨h1 5 _ rfl, h2 5 _ rfl, huc.under BA (Nat.le_refl _), hvc.under BA (Nat.le_refl _), h1 6 _ rfl, h2 6 _ rfl, huf.under BA (Nat.le_refl _), hvf.under BA (Nat.le_refl _), h1 7 _ rfl, h2 7 _ rfl, hub.under BA (Nat.le_refl _), hvb.under BA (Nat.le_refl _), h1 8 _ rfl, h2 8 _ rfl, hul.under BA (Nat.le_refl _), hvl.under BA (Nat.le_refl _)⟩
  have hpq : (p1 = none ∧ p2 = none) ∨ ∃ b o b' o' v, p1 = some ⟨b, o, none⟩ ∧ p2 = some ⟨b', o', none⟩ ∧ ((w.alloc (.cells #[.int .u8 t, .int .u16 m, .int .u16 s, .int .u8 c, .pointer p1, .slice ac1 nc cc1, .slice af1 nf cf1, .slice ab1 nb cb1, .slice al1 nl cl1] 39)).alloc (.cells #[.int .u8 t, .int .u16 m, .int .u16 s, .int .u8 c, .pointer p2, .slice ac2 nc cc2, .slice af2 nf cf2, .slice ab2 nb cb2, .slice al2 nl cl2] 39)).cell? ⟨b, o, none⟩ = some (.int .u16 v) ∧ ((w.alloc (.cells #[.int .u8 t, .int .u16 m, .int .u16 s, .int .u8 c, .pointer p1, .slice ac1 nc cc1, .slice af1 nf cf1, .slice ab1 nb cb1, .slice al1 nl cl1] 39)).alloc (.cells #[.int .u8 t, .int .u16 m, .int .u16 s, .int .u8 c, .pointer p2, .slice ac2 nc cc2, .slice af2 nf cf2, .slice ab2 nb cb2, .slice al2 nl cl2] 39)).cell? ⟨b', o', none⟩ = some (.int .u16 v) := by
    rcases hp1 with ⟨rfl, rfl⟩ | ⟨b, o, v, rfl, rfl, hc⟩
    · rcases hp2 with ⟨_, rfl⟩ | ⟨_, _, _, h, _⟩
      · exact .inl ⟨rfl, rfl⟩
      · cases h
    · rcases hp2 with ⟨h, _⟩ | ⟨b', o', v', h, rfl, hc'⟩
      · cases h
      · cases h
        exact .inr ⟨b, o, b', o', v, rfl, rfl, cell_under hc BA (Nat.le_refl _), cell_under hc' BA (Nat.le_refl _)⟩
  clear hp1 hp2 huc hvc huf hvf hub hvb hul hvl
  rcases hpq with ⟨rfl, rfl⟩ | ⟨b, o, b', o', v, rfl, rfl, cp, cq⟩
  all_goals
    go_enter Trym.func17, Trym.ntmps17
    go_wp2_with fail
    go_quiet (fail)
    go_wp2_with fail
    have S1 := S0.below (below_drewN (Below.refl _ _) nq) (Nat.le_refl _)
    have BW := below_drewN BA nq
    clear S0 BA
    try clear cp cq
    go_loopw [5] (fun i wr => ∃ k : Nat, k ≤ nc ∧ i = .int .i64 k ∧ Pair wr w.heap.size ac1 cc1 ac2 cc2 nc af1 cf1 af2 cf2 nf ab1 cb1 ab2 cb2 nb al1 cl1 al2 cl2 nl Cs Fs Bs Ls ∧ Below w.heap.size w wr) (fun i _ => nc - (intOf i).toNat)
    case atStart => exact ⟨0, Nat.zero_le _, rfl, S1, BW⟩
    case round =>
      clear S1 BW
      obtain ⟨k0, hk0, rfl, T0, hb0⟩ := hrel
      by_cases hlt0 : k0 < nc
      · obtain ⟨b1, o1, x1, e1, hx1, r1⟩ := T0.uc.at hlt0
        obtain ⟨b2, o2, x2, e2, hx2, r2⟩ := T0.vc.at hlt0
        rw [hx1] at hx2
        cases hx2
        subst e1 e2
        have gx := T0.xc
        have gy := T0.yc
        obtain ⟨p0, p1, p2, p3, p4⟩ := range5 r1
        obtain ⟨q0, q1, q2, q3, q4⟩ := range5 r2
        have hi0 : (0 : Int) ≤ (k0 : Int) := Int.natCast_nonneg _
        have hi1 : (k0 : Int) < (nc : Int) := by omega
        clear r1 r2 hx1
        go_wp2_with fail
        go_quiet (fail)
        clear gx gy p0 q0 p1 q1 p2 q2 p3 q3 p4 q4
        go_wp2_with fail
        go_roundw
        case rel => first | exact ⟨k0 + 1, by omega, by go_num, T0.below (below_drewN (Below.refl _ _) nq) (Nat.le_refl _), below_drewN hb0 nq⟩ | ((repeat apply Exists.intro); exact ⟨⟨k0 + 1, by omega, by go_num, T0.below (below_drewN (Below.refl _ _) nq) (Nat.le_refl _), below_drewN hb0 nq⟩, rfl⟩)
        case measure => simp [intOf]; omega
      · have hkl0 : nc = k0 := by omega
        subst hkl0
        have gn := T0.xc
        go_wp2_with fail
        clear gn
        go_loopw [6] (fun i wr => ∃ k : Nat, k ≤ nf ∧ i = .int .i64 k ∧ Pair wr w.heap.size ac1 cc1 ac2 cc2 nc af1 cf1 af2 cf2 nf ab1 cb1 ab2 cb2 nb al1 cl1 al2 cl2 nl Cs Fs Bs Ls ∧ Below w.heap.size w wr) (fun i _ => nf - (intOf i).toNat)
        case atStart => exact ⟨0, Nat.zero_le _, rfl, T0, hb0⟩
        case round =>
          clear T0 hb0 hlt0
          obtain ⟨k1, hk1, rfl, T1, hb1⟩ := hrel
          by_cases hlt1 : k1 < nf
          · obtain ⟨b1, o1, x1, e1, hx1, r1⟩ := T1.uf.at hlt1
            obtain ⟨b2, o2, x2, e2, hx2, r2⟩ := T1.vf.at hlt1
            rw [hx1] at hx2
            cases hx2
            subst e1 e2
            have gx := T1.xf
            have gy := T1.yf
            obtain ⟨p0, p1, p2, p3, p4, p5⟩ := range6 r1
            obtain ⟨q0, q1, q2, q3, q4, q5⟩ := range6 r2
            have hi0 : (0 : Int) ≤ (k1 : Int) := Int.natCast_nonneg _
            have hi1 : (k1 : Int) < (nf : Int) := by omega
            clear r1 r2 hx1
            go_wp2_with fail
            go_quiet (fail)
            clear gx gy p0 q0 p1 q1 p2 q2 p3 q3 p4 q4 p5 q5
            go_wp2_with fail
            go_roundw
            case rel => first | exact ⟨k1 + 1, by omega, by go_num, T1.below (below_drewN (Below.refl _ _) nq) (Nat.le_refl _), below_drewN hb1 nq⟩ | ((repeat apply Exists.intro); exact ⟨⟨k1 + 1, by omega, by go_num, T1.below (below_drewN (Below.refl _ _) nq) (Nat.le_refl _), below_drewN hb1 nq⟩, rfl⟩)
            case measure => simp [intOf]; omega
          · have hkl1 : nf = k1 := by omega
            subst hkl1
            have gn := T1.xf
            go_wp2_with fail
            clear gn
            go_loopw [7] (fun i wr => ∃ k : Nat, k ≤ nb ∧ i = .int .i64 k ∧ Pair wr w.heap.size ac1 cc1 ac2 cc2 nc af1 cf1 af2 cf2 nf ab1 cb1 ab2 cb2 nb al1 cl1 al2 cl2 nl Cs Fs Bs Ls ∧ Below w.heap.size w wr) (fun i _ => nb - (intOf i).toNat)
            case atStart => exact ⟨0, Nat.zero_le _, rfl, T1, hb1⟩
            case round =>
              clear T1 hb1 hlt1
              obtain ⟨k2, hk2, rfl, T2, hb2⟩ := hrel
              by_cases hlt2 : k2 < nb
              · obtain ⟨b1, o1, x1, e1, hx1, r1⟩ := T2.ub.at hlt2
                obtain ⟨b2, o2, x2, e2, hx2, r2⟩ := T2.vb.at hlt2
                rw [hx1] at hx2
                cases hx2
                subst e1 e2
                have gx := T2.xb
                have gy := T2.yb
                obtain ⟨p0, p1, p2, p3, p4, p5, p6⟩ := range7 r1
                obtain ⟨q0, q1, q2, q3, q4, q5, q6⟩ := range7 r2
                have hi0 : (0 : Int) ≤ (k2 : Int) := Int.natCast_nonneg _
                have hi1 : (k2 : Int) < (nb : Int) := by omega
                clear r1 r2 hx1
                go_wp2_with fail
                go_quiet (fail)
                clear gx gy p0 q0 p1 q1 p2 q2 p3 q3 p4 q4 p5 q5 p6 q6
                go_wp2_with fail
                go_roundw
                case rel => first | exact ⟨k2 + 1, by omega, by go_num, T2.below (below_drewN (Below.refl _ _) nq) (Nat.le_refl _), below_drewN hb2 nq⟩ | ((repeat apply Exists.intro); exact ⟨⟨k2 + 1, by omega, by go_num, T2.below (below_drewN (Below.refl _ _) nq) (Nat.le_refl _), below_drewN hb2 nq⟩, rfl⟩)
                case measure => simp [intOf]; omega
              · have hkl2 : nb = k2 := by omega
                subst hkl2
                have gn := T2.xb
                go_wp2_with fail
                clear gn
                go_loopw [8] (fun i wr => ∃ k : Nat, k ≤ nl ∧ i = .int .i64 k ∧ Pair wr w.heap.size ac1 cc1 ac2 cc2 nc af1 cf1 af2 cf2 nf ab1 cb1 ab2 cb2 nb al1 cl1 al2 cl2 nl Cs Fs Bs Ls ∧ Below w.heap.size w wr) (fun i _ => nl - (intOf i).toNat)
                case atStart => exact ⟨0, Nat.zero_le _, rfl, T2, hb2⟩
                case round =>
                  clear T2 hb2 hlt2
                  obtain ⟨k3, hk3, rfl, T3, hb3⟩ := hrel
                  by_cases hlt3 : k3 < nl
                  · obtain ⟨b1, o1, x1, e1, hx1, r1⟩ := T3.ul.at hlt3
                    obtain ⟨b2, o2, x2, e2, hx2, r2⟩ := T3.vl.at hlt3
                    rw [hx1] at hx2
                    cases hx2
                    subst e1 e2
                    have gx := T3.xl
                    have gy := T3.yl
                    obtain ⟨p0, p1, p2, p3, p4, p5, p6⟩ := range7 r1
                    obtain ⟨q0, q1, q2, q3, q4, q5, q6⟩ := range7 r2
                    have hi0 : (0 : Int) ≤ (k3 : Int) := Int.natCast_nonneg _
                    have hi1 : (k3 : Int) < (nl : Int) := by omega
                    clear r1 r2 hx1
                    go_wp2_with fail
                    go_quiet (fail)
                    clear gx gy p0 q0 p1 q1 p2 q2 p3 q3 p4 q4 p5 q5 p6 q6
                    go_wp2_with fail
                    go_roundw
                    case rel => first | exact ⟨k3 + 1, by omega, by go_num, T3.below (below_drewN (Below.refl _ _) nq) (Nat.le_refl _), below_drewN hb3 nq⟩ | ((repeat apply Exists.intro); exact ⟨⟨k3 + 1, by omega, by go_num, T3.below (below_drewN (Below.refl _ _) nq) (Nat.le_refl _), below_drewN hb3 nq⟩, rfl⟩)
                    case measure => simp [intOf]; omega
                  · have hkl3 : nl = k3 := by omega
                    subst hkl3
                    have gn := T3.xl
                    go_wp2
                    go_ret
                    exact ⟨rfl, hb3⟩
end Go.Proofs.Qxb6614682aMods
