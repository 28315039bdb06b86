import Derived.Test.Qxb6614682aModsHeldI
namespace Go.Proofs.Qxb6614682aMods
open Go.RowKit
set_option linter.unusedVariables false

set_option maxRecDepth 100000 in
set_option maxHeartbeats 6400000 in
theorem bytesB_any (t m s c kk : Int) (p : Option Addr) (ac : Option Addr) (nc cc : Nat) (af : Option Addr) (nf cf : Nat) (ab : Option Addr) (nb cb : Nat) (al : Option Addr) (nl cl : Nat) (Cs : List ZC) (Fs : List ZF) (Bs : List ZB) (Ls : List ZL) (w : World)
    (vC : View w ac nc 5 ZC.cells Cs) (vF : View w af nf 6 ZF.cells Fs) (vB : View w ab nb 7 ZB.cells Bs) (vL : View w al nl 7 ZL.cells Ls) :
    Calls Trym.prog 15 #[.int .u8 t, .int .u16 m, .int .u16 s, .int .u8 c, .pointer p, .slice ac nc cc, .slice af nf cf, .slice ab nb cb, .slice al nl cl, .int .i64 kk] w fun e w' => BoolOut e ∧ w' = w := by
  go_enter Trym.func15, Trym.ntmps15
  by_cases ta0 : (1048576 : Int) < (nc : Int)
  · go_wp2
    go_ret
    exact ⟨BoolOut.mk _, rfl⟩
  have tb0 : decide ((1048576 : Int) < (nc : Int)) = false := decide_eq_false ta0
  go_wp2
  go_loop [21, 22] (fun t i => ∃ k : Nat, ∃ z : Int, k ≤ nc ∧ i = .int .i64 k ∧ t = .int .i64 z ∧ 0 ≤ z ∧ z ≤ 1048576) (fun _ i => nc - (intOf i).toNat)
  case atStart => exact ⟨0, (nc : Int), Nat.zero_le _, rfl, rfl, by omega, by omega⟩
  case round =>
    obtain ⟨k0, z0, hk0, rfl, rfl, hz00, hz10⟩ := hrel
    by_cases hlt0 : k0 < nc
    · obtain ⟨b, off, x, ha, hx, hr⟩ := vC.at hlt0
      subst ha
      obtain ⟨p0, p1, p2, p3, p4⟩ := range5 hr
      clear vC vF vB vL hx hr
      by_cases e1 : (1048576 : Int) < x.m.size
      · go_wp2
        go_ret
        exact ⟨BoolOut.mk _, rfl⟩
      by_cases e2 : (1048576 : Int) < z0 + x.m.size
      · go_wp2
        go_ret
        exact ⟨BoolOut.mk _, rfl⟩
      by_cases e3 : (1048576 : Int) < x.n.size
      · go_wp2
        go_ret
        exact ⟨BoolOut.mk _, rfl⟩
      by_cases e4 : (1048576 : Int) < z0 + x.m.size + x.n.size
      · go_wp2
        go_ret
        exact ⟨BoolOut.mk _, rfl⟩
      go_wp2
      go_round
      case rel => exact ⟨k0 + 1, z0 + x.m.size + x.n.size, by omega, by go_num, rfl, by omega, by omega⟩
      case measure => simp [intOf]; omega
    · have hkl0 : k0 = nc := by omega
      subst hkl0
      by_cases ta1 : (1048576 : Int) < (nf : Int)
      · go_wp2
        go_ret
        exact ⟨BoolOut.mk _, rfl⟩
      have tb1 : decide ((1048576 : Int) < (nf : Int)) = false := decide_eq_false ta1
      by_cases tc1 : (1048576 : Int) < z0 + (nf : Int)
      · go_wp2
        go_ret
        exact ⟨BoolOut.mk _, rfl⟩
      have td1 : decide ((1048576 : Int) < z0 + (nf : Int)) = false := decide_eq_false tc1
      go_wp2
      go_loop [21, 23] (fun t i => ∃ k : Nat, ∃ z : Int, k ≤ nf ∧ i = .int .i64 k ∧ t = .int .i64 z ∧ 0 ≤ z ∧ z ≤ 1048576) (fun _ i => nf - (intOf i).toNat)
      case atStart => exact ⟨0, z0 + (nf : Int), Nat.zero_le _, rfl, rfl, by omega, by omega⟩
      case round =>
        obtain ⟨k1, z1, hk1, rfl, rfl, hz01, hz11⟩ := hrel
        by_cases hlt1 : k1 < nf
        · obtain ⟨b, off, x, ha, hx, hr⟩ := vF.at hlt1
          subst ha
          obtain ⟨p0, p1, p2, p3, p4, p5⟩ := range6 hr
          clear vC vF vB vL hx hr
          by_cases e1 : (1048576 : Int) < x.x.m.size
          · go_wp2
            go_ret
            exact ⟨BoolOut.mk _, rfl⟩
          by_cases e2 : (1048576 : Int) < z1 + x.x.m.size
          · go_wp2
            go_ret
            exact ⟨BoolOut.mk _, rfl⟩
          by_cases e3 : (1048576 : Int) < x.x.n.size
          · go_wp2
            go_ret
            exact ⟨BoolOut.mk _, rfl⟩
          by_cases e4 : (1048576 : Int) < z1 + x.x.m.size + x.x.n.size
          · go_wp2
            go_ret
            exact ⟨BoolOut.mk _, rfl⟩
          go_wp2
          go_round
          case rel => exact ⟨k1 + 1, z1 + x.x.m.size + x.x.n.size, by omega, by go_num, rfl, by omega, by omega⟩
          case measure => simp [intOf]; omega
        · have hkl1 : k1 = nf := by omega
          subst hkl1
          by_cases ta2 : (1048576 : Int) < (nb : Int)
          · go_wp2
            go_ret
            exact ⟨BoolOut.mk _, rfl⟩
          have tb2 : decide ((1048576 : Int) < (nb : Int)) = false := decide_eq_false ta2
          by_cases tc2 : (1048576 : Int) < z1 + (nb : Int)
          · go_wp2
            go_ret
            exact ⟨BoolOut.mk _, rfl⟩
          have td2 : decide ((1048576 : Int) < z1 + (nb : Int)) = false := decide_eq_false tc2
          go_wp2
          go_loop [21, 24] (fun t i => ∃ k : Nat, ∃ z : Int, k ≤ nb ∧ i = .int .i64 k ∧ t = .int .i64 z ∧ 0 ≤ z ∧ z ≤ 1048576) (fun _ i => nb - (intOf i).toNat)
          case atStart => exact ⟨0, z1 + (nb : Int), Nat.zero_le _, rfl, rfl, by omega, by omega⟩
          case round =>
            obtain ⟨k2, z2, hk2, rfl, rfl, hz02, hz12⟩ := hrel
            by_cases hlt2 : k2 < nb
            · obtain ⟨b, off, x, ha, hx, hr⟩ := vB.at hlt2
              subst ha
              obtain ⟨p0, p1, p2, p3, p4, p5, p6⟩ := range7 hr
              clear vC vF vB vL hx hr
              by_cases e1 : (1048576 : Int) < x.x.m.size
              · go_wp2
                go_ret
                exact ⟨BoolOut.mk _, rfl⟩
              by_cases e2 : (1048576 : Int) < z2 + x.x.m.size
              · go_wp2
                go_ret
                exact ⟨BoolOut.mk _, rfl⟩
              by_cases e3 : (1048576 : Int) < x.x.n.size
              · go_wp2
                go_ret
                exact ⟨BoolOut.mk _, rfl⟩
              by_cases e4 : (1048576 : Int) < z2 + x.x.m.size + x.x.n.size
              · go_wp2
                go_ret
                exact ⟨BoolOut.mk _, rfl⟩
              go_wp2
              go_round
              case rel => exact ⟨k2 + 1, z2 + x.x.m.size + x.x.n.size, by omega, by go_num, rfl, by omega, by omega⟩
              case measure => simp [intOf]; omega
            · have hkl2 : k2 = nb := by omega
              subst hkl2
              by_cases ta3 : (1048576 : Int) < (nl : Int)
              · go_wp2
                go_ret
                exact ⟨BoolOut.mk _, rfl⟩
              have tb3 : decide ((1048576 : Int) < (nl : Int)) = false := decide_eq_false ta3
              by_cases tc3 : (1048576 : Int) < z2 + (nl : Int)
              · go_wp2
                go_ret
                exact ⟨BoolOut.mk _, rfl⟩
              have td3 : decide ((1048576 : Int) < z2 + (nl : Int)) = false := decide_eq_false tc3
              go_wp2
              go_loop [21, 25] (fun t i => ∃ k : Nat, ∃ z : Int, k ≤ nl ∧ i = .int .i64 k ∧ t = .int .i64 z ∧ 0 ≤ z ∧ z ≤ 1048576) (fun _ i => nl - (intOf i).toNat)
              case atStart => exact ⟨0, z2 + (nl : Int), Nat.zero_le _, rfl, rfl, by omega, by omega⟩
              case round =>
                obtain ⟨k3, z3, hk3, rfl, rfl, hz03, hz13⟩ := hrel
                by_cases hlt3 : k3 < nl
                · obtain ⟨b, off, x, ha, hx, hr⟩ := vL.at hlt3
                  subst ha
                  obtain ⟨p0, p1, p2, p3, p4, p5, p6⟩ := range7 hr
                  clear vC vF vB vL hx hr
                  by_cases e1 : (1048576 : Int) < x.x.m.size
                  · go_wp2
                    go_ret
                    exact ⟨BoolOut.mk _, rfl⟩
                  by_cases e2 : (1048576 : Int) < z3 + x.x.m.size
                  · go_wp2
                    go_ret
                    exact ⟨BoolOut.mk _, rfl⟩
                  by_cases e3 : (1048576 : Int) < x.x.n.size
                  · go_wp2
                    go_ret
                    exact ⟨BoolOut.mk _, rfl⟩
                  by_cases e4 : (1048576 : Int) < z3 + x.x.m.size + x.x.n.size
                  · go_wp2
                    go_ret
                    exact ⟨BoolOut.mk _, rfl⟩
                  go_wp2
                  go_round
                  case rel => exact ⟨k3 + 1, z3 + x.x.m.size + x.x.n.size, by omega, by go_num, rfl, by omega, by omega⟩
                  case measure => simp [intOf]; omega
                · have hkl3 : k3 = nl := by omega
                  subst hkl3
                  go_wp2
                  go_ret
                  exact ⟨BoolOut.mk _, rfl⟩

end Go.Proofs.Qxb6614682aMods
