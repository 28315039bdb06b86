import Derived.Test.Qxb6614682aModsHeldH
namespace Go.Proofs.Qxb6614682aMods
open Go.RowKit
set_option linter.unusedVariables false

/-- It answers with a bool. -/
def BoolOut (e : Ending) : Prop := ∃ r, e = .returned (.bool r)
theorem BoolOut.mk (r : Bool) : BoolOut (.returned (.bool r)) := ⟨r, rfl⟩
def IntOut (e : Ending) : Prop := ∃ z : Int, e = .returned (.int .i64 z) ∧ 0 ≤ z ∧ z ≤ 4000000
theorem IntOut.mk {z : Int} (h0 : 0 ≤ z) (h1 : z ≤ 4000000) : IntOut (.returned (.int .i64 z)) := ⟨z, rfl, h0, h1⟩

set_option maxHeartbeats 800000 in
theorem addCell_any (z q : Int) (x : ZC) (w : World) (h0 : 0 ≤ z) (h1 : z ≤ 1048576) (h2 : 0 ≤ q) (h3 : q ≤ 56) :
    Calls Trym.prog 20 #[.int .i64 z, .int .i64 q, .agg #[.int .u8 x.d, .string x.m, .string x.n, .int .u16 x.l, .int .u16 x.c]] w fun e w' => IntOut e ∧ Below w.heap.size w w' := by
  by_cases a1 : (1048576 : Int) < x.m.size
  · go_enter Trym.func20, Trym.ntmps20
    go_wp2
    go_ret
    exact ⟨IntOut.mk (by omega) (by omega), (Below.refl _ _).alloc (Nat.le_refl _) _⟩
  · have a1' : decide ((1048576 : Int) < x.m.size) = false := decide_eq_false a1
    by_cases a2 : (1048576 : Int) < x.n.size
    · go_enter Trym.func20, Trym.ntmps20
      go_wp2
      go_ret
      exact ⟨IntOut.mk (by omega) (by omega), (Below.refl _ _).alloc (Nat.le_refl _) _⟩
    · go_enter Trym.func20, Trym.ntmps20
      go_wp2
      go_ret
      exact ⟨IntOut.mk (by omega) (by omega), (Below.refl _ _).alloc (Nat.le_refl _) _⟩

/-- A slice that came in, seen by its parts. -/
def View {K : Type} (w : World) (a : Option Addr) (n size : Nat) (cells : K → List Value) (L : List K) : Prop :=
  L.length = n ∧ ∃ b off, (0 < n → a = some ⟨b, off, none⟩) ∧ ∀ i x, L[i]? = some x → w.rangeAt b (off + i * size) (cells x)
theorem Sl.view {K : Type} {w : World} {a : Option Addr} {n c size : Nat} {cells : K → List Value} {L : List K} (h : Sl w (.slice a n c) size (L.map cells)) : View w a n size cells L := by
  obtain ⟨ao, cap, b, off, h1, h2, _, _, _, h6⟩ := h
  rw [List.length_map] at h1 h2
  simp only [Value.slice.injEq] at h1
  obtain ⟨rfl, rfl, rfl⟩ := h1
  exact ⟨rfl, b, off, h2, fun i x hi => h6 i _ (by rw [List.getElem?_map, hi]; rfl)⟩
theorem View.at {K : Type} {w : World} {a : Option Addr} {n size : Nat} {cells : K → List Value} {L : List K} (h : View w a n size cells L) {k : Nat} (hk : k < n) : ∃ b off x, a = some ⟨b, off, none⟩ ∧ L[k]? = some x ∧ w.rangeAt b (off + k * size) (cells x) := by
  obtain ⟨hl, b, off, h1, h2⟩ := h
  have hx := List.getElem?_eq_getElem (l := L) (i := k) (by omega)
  exact ⟨b, off, _, h1 (by omega), hx, h2 k _ hx⟩

set_option maxRecDepth 100000 in
set_option maxHeartbeats 3200000 in
theorem fits_any (ac : Option Addr) (nc cc : Nat) (af : Option Addr) (nf cf : Nat) (ab : Option Addr) (nb cb : Nat) (al : Option Addr) (nl cl : Nat) (Cs : List ZC) (Fs : List ZF) (Bs : List ZB) (Ls : List ZL) (w : World)
    (h1 : nc ≤ 65536) (h2 : nf ≤ 65536) (h3 : nb ≤ 65536) (h4 : nl ≤ 65536) (vC : View w ac nc 5 ZC.cells Cs) (vF : View w af nf 6 ZF.cells Fs) (vB : View w ab nb 7 ZB.cells Bs) (vL : View w al nl 7 ZL.cells Ls) :
    Calls Trym.prog 8 #[.slice ac nc cc, .slice af nf cf, .slice ab nb cb, .slice al nl cl] w fun e w' => BoolOut e ∧ Below w.heap.size w w' := by
  go_enter Trym.func8, Trym.ntmps8
  go_wp2
  go_loopw [9, 10] (fun t i wr => ∃ k : Nat, ∃ z : Int, k ≤ nc ∧ i = .int .i64 k ∧ t = .int .i64 z ∧ 0 ≤ z ∧ z ≤ 1048576 ∧ Below w.heap.size w wr) (fun _ i _ => nc - (intOf i).toNat)
  case atStart => exact ⟨0, 0, Nat.zero_le _, rfl, rfl, by omega, by omega, Below.refl _ _⟩
  case round =>
    obtain ⟨k0, z0, hk0, rfl, rfl, hz00, hz10, hb0⟩ := hrel
    by_cases hlt0 : k0 < nc
    · obtain ⟨b, off, x, ha, hx, hr⟩ := vC.at hlt0
      subst ha
      have hszj := hb0.size
      obtain ⟨p0, p1, p2, p3, p4⟩ := range5 (rangeAt_below hr hb0 (Nat.le_refl _))
      clear vC vF vB vL hx hr
      go_wp2_with fail
      refine (addCell_any z0 40 x _ hz00 hz10 (by omega) (by omega)).mono ?_
      rintro e w1 ⟨⟨z', rfl, hz', hz''⟩, hb'⟩
      have hbb : Below w.heap.size w w1 := hb0.trans (hb'.mono hszj)
      clear p0 p1 p2 p3 p4 hb0 hb'
      by_cases hbig : (1048576 : Int) < z'
      · go_wp2
        go_ret
        exact ⟨BoolOut.mk _, hbb⟩
      · go_wp2
        go_roundw
        case rel => exact ⟨k0 + 1, z', by omega, by go_num, rfl, hz', by omega, hbb⟩
        case measure => simp [intOf]; omega
    · have hkl0 : k0 = nc := by omega
      subst hkl0
      go_wp2
      go_loopw [9, 11] (fun t i wr => ∃ k : Nat, ∃ z : Int, k ≤ nf ∧ i = .int .i64 k ∧ t = .int .i64 z ∧ 0 ≤ z ∧ z ≤ 1048576 ∧ Below w.heap.size w wr) (fun _ i _ => nf - (intOf i).toNat)
      case atStart => exact ⟨0, z0, Nat.zero_le _, rfl, rfl, by omega, by omega, hb0⟩
      case round =>
        obtain ⟨k1, z1, hk1, rfl, rfl, hz01, hz11, hb1⟩ := hrel
        by_cases hlt1 : k1 < nf
        · obtain ⟨b, off, x, ha, hx, hr⟩ := vF.at hlt1
          subst ha
          have hszj := hb1.size
          obtain ⟨p0, p1, p2, p3, p4, p5⟩ := range6 (rangeAt_below hr hb1 (Nat.le_refl _))
          clear vC vF vB vL hx hr
          go_wp2_with fail
          refine (addCell_any z1 48 x.x _ hz01 hz11 (by omega) (by omega)).mono ?_
          rintro e w1 ⟨⟨z', rfl, hz', hz''⟩, hb'⟩
          have hbb : Below w.heap.size w w1 := hb1.trans (hb'.mono hszj)
          clear p0 p1 p2 p3 p4 p5 hb1 hb'
          by_cases hbig : (1048576 : Int) < z'
          · go_wp2
            go_ret
            exact ⟨BoolOut.mk _, hbb⟩
          · go_wp2
            go_roundw
            case rel => exact ⟨k1 + 1, z', by omega, by go_num, rfl, hz', by omega, hbb⟩
            case measure => simp [intOf]; omega
        · have hkl1 : k1 = nf := by omega
          subst hkl1
          go_wp2
          go_loopw [9, 12] (fun t i wr => ∃ k : Nat, ∃ z : Int, k ≤ nb ∧ i = .int .i64 k ∧ t = .int .i64 z ∧ 0 ≤ z ∧ z ≤ 1048576 ∧ Below w.heap.size w wr) (fun _ i _ => nb - (intOf i).toNat)
          case atStart => exact ⟨0, z1, Nat.zero_le _, rfl, rfl, by omega, by omega, hb1⟩
          case round =>
            obtain ⟨k2, z2, hk2, rfl, rfl, hz02, hz12, hb2⟩ := hrel
            by_cases hlt2 : k2 < nb
            · obtain ⟨b, off, x, ha, hx, hr⟩ := vB.at hlt2
              subst ha
              have hszj := hb2.size
              obtain ⟨p0, p1, p2, p3, p4, p5, p6⟩ := range7 (rangeAt_below hr hb2 (Nat.le_refl _))
              clear vC vF vB vL hx hr
              go_wp2_with fail
              refine (addCell_any z2 56 x.x _ hz02 hz12 (by omega) (by omega)).mono ?_
              rintro e w1 ⟨⟨z', rfl, hz', hz''⟩, hb'⟩
              have hbb : Below w.heap.size w w1 := hb2.trans (hb'.mono hszj)
              clear p0 p1 p2 p3 p4 p5 p6 hb2 hb'
              by_cases hbig : (1048576 : Int) < z'
              · go_wp2
                go_ret
                exact ⟨BoolOut.mk _, hbb⟩
              · go_wp2
                go_roundw
                case rel => exact ⟨k2 + 1, z', by omega, by go_num, rfl, hz', by omega, hbb⟩
                case measure => simp [intOf]; omega
            · have hkl2 : k2 = nb := by omega
              subst hkl2
              go_wp2
              go_loopw [9, 13] (fun t i wr => ∃ k : Nat, ∃ z : Int, k ≤ nl ∧ i = .int .i64 k ∧ t = .int .i64 z ∧ 0 ≤ z ∧ z ≤ 1048576 ∧ Below w.heap.size w wr) (fun _ i _ => nl - (intOf i).toNat)
              case atStart => exact ⟨0, z2, Nat.zero_le _, rfl, rfl, by omega, by omega, hb2⟩
              case round =>
                obtain ⟨k3, z3, hk3, rfl, rfl, hz03, hz13, hb3⟩ := hrel
                by_cases hlt3 : k3 < nl
                · obtain ⟨b, off, x, ha, hx, hr⟩ := vL.at hlt3
                  subst ha
                  have hszj := hb3.size
                  obtain ⟨p0, p1, p2, p3, p4, p5, p6⟩ := range7 (rangeAt_below hr hb3 (Nat.le_refl _))
                  clear vC vF vB vL hx hr
                  go_wp2_with fail
                  refine (addCell_any z3 56 x.x _ hz03 hz13 (by omega) (by omega)).mono ?_
                  rintro e w1 ⟨⟨z', rfl, hz', hz''⟩, hb'⟩
                  have hbb : Below w.heap.size w w1 := hb3.trans (hb'.mono hszj)
                  clear p0 p1 p2 p3 p4 p5 p6 hb3 hb'
                  by_cases hbig : (1048576 : Int) < z'
                  · go_wp2
                    go_ret
                    exact ⟨BoolOut.mk _, hbb⟩
                  · go_wp2
                    go_roundw
                    case rel => exact ⟨k3 + 1, z', by omega, by go_num, rfl, hz', by omega, hbb⟩
                    case measure => simp [intOf]; omega
                · have hkl3 : k3 = nl := by omega
                  subst hkl3
                  go_wp2
                  go_ret
                  exact ⟨BoolOut.mk _, hb3⟩

end Go.Proofs.Qxb6614682aMods
