import Derived.Test.Qxb6614682aModsHeldJ
import Derived.Deep.QuietTactic
import Derived.BigQuiet
namespace Go.Proofs.Qxb6614682aMods
open Go.RowKit
set_option linter.unusedVariables false

/-- What the law looks at: the answer in its own block, its rows, and the arguments. -/
structure Seen (w : World) (M : Nat) (t m s c : Int) (p q : Option Addr) (x : Option Int) (ac : Option Addr) (nc : Nat) (af : Option Addr) (nf : Nat) (ab : Option Addr) (nb : Nat) (al : Option Addr) (nl : Nat)
    (oc : Option Addr) (mc kc : Nat) (of : Option Addr) (mf kf : Nat) (ob : Option Addr) (kb : Nat) (ol : Option Addr) (kl : Nat) (Cs : List ZC) (Fs : List ZF) (Bs : List ZB) (Ls : List ZL) : Prop where
  hblk : w.heap[M]? = some (.cells #[.int .u8 t, .int .u16 m, .int .u16 s, .int .u8 c, .pointer q, .slice oc mc kc, .slice of mf kf, .slice ob nb kb, .slice ol nl kl] 39 (0, 0))
  hp : At w p x
  hq : At w q x
  hc : View w ac nc 5 ZC.cells Cs
  hf : View w af nf 6 ZF.cells Fs
  hb : View w ab nb 7 ZB.cells Bs
  hl : View w al nl 7 ZL.cells Ls
  hoc : View w oc mc 5 ZC.cells (Cs ++ moved Fs)
  hof : View w of mf 6 ZF.cells (kept Fs)
  hob : View w ob nb 7 ZB.cells Bs
  hol : View w ol nl 7 ZL.cells Ls
  hnb : ob.isNone = ab.isNone
  hnl : ol.isNone = al.isNone

theorem View.below {K : Type} {w w' : World} {a : Option Addr} {n size N : Nat} {cells : K → List Value} {L : List K} (h : View w a n size cells L) (hb : Below N w w') (hN : w.heap.size ≤ N) : View w' a n size cells L := by
  obtain ⟨hl, b, off, h1, h2⟩ := h
  exact ⟨hl, b, off, h1, fun i x hi => rangeAt_below (h2 i x hi) hb hN⟩
theorem Seen.below {w w' : World} {M : Nat} {t m s c : Int} {p q : Option Addr} {x : Option Int} {ac : Option Addr} {nc : Nat} {af : Option Addr} {nf : Nat} {ab : Option Addr} {nb : Nat} {al : Option Addr} {nl : Nat}
    {oc : Option Addr} {mc kc : Nat} {of : Option Addr} {mf kf : Nat} {ob : Option Addr} {kb : Nat} {ol : Option Addr} {kl : Nat} {Cs : List ZC} {Fs : List ZF} {Bs : List ZB} {Ls : List ZL} {N : Nat}
    (h : Seen w M t m s c p q x ac nc af nf ab nb al nl oc mc kc of mf kf ob kb ol kl Cs Fs Bs Ls) (hb : Below N w w') (hN : w.heap.size ≤ N) : Seen w' M t m s c p q x ac nc af nf ab nb al nl oc mc kc of mf kf ob kb ol kl Cs Fs Bs Ls := by
  have hM := (Array.getElem?_eq_some_iff.1 h.hblk).1
  exact ⟨(hb.block M (by omega)).trans h.hblk, h.hp.below hb hN, h.hq.below hb hN, h.hc.below hb hN, h.hf.below hb hN, h.hb.below hb hN, h.hl.below hb hN, h.hoc.below hb hN, h.hof.below hb hN, h.hob.below hb hN, h.hol.below hb hN, h.hnb, h.hnl⟩

set_option maxRecDepth 100000 in
set_option maxHeartbeats 800000 in
theorem lawA_bytes (t m s c : Int) (p : Option Addr) (x : Option Int) (ac : Option Addr) (nc cc : Nat) (af : Option Addr) (nf cf : Nat) (ab : Option Addr) (nb cb : Nat) (al : Option Addr) (nl cl : Nat) (Cs : List ZC) (Fs : List ZF) (Bs : List ZB) (Ls : List ZL) (w : World)
    (hI : In w p x (.slice ac nc cc) (.slice af nf cf) (.slice ab nb cb) (.slice al nl cl) Cs Fs Bs Ls)
    (hbig : 65536 < nc ∨ 65536 < nf ∨ 65536 < nb ∨ 65536 < nl) :
    Calls Trym.prog 3 #[.int .u8 t, .int .u16 m, .int .u16 s, .int .u8 c, .pointer p, .slice ac nc cc, .slice af nf cf, .slice ab nb cb, .slice al nl cl] w fun e w' => e = .returned (.bool true) ∧ Below w.heap.size w w' := by
  have hV := bytesA_any t m s c p ac nc cc af nf cf ab nb cb al nl cl Cs Fs Bs Ls w hI.c.view hI.f.view hI.b.view hI.l.view
  clear hI
  by_cases b1 : (65536 : Int) < nc
  · have B1 : decide ((65536 : Int) < nc) = true := decide_eq_true b1
    go_enter Trym.func3, Trym.ntmps3
    go_wp2_with fail
    refine hV.mono ?_
    rintro e w1 ⟨⟨r, rfl⟩, hw⟩
    obtain rfl := hw.symm
    cases r <;> (go_wp2; go_ret; exact ⟨rfl, Below.refl _ _⟩)
  have B1 : decide ((65536 : Int) < nc) = false := decide_eq_false b1
  by_cases b2 : (65536 : Int) < nf
  · have B2 : decide ((65536 : Int) < nf) = true := decide_eq_true b2
    go_enter Trym.func3, Trym.ntmps3
    go_wp2_with fail
    refine hV.mono ?_
    rintro e w1 ⟨⟨r, rfl⟩, hw⟩
    obtain rfl := hw.symm
    cases r <;> (go_wp2; go_ret; exact ⟨rfl, Below.refl _ _⟩)
  have B2 : decide ((65536 : Int) < nf) = false := decide_eq_false b2
  by_cases b3 : (65536 : Int) < nb
  · have B3 : decide ((65536 : Int) < nb) = true := decide_eq_true b3
    go_enter Trym.func3, Trym.ntmps3
    go_wp2_with fail
    refine hV.mono ?_
    rintro e w1 ⟨⟨r, rfl⟩, hw⟩
    obtain rfl := hw.symm
    cases r <;> (go_wp2; go_ret; exact ⟨rfl, Below.refl _ _⟩)
  have B3 : decide ((65536 : Int) < nb) = false := decide_eq_false b3
  have b4 : (65536 : Int) < nl := by omega
  have B4 : decide ((65536 : Int) < nl) = true := decide_eq_true b4
  go_enter Trym.func3, Trym.ntmps3
  go_wp2_with fail
  refine hV.mono ?_
  rintro e w1 ⟨⟨r, rfl⟩, hw⟩
  obtain rfl := hw.symm
  cases r <;> (go_wp2; go_ret; exact ⟨rfl, Below.refl _ _⟩)
end Go.Proofs.Qxb6614682aMods
