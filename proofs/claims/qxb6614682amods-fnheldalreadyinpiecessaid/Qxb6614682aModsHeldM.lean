import Derived.Test.Qxb6614682aModsHeldG
import Derived.ProofKit
import Derived.OpenShut
import Derived.ShutString
import Derived.ChangeOld
import Derived.Deep.Slices
namespace Go.Proofs.Qxb6614682aMods
open Go.ChangeShapes Go.WideShapes Go.ChangeAt Go.RowKit
set_option linter.unusedVariables false

/-! ### From what an argument reads as to what the walk is told of it -/
section
variable {H : Type} {enc : TypeId × Value → H} {w : World} {base : Nat} {spare : Nat → Bool} {held : Bool}

theorem trod_ZC {n : Nat} {cs : List Value} {y : DataW H × List MemPlace} (h : DataW.trod enc Trym.prog w base spare held n 53 cs = some y) (hl : cs.length = 5) : ∃ z : ZC, cs = z.cells := by
  obtain ⟨xs, k, hk, hxy, _, hxl, hf⟩ := DataW.trod_struct Trym.underlying53 h
  match xs, hxl, cs, hl with
  | [y0, y1, y2, y3, y4], _, [a0, a1, a2, a3, a4], _ =>
    have g0 := hf 0 _ rfl
    have g1 := hf 1 _ rfl
    have g2 := hf 2 _ rfl
    have g3 := hf 3 _ rfl
    have g4 := hf 4 _ rfl
    simp [show Trym.prog.cellsOf 5 = 1 from by kernel_rfl, show Trym.prog.cellsOf 9 = 1 from by kernel_rfl, show Trym.prog.cellsOf 22 = 1 from by kernel_rfl] at g0 g1 g2 g3 g4
    obtain ⟨d, e0, _⟩ := DataW.trod_int Trym.underlying5 g0
    obtain ⟨m, e1, _⟩ := DataW.trod_string Trym.underlying9 g1
    obtain ⟨n', e2, _⟩ := DataW.trod_string Trym.underlying9 g2
    obtain ⟨l, e3, _⟩ := DataW.trod_int Trym.underlying22 g3
    obtain ⟨c, e4, _⟩ := DataW.trod_int Trym.underlying22 g4
    simp at e0 e1 e2 e3 e4
    subst e0 e1 e2 e3 e4
    exact ⟨⟨d, m, n', l, c⟩, rfl⟩

theorem trod_ZF {n : Nat} {cs : List Value} {y : DataW H × List MemPlace} (h : DataW.trod enc Trym.prog w base spare held n 55 cs = some y) (hl : cs.length = 6) : ∃ z : ZF, cs = z.cells := by
  obtain ⟨xs, k, hk, hxy, _, hxl, hf⟩ := DataW.trod_struct Trym.underlying55 h
  match xs, hxl, cs, hl with
  | [y0, y1], _, [a0, a1, a2, a3, a4, a5], _ =>
    have g0 := hf 0 _ rfl
    have g1 := hf 1 _ rfl
    simp [show Trym.prog.cellsOf 5 = 1 from by kernel_rfl, show Trym.prog.cellsOf 53 = 5 from by kernel_rfl] at g0 g1
    obtain ⟨x, e0⟩ := trod_ZC g0 rfl
    obtain ⟨z, e1, _⟩ := DataW.trod_int Trym.underlying5 g1
    simp [ZC.cells] at e0 e1
    obtain ⟨rfl, rfl, rfl, rfl, rfl⟩ := e0
    subst e1
    exact ⟨⟨x, z⟩, rfl⟩

theorem trod_ZB {n : Nat} {cs : List Value} {y : DataW H × List MemPlace} (h : DataW.trod enc Trym.prog w base spare held n 67 cs = some y) (hl : cs.length = 7) : ∃ z : ZB, cs = z.cells := by
  obtain ⟨xs, k, hk, hxy, _, hxl, hf⟩ := DataW.trod_struct Trym.underlying67 h
  match xs, hxl, cs, hl with
  | [y0, y1, y2], _, [a0, a1, a2, a3, a4, a5, a6], _ =>
    have g0 := hf 0 _ rfl
    have g1 := hf 1 _ rfl
    have g2 := hf 2 _ rfl
    simp [show Trym.prog.cellsOf 5 = 1 from by kernel_rfl, show Trym.prog.cellsOf 3 = 1 from by kernel_rfl, show Trym.prog.cellsOf 53 = 5 from by kernel_rfl] at g0 g1 g2
    obtain ⟨x, e0⟩ := trod_ZC g0 rfl
    obtain ⟨z, e1, _⟩ := DataW.trod_int Trym.underlying3 g1
    obtain ⟨z', e2, _⟩ := DataW.trod_int Trym.underlying5 g2
    simp [ZC.cells] at e0 e1 e2
    obtain ⟨rfl, rfl, rfl, rfl, rfl⟩ := e0
    subst e1 e2
    exact ⟨⟨x, z, z'⟩, rfl⟩

theorem trod_ZL {n : Nat} {cs : List Value} {y : DataW H × List MemPlace} (h : DataW.trod enc Trym.prog w base spare held n 74 cs = some y) (hl : cs.length = 7) : ∃ z : ZL, cs = z.cells := by
  obtain ⟨xs, k, hk, hxy, _, hxl, hf⟩ := DataW.trod_struct Trym.underlying74 h
  match xs, hxl, cs, hl with
  | [y0, y1, y2], _, [a0, a1, a2, a3, a4, a5, a6], _ =>
    have g0 := hf 0 _ rfl
    have g1 := hf 1 _ rfl
    have g2 := hf 2 _ rfl
    simp [show Trym.prog.cellsOf 3 = 1 from by kernel_rfl, show Trym.prog.cellsOf 53 = 5 from by kernel_rfl] at g0 g1 g2
    obtain ⟨x, e0⟩ := trod_ZC g0 rfl
    obtain ⟨z, e1, _⟩ := DataW.trod_int Trym.underlying3 g1
    obtain ⟨z', e2, _⟩ := DataW.trod_int Trym.underlying3 g2
    simp [ZC.cells] at e0 e1 e2
    obtain ⟨rfl, rfl, rfl, rfl, rfl⟩ := e0
    subst e1 e2
    exact ⟨⟨x, z, z'⟩, rfl⟩

theorem list_of {K : Type} {p : Nat → K → Prop} : ∀ {n : Nat}, (∀ i, i < n → ∃ z, p i z) → ∃ L : List K, L.length = n ∧ ∀ i z, L[i]? = some z → p i z
  | 0, _ => ⟨[], rfl, fun i z h => by simp at h⟩
  | n + 1, h => by
    obtain ⟨L, hl, hp⟩ := list_of (n := n) (fun i hi => h i (by omega))
    obtain ⟨z, hz⟩ := h n (by omega)
    refine ⟨L ++ [z], by simp [hl], fun i y hy => ?_⟩
    by_cases hi : i < n
    · rw [List.getElem?_append_left (by omega)] at hy
      exact hp i y hy
    · rw [List.getElem?_append_right (by omega)] at hy
      have hlt := (List.getElem?_eq_some_iff.1 hy).1
      simp at hlt
      obtain rfl : i = n := by omega
      simp [hl] at hy
      subst hy
      exact hz

theorem sl_open {K : Type} {cells : K → List Value} {t e : TypeId} {size : Nat} (ht : Trym.prog.underlying t = some (.slice e)) (hs : Trym.prog.cellsOf e = size) (hpos : 0 < size)
    (hel : ∀ (n : Nat) (cs : List Value) (y : DataW H × List MemPlace), DataW.trod enc Trym.prog w 0 (fun _ => true) true n e cs = some y → cs.length = size → ∃ z : K, cs = cells z)
    (hlen : ∀ z, (cells z).length = size)
    {a0 : Option Addr} {len cap fuel : Nat} {y : DataW H × List MemPlace} (h : DataW.trod enc Trym.prog w 0 (fun _ => true) true fuel t (Value.slice a0 len cap).cells.toList = some y) :
    ∃ L : List K, Sl w (.slice a0 len cap) size (L.map cells) ∧ L.length = len := by
  rcases Deep.open_slice ht h with ⟨hcs, _⟩ | ⟨a, len', cap', m, n, D, Pl, hcs, _, hl, hm, hmm, _, hx⟩
  · simp [Value.cells] at hcs
    obtain ⟨rfl, rfl, rfl⟩ := hcs
    exact ⟨[], ⟨none, 0, 0, 0, rfl, fun h => by simp at h, fun _ => rfl, by simp, by omega, fun i cs hi => by simp at hi⟩, rfl⟩
  · simp [Value.cells] at hcs
    obtain ⟨rfl, rfl, rfl⟩ := hcs
    simp only [if_true] at hmm
    subst hmm
    rw [hs] at hx
    have hspot : 0 < len → a = ⟨a.block, a.off, none⟩ := fun hp => by
      obtain ⟨cs', h1, h2⟩ := hx 0 (by omega)
      obtain ⟨_, hcl, hc⟩ := World.cells?_some h1
      have h3 := hc 0 hpos
      rw [List.getElem?_eq_getElem (by omega)] at h3
      have hsp := World.cell?_spot h3
      obtain ⟨b, off, spot⟩ := a
      simp [Addr.add] at hsp
      cases spot <;> simp_all
    obtain ⟨L, hL, hp⟩ := list_of (K := K) (n := len) (p := fun i z => w.rangeAt a.block (a.off + i * size) (cells z)) (fun i hi => by
      obtain ⟨cs', h1, h2⟩ := hx i (by omega)
      obtain ⟨_, hcl, hc⟩ := World.cells?_some h1
      obtain ⟨z, rfl⟩ := hel _ _ _ h2 hcl
      refine ⟨z, fun j v hv => ?_⟩
      have hj : j < size := by have := (List.getElem?_eq_some_iff.1 hv).1; rw [hlen] at this; exact this
      have h3 := hc j hj
      rw [hspot (by omega), Addr.add_mid, Addr.add_mid] at h3
      exact h3.trans hv)
    refine ⟨L, ⟨some a, m, a.block, a.off, by rw [List.length_map, hL], fun h => ?_, fun h => (by cases h), by rw [List.length_map, hL]; exact hl, by unfold maxLen at hm; omega, fun i cs hi => ?_⟩, hL⟩
    · rw [List.length_map, hL] at h
      rw [← hspot h]
    · rw [List.getElem?_map] at hi
      obtain ⟨z, hz, rfl⟩ := Option.map_eq_some_iff.1 hi
      exact hp i z hz
end
end Go.Proofs.Qxb6614682aMods
