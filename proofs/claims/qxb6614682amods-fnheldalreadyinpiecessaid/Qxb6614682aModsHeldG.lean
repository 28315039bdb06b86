import Derived.Test.Qxb6614682aModsHeldF
namespace Go.Proofs.Qxb6614682aMods
open Go.RowKit
set_option linter.unusedVariables false

theorem Sl.form {w : World} {v : Value} {size : Nat} {L : List (List Value)} (h : Sl w v size L) : ∃ a c, v = .slice a L.length c := by
  obtain ⟨a, c, _, _, hv, _⟩ := h
  exact ⟨a, c, hv⟩
theorem isNil_slice (a : Option Addr) (n c : Nat) : isNil (.slice a n c) = a.isNone := by cases a <;> rfl

theorem zzCells_ex (Cs : List ZC) (v : Value) (w : World) (hm : Cs.length ≤ 65536) (h : Sl w v 5 (Cs.map ZC.cells)) :
    Calls Trym.prog 22 #[v] w fun e w' => ∃ a c, e = .returned (.slice a Cs.length c) ∧ Sl w' (.slice a Cs.length c) 5 (Cs.map ZC.cells) ∧ a.isNone = isNil v ∧ Below w.heap.size w w' :=
  (zzCells_any Cs v w hm h).mono fun e w' ⟨v', he, hs, hn, hb⟩ => by
    obtain ⟨a, c, rfl⟩ := hs.form
    rw [List.length_map] at he hs hn
    exact ⟨a, c, he, hs, (isNil_slice _ _ _).symm.trans hn, hb⟩
theorem zzFailures_ex (Fs : List ZF) (v : Value) (w : World) (hm : Fs.length ≤ 65536) (h : Sl w v 6 (Fs.map ZF.cells)) :
    Calls Trym.prog 16 #[v] w fun e w' => ∃ a c, e = .returned (.slice a Fs.length c) ∧ Sl w' (.slice a Fs.length c) 6 (Fs.map ZF.cells) ∧ a.isNone = isNil v ∧ Below w.heap.size w w' :=
  (zzFailures_any Fs v w hm h).mono fun e w' ⟨v', he, hs, hn, hb⟩ => by
    obtain ⟨a, c, rfl⟩ := hs.form
    rw [List.length_map] at he hs hn
    exact ⟨a, c, he, hs, (isNil_slice _ _ _).symm.trans hn, hb⟩
theorem zzBroadcasts_ex (Bs : List ZB) (v : Value) (w : World) (hm : Bs.length ≤ 65536) (h : Sl w v 7 (Bs.map ZB.cells)) :
    Calls Trym.prog 23 #[v] w fun e w' => ∃ a c, e = .returned (.slice a Bs.length c) ∧ Sl w' (.slice a Bs.length c) 7 (Bs.map ZB.cells) ∧ a.isNone = isNil v ∧ Below w.heap.size w w' :=
  (zzBroadcasts_any Bs v w hm h).mono fun e w' ⟨v', he, hs, hn, hb⟩ => by
    obtain ⟨a, c, rfl⟩ := hs.form
    rw [List.length_map] at he hs hn
    exact ⟨a, c, he, hs, (isNil_slice _ _ _).symm.trans hn, hb⟩
theorem zzLoads_ex (Ls : List ZL) (v : Value) (w : World) (hm : Ls.length ≤ 65536) (h : Sl w v 7 (Ls.map ZL.cells)) :
    Calls Trym.prog 24 #[v] w fun e w' => ∃ a c, e = .returned (.slice a Ls.length c) ∧ Sl w' (.slice a Ls.length c) 7 (Ls.map ZL.cells) ∧ a.isNone = isNil v ∧ Below w.heap.size w w' :=
  (zzLoads_any Ls v w hm h).mono fun e w' ⟨v', he, hs, hn, hb⟩ => by
    obtain ⟨a, c, rfl⟩ := hs.form
    rw [List.length_map] at he hs hn
    exact ⟨a, c, he, hs, (isNil_slice _ _ _).symm.trans hn, hb⟩

/-- A block of the call's own that holds no string is none of the rows. -/
theorem Sl.off {w wF : World} {v : Value} {size N : Nat} {L : List (List Value)} {Z : Array Value} {t : TypeId} {fr : Nat × Nat} (h : Sl w v size L) (hblk : w.heap[N]? = some (.cells Z t fr)) (hz : ∀ (j : Nat) s, Z[j]? ≠ some (.string s)) (hL : ∀ cs ∈ L, ∃ s, cs[1]? = some (.string s)) (hoth : ∀ b, b ≠ N → wF.heap[b]? = w.heap[b]?) : Sl wF v size L := by
  obtain ⟨ao, cap, b, off, h1, h2, h3, h4, h5, h6⟩ := h
  refine ⟨ao, cap, b, off, h1, h2, h3, h4, h5, fun i cs hi => ?_⟩
  obtain ⟨s, hs⟩ := hL cs (List.mem_of_getElem? hi)
  have hr := h6 i cs hi
  have hc := hr 1 _ hs
  refine rangeAt_block hr (hoth b fun e => ?_)
  subst e
  simp [World.cell?, hblk] at hc
  exact hz _ _ hc
theorem ZC.str (Cs : List ZC) : ∀ x ∈ Cs.map ZC.cells, ∃ s, x[1]? = some (.string s) := by
  intro x hx; obtain ⟨y, _, rfl⟩ := List.mem_map.1 hx; exact ⟨_, rfl⟩
theorem ZF.str (Cs : List ZF) : ∀ x ∈ Cs.map ZF.cells, ∃ s, x[1]? = some (.string s) := by
  intro x hx; obtain ⟨y, _, rfl⟩ := List.mem_map.1 hx; exact ⟨_, rfl⟩
theorem ZB.str (Cs : List ZB) : ∀ x ∈ Cs.map ZB.cells, ∃ s, x[1]? = some (.string s) := by
  intro x hx; obtain ⟨y, _, rfl⟩ := List.mem_map.1 hx; exact ⟨_, rfl⟩
theorem ZL.str (Cs : List ZL) : ∀ x ∈ Cs.map ZL.cells, ∃ s, x[1]? = some (.string s) := by
  intro x hx; obtain ⟨y, _, rfl⟩ := List.mem_map.1 hx; exact ⟨_, rfl⟩
def zero9 : Array Value := #[.int .u8 0, .int .u16 0, .int .u16 0, .int .u8 0, .pointer none, .slice none 0 0, .slice none 0 0, .slice none 0 0, .slice none 0 0]
theorem zero9_nostr : ∀ (j : Nat) s, zero9[j]? ≠ some (.string s)
  | 0, _ => by simp [zero9]
  | 1, _ => by simp [zero9]
  | 2, _ => by simp [zero9]
  | 3, _ => by simp [zero9]
  | 4, _ => by simp [zero9]
  | 5, _ => by simp [zero9]
  | 6, _ => by simp [zero9]
  | 7, _ => by simp [zero9]
  | 8, _ => by simp [zero9]
  | n + 9, _ => by simp [zero9]

/-- The copy of a version lies in a new block. -/
theorem serial_new (p : Option Addr) (x : Option Int) (w : World) (h : At w p x) : Calls Trym.prog 18 #[.pointer p] w fun e w' => ∃ q, e = .returned (.pointer q) ∧ At w' q x ∧ (∀ a, q = some a → w.heap.size ≤ a.block) ∧ Below w.heap.size w w' := by
  rcases h with ⟨rfl, rfl⟩ | ⟨b, o, v, rfl, rfl, hc⟩
  · exact (serial_none w).mono fun e w' ⟨he, hw⟩ => ⟨none, he, .inl ⟨rfl, rfl⟩, fun a ha => (by cases ha), hw ▸ Below.refl _ _⟩
  · exact (serial_some b o v w hc).mono fun e w' ⟨he, hw⟩ => ⟨_, he, .inr ⟨_, _, v, rfl, rfl, by rw [hw]; simp⟩, fun a ha => (by cases ha; exact Nat.le_refl _), by rw [hw]; exact (Below.refl _ _).alloc (Nat.le_refl _) _⟩

/-- What the law hands to 'zzAnswer', in memory. -/
structure In (w : World) (p : Option Addr) (x : Option Int) (vC vF vB vL : Value) (Cs : List ZC) (Fs : List ZF) (Bs : List ZB) (Ls : List ZL) : Prop where
  p : At w p x
  c : Sl w vC 5 (Cs.map ZC.cells)
  f : Sl w vF 6 (Fs.map ZF.cells)
  b : Sl w vB 7 (Bs.map ZB.cells)
  l : Sl w vL 7 (Ls.map ZL.cells)
theorem At.off {w wF : World} {q : Option Addr} {x : Option Int} {N : Nat} (h : At w q x) (hq : ∀ a, q = some a → a.block ≠ N) (hoth : ∀ b, b ≠ N → wF.heap[b]? = w.heap[b]?) : At wF q x := by
  rcases h with h | ⟨b, o, v, hx, hp, hc⟩
  · exact .inl h
  · exact .inr ⟨b, o, v, hx, hp, (World.cell?_of_block (w := w) (a := ⟨b, o, none⟩) (hoth b (hq _ hp))).trans hc⟩
theorem In.off {w wF : World} {p : Option Addr} {x : Option Int} {vC vF vB vL : Value} {Cs : List ZC} {Fs : List ZF} {Bs : List ZB} {Ls : List ZL} {N : Nat} {t : TypeId} {fr : Nat × Nat} (h : In w p x vC vF vB vL Cs Fs Bs Ls) (hblk : w.heap[N]? = some (.cells zero9 t fr)) (hq : ∀ a, p = some a → a.block ≠ N) (hoth : ∀ b, b ≠ N → wF.heap[b]? = w.heap[b]?) : In wF p x vC vF vB vL Cs Fs Bs Ls :=
  ⟨h.p.off hq hoth, h.c.off hblk zero9_nostr (ZC.str _) hoth, h.f.off hblk zero9_nostr (ZF.str _) hoth, h.b.off hblk zero9_nostr (ZB.str _) hoth, h.l.off hblk zero9_nostr (ZL.str _) hoth⟩
theorem In.below {w w' : World} {p : Option Addr} {x : Option Int} {vC vF vB vL : Value} {Cs : List ZC} {Fs : List ZF} {Bs : List ZB} {Ls : List ZL} {N : Nat} (h : In w p x vC vF vB vL Cs Fs Bs Ls) (hb : Below N w w') (hN : w.heap.size ≤ N) : In w' p x vC vF vB vL Cs Fs Bs Ls :=
  ⟨h.p.below hb hN, h.c.below hb hN, h.f.below hb hN, h.b.below hb hN, h.l.below hb hN⟩

/-- What 'zzAnswer' gives. -/
def AnsOut (e : Ending) (w w' : World) (t m s c : Int) (x : Option Int) (vC vF vB vL : Value) (Cs : List ZC) (Fs : List ZF) (Bs : List ZB) (Ls : List ZL) : Prop :=
  ∃ q ac cc af cf ab cb al cl, e = .returned (.agg #[.int .u8 t, .int .u16 m, .int .u16 s, .int .u8 c, .pointer q, .slice ac Cs.length cc, .slice af Fs.length cf, .slice ab Bs.length cb, .slice al Ls.length cl]) ∧
    In w' q x (.slice ac Cs.length cc) (.slice af Fs.length cf) (.slice ab Bs.length cb) (.slice al Ls.length cl) Cs Fs Bs Ls ∧ ab.isNone = isNil vB ∧ al.isNone = isNil vL ∧ Below w.heap.size w w'

set_option maxRecDepth 100000 in
set_option maxHeartbeats 3200000 in
theorem answer_any (t m s c : Int) (p : Option Addr) (x : Option Int) (vC vF vB vL : Value) (Cs : List ZC) (Fs : List ZF) (Bs : List ZB) (Ls : List ZL) (w : World)
    (h1 : Cs.length ≤ 65536) (h2 : Fs.length ≤ 65536) (h3 : Bs.length ≤ 65536) (h4 : Ls.length ≤ 65536) (hI : In w p x vC vF vB vL Cs Fs Bs Ls) :
    Calls Trym.prog 10 #[.int .u8 t, .int .u16 m, .int .u16 s, .int .u8 c, .pointer p, vC, vF, vB, vL] w fun e w' => AnsOut e w w' t m s c x vC vF vB vL Cs Fs Bs Ls := by
  have ba : Below w.heap.size w (w.alloc (.cells #[.int .u8 0, .int .u16 0, .int .u16 0, .int .u8 0, .pointer none, .slice none 0 0, .slice none 0 0, .slice none 0 0, .slice none 0 0] 39)) := (Below.refl _ _).alloc (Nat.le_refl _) _
  have blk0 : (w.alloc (.cells #[.int .u8 0, .int .u16 0, .int .u16 0, .int .u8 0, .pointer none, .slice none 0 0, .slice none 0 0, .slice none 0 0, .slice none 0 0] 39)).heap[w.heap.size]? = some (.cells #[.int .u8 0, .int .u16 0, .int .u16 0, .int .u8 0, .pointer none, .slice none 0 0, .slice none 0 0, .slice none 0 0, .slice none 0 0] 39 (0, 0)) := heap_alloc_new w _
  have hI0 := hI.below ba (Nat.le_refl _)
  have hN0 : w.heap.size < (w.alloc (.cells #[.int .u8 0, .int .u16 0, .int .u16 0, .int .u8 0, .pointer none, .slice none 0 0, .slice none 0 0, .slice none 0 0, .slice none 0 0] 39)).heap.size := by simp
  have HB : Hid (_ = _) := blk0
  clear blk0 hI
  go_enter Trym.func10, Trym.ntmps10
  go_wp2_with fail
  refine (serial_new p x _ hI0.p).mono ?_
  rintro e w1 ⟨q, rfl, Q1, hq, b1⟩
  have HQ : Hid (∀ a, q = some a → a.block ≠ w.heap.size) := fun a ha => by have := hq a ha; simp at this; omega
  clear hq
  have hI1 := hI0.below b1 (Nat.le_refl _)
  have B1 : Below w.heap.size w w1 := ba.trans (b1.mono (by simp))
  have K1 : Hid (w1.heap[w.heap.size]? = _) := (b1.block _ hN0).trans HB.out
  have N1 : w.heap.size < w1.heap.size := Nat.lt_of_lt_of_le hN0 b1.size
  clear hI0 ba b1 HB hN0
  go_wp2_with fail
  refine (zzCells_ex Cs vC _ h1 hI1.c).mono ?_
  rintro e w2 ⟨ac, cc, rfl, C2, -, b2⟩
  have hI2 := hI1.below b2 (Nat.le_refl _)
  have B2 : Below w.heap.size w w2 := B1.trans (b2.mono (by omega))
  have K2 : Hid (w2.heap[w.heap.size]? = _) := (b2.block _ N1).trans K1.out
  have N2 : w.heap.size < w2.heap.size := Nat.lt_of_lt_of_le N1 b2.size
  have Q2 := Q1.below b2 (Nat.le_refl _)
  clear hI1 B1 b2 K1 N1 Q1
  go_wp2_with fail
  refine (zzFailures_ex Fs vF _ h2 hI2.f).mono ?_
  rintro e w3 ⟨af, cf, rfl, F3, -, b3⟩
  have hI3 := hI2.below b3 (Nat.le_refl _)
  have B3 : Below w.heap.size w w3 := B2.trans (b3.mono (by omega))
  have K3 : Hid (w3.heap[w.heap.size]? = _) := (b3.block _ N2).trans K2.out
  have N3 : w.heap.size < w3.heap.size := Nat.lt_of_lt_of_le N2 b3.size
  have Q3 := Q2.below b3 (Nat.le_refl _)
  have C3 := C2.below b3 (Nat.le_refl _)
  clear hI2 B2 b3 K2 N2 Q2 C2
  go_wp2_with fail
  refine (zzBroadcasts_ex Bs vB _ h3 hI3.b).mono ?_
  rintro e w4 ⟨ab, cb, rfl, D4, nB, b4⟩
  have hI4 := hI3.below b4 (Nat.le_refl _)
  have B4 : Below w.heap.size w w4 := B3.trans (b4.mono (by omega))
  have K4 : Hid (w4.heap[w.heap.size]? = _) := (b4.block _ N3).trans K3.out
  have N4 : w.heap.size < w4.heap.size := Nat.lt_of_lt_of_le N3 b4.size
  have Q4 := Q3.below b4 (Nat.le_refl _)
  have C4 := C3.below b4 (Nat.le_refl _)
  have F4 := F3.below b4 (Nat.le_refl _)
  have NB : Hid (ab.isNone = isNil vB) := nB
  clear hI3 B3 b4 K3 N3 Q3 C3 F3 nB
  go_wp2_with fail
  refine (zzLoads_ex Ls vL _ h4 hI4.l).mono ?_
  rintro e w5 ⟨al, cl, rfl, L5, nL, b5⟩
  have B5 : Below w.heap.size w w5 := B4.trans (b5.mono (by omega))
  have K5 := (b5.block _ N4).trans K4.out
  have Q5 := Q4.below b5 (Nat.le_refl _)
  have C5 := C4.below b5 (Nat.le_refl _)
  have F5 := F4.below b5 (Nat.le_refl _)
  have D5 := D4.below b5 (Nat.le_refl _)
  have NL : Hid (al.isNone = isNil vL) := nL
  have IN : In w5 q x (.slice ac Cs.length cc) (.slice af Fs.length cf) (.slice ab Bs.length cb) (.slice al Ls.length cl) Cs Fs Bs Ls := ⟨Q5, C5, F5, D5, L5⟩
  have hnq := fun wF (hoth : ∀ b, b ≠ w.heap.size → wF.heap[b]? = w5.heap[b]?) => IN.off (wF := wF) K5 HQ.out hoth
  have HNQ : Hid (∀ wF : World, _) := hnq
  clear hnq IN
  clear hI4 B4 b5 K4 N4 Q4 C4 F4 D4 nL Q5 C5 F5 D5 L5
  have k0 := blk_cell (j := 0) K5 rfl
  have k1 := blk_cell (j := 1) K5 rfl
  have k2 := blk_cell (j := 2) K5 rfl
  have k3 := blk_cell (j := 3) K5 rfl
  have k4 := blk_cell (j := 4) K5 rfl
  have k5 := blk_cell (j := 5) K5 rfl
  have k6 := blk_cell (j := 6) K5 rfl
  have k7 := blk_cell (j := 7) K5 rfl
  have k8 := blk_cell (j := 8) K5 rfl
  have ff : ∀ j, w5.frozen? ⟨w.heap.size, j, none⟩ = false := fun j => blk_free K5
  clear K5
  go_wp2
  refine bodyPost_ret (v := .agg #[.int .u8 t, .int .u16 m, .int .u16 s, .int .u8 c, .pointer q, .slice ac Cs.length cc, .slice af Fs.length cf, .slice ab Bs.length cb, .slice al Ls.length cl]) (by simp [results, Trym.results10, go_sem, k0, k1, k2, k3, k4, k5, k6, k7, k8]) rfl ⟨q, ac, cc, af, cf, ab, cb, al, cl, rfl, HNQ.out _ ?_, NB.out, NL.out, ?_⟩
  · intro b hb
    exact ((Below.heap_setCell _ _ _ _ hb).trans ((Below.heap_setCell _ _ _ _ hb).trans ((Below.heap_setCell _ _ _ _ hb).trans ((Below.heap_setCell _ _ _ _ hb).trans ((Below.heap_setCell _ _ _ _ hb).trans ((Below.heap_setCell _ _ _ _ hb).trans ((Below.heap_setCell _ _ _ _ hb).trans ((Below.heap_setCell _ _ _ _ hb).trans (Below.heap_setCell _ _ _ _ hb)))))))))
  · exact (((((((((B5.setCell (by simp) _).setCell (by simp) _).setCell (by simp) _).setCell (by simp) _).setCell (by simp) _).setCell (by simp) _).setCell (by simp) _).setCell (by simp) _).setCell (by simp) _)
end Go.Proofs.Qxb6614682aMods
