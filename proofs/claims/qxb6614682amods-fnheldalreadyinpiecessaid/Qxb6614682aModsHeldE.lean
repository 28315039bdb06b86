import Derived.Test.Qxb6614682aModsHeldD
namespace Go.Proofs.Qxb6614682aMods
open Go.RowKit
set_option linter.unusedVariables false

/-! ### What 'heldAlready' makes, as plain lists -/
def moved (L : List ZF) : List ZC := (L.filter (fun f => f.z == 13)).map ZF.x
def kept (L : List ZF) : List ZF := L.filter (fun f => !(f.z == 13))
theorem moved_yes (L : List ZF) (f : ZF) (h : (f.z == 13) = true) : moved (L ++ [f]) = moved L ++ [f.x] := by simp [moved, List.filter_append, h]
theorem moved_no (L : List ZF) (f : ZF) (h : (f.z == 13) = false) : moved (L ++ [f]) = moved L := by simp [moved, List.filter_append, h]
theorem kept_yes (L : List ZF) (f : ZF) (h : (f.z == 13) = true) : kept (L ++ [f]) = kept L := by simp [kept, List.filter_append, h]
theorem kept_no (L : List ZF) (f : ZF) (h : (f.z == 13) = false) : kept (L ++ [f]) = kept L ++ [f] := by simp [kept, List.filter_append, h]
theorem moved_le (L : List ZF) : (moved L).length ≤ L.length := by unfold moved; rw [List.length_map]; exact List.length_filter_le _ _
theorem kept_le (L : List ZF) : (kept L).length ≤ L.length := List.length_filter_le _ _
theorem take_snoc {α : Type} {L : List α} {k : Nat} {x : α} (h : L[k]? = some x) : L.take (k + 1) = L.take k ++ [x] := by
  obtain ⟨hk, rfl⟩ := List.getElem?_eq_some_iff.1 h
  exact List.take_succ_eq_append_getElem hk

/-! ### A slice in memory that lies in another block than 'row' -/
def SlN (w : World) (v : Value) (size : Nat) (L : List (List Value)) (row : Option Nat) (lo : Nat) : Prop :=
  ∃ ao cap b off, v = .slice ao L.length cap ∧ (0 < L.length → ao = some ⟨b, off, none⟩) ∧ (ao = none → cap = 0) ∧ L.length ≤ cap ∧ cap ≤ 9223372036854775807 ∧ (∀ i cs, L[i]? = some cs → w.rangeAt b (off + i * size) cs) ∧ (0 < L.length → some b ≠ row ∧ (b < lo ∨ lo + 2 ≤ b))

theorem SlN.sl {w : World} {v : Value} {size : Nat} {L : List (List Value)} {row : Option Nat} {lo : Nat} (h : SlN w v size L row lo) : Sl w v size L := by
  obtain ⟨ao, cap, b, off, h1, h2, h3, h4, h5, h6, _⟩ := h
  exact ⟨ao, cap, b, off, h1, h2, h3, h4, h5, h6⟩

theorem range_lt {w : World} {b o size : Nat} {cs : List Value} (h : w.rangeAt b o cs) (hl : cs.length = size) (hs : 0 < size) : b < w.heap.size := by
  have h0 := h 0 (cs[0]'(by omega)) (List.getElem?_eq_getElem (by omega))
  exact World.block_lt_of_cell? w _ h0

theorem Sl.toN {w w' : World} {v : Value} {size : Nat} {L : List (List Value)} (h : Sl w v size L) (hall : ∀ x ∈ L, x.length = size) (hs : 0 < size) (hb : Below w.heap.size w w') : SlN w' v size L none w.heap.size := by
  obtain ⟨ao, cap, b, off, h1, h2, h3, h4, h5, h6⟩ := h
  refine ⟨ao, cap, b, off, h1, h2, h3, h4, h5, fun i cs hi => rangeAt_below (h6 i cs hi) hb (Nat.le_refl _), fun hp => ⟨by simp, .inl ?_⟩⟩
  have hi := List.getElem?_eq_getElem hp
  exact range_lt (h6 0 _ hi) (hall _ (List.mem_of_getElem? hi)) hs

theorem SlN.grown {w w1 : World} {v : Value} {size lo : Nat} {L : List (List Value)} {row row' : Option Nat} (h : SlN w v size L row lo) (hall : ∀ x ∈ L, x.length = size) (hs : 0 < size) (hg : w.grownBy w1 row) (hr : row' = row ∨ ∃ g, row' = some g ∧ w.heap.size ≤ g) : SlN w1 v size L row' lo := by
  obtain ⟨ao, cap, b, off, h1, h2, h3, h4, h5, h6, h7⟩ := h
  have lt : ∀ i cs, L[i]? = some cs → b < w.heap.size := fun i cs hi => range_lt (h6 i cs hi) (hall cs (List.mem_of_getElem? hi)) hs
  refine ⟨ao, cap, b, off, h1, h2, h3, h4, h5, fun i cs hi => ?_, fun hp => ?_⟩
  · have hpos : 0 < L.length := by have := (List.getElem?_eq_some_iff.1 hi).1; omega
    exact rangeAt_block (h6 i cs hi) (hg.block b (lt i cs hi) (h7 hpos).1)
  · rcases hr with rfl | ⟨g, rfl, hg'⟩
    · exact h7 hp
    · have := lt 0 _ (List.getElem?_eq_getElem hp)
      refine ⟨fun e => ?_, (h7 hp).2⟩
      cases e
      omega

theorem SlN.alloc {w : World} {v : Value} {size : Nat} {L : List (List Value)} {row : Option Nat} {lo : Nat} (h : SlN w v size L row lo) (hall : ∀ x ∈ L, x.length = size) (hs : 0 < size) (o : Obj) : SlN (w.alloc o) v size L row lo :=
  h.grown hall hs (World.grownBy_alloc w o row) (.inl rfl)

/-- The cells that an append copies. -/
theorem olds_of {w : World} {ao : Option Addr} {n cap size b off : Nat} {L : List (List Value)} (hall : ∀ x ∈ L, x.length = size) (hao : 0 < L.length → ao = some ⟨b, off, none⟩) (hr : ∀ i cs, L[i]? = some cs → w.rangeAt b (off + i * size) cs) :
    ∀ a, ao = some a → ∀ j u, L.flatten[j]? = some u → w.cell? (a.add j) = some u := by
  intro a ha j u hj
  obtain ⟨i, cs, q, rfl, h1, h2⟩ := at_flatten L hall j u hj
  have hpos : 0 < L.length := by have := (List.getElem?_eq_some_iff.1 h1).1; omega
  rw [hao hpos] at ha
  cases ha
  rw [Addr.add_mid, ← Nat.add_assoc]
  exact hr i cs h1 q u h2

/-! ### heldAlready under way: the failures 'Gs' have been looked at -/
structure HeldAt (w : World) (t m s c p vf vb vl : Value) (Cs : List ZC) (Gs : List ZF) (vc vk : Value) (wr : World) : Prop where
  cs : SlN wr vc 5 ((Cs ++ moved Gs).map ZC.cells) vk.ownBlock w.heap.size
  own : wr.ownsRow (w.heap.size + 2) 58 6 vk (kept Gs).length ((kept Gs).map ZF.cells).flatten
  b0 : wr.heap[w.heap.size]? = some (.cells #[t, m, s, c, p, vc, vf, vb, vl] 39 (0, 0))
  b1 : wr.heap[w.heap.size + 1]? = some (.cells #[.int .u8 0, .int .u16 0, .int .u16 0, .int .u8 0, .pointer none, .slice none 0 0, .slice none 0 0, .slice none 0 0, .slice none 0 0] 39 (0, 0))
  bel : Below w.heap.size w wr
  size : w.heap.size + 2 ≤ wr.heap.size

theorem HeldAt.start {w : World} {t m s c p vc vf vb vl : Value} {Cs : List ZC} (h : Sl w vc 5 (Cs.map ZC.cells)) :
    HeldAt w t m s c p vf vb vl Cs [] vc (.slice none 0 0) ((w.alloc (.cells #[t, m, s, c, p, vc, vf, vb, vl] 39)).alloc (.cells #[.int .u8 0, .int .u16 0, .int .u16 0, .int .u8 0, .pointer none, .slice none 0 0, .slice none 0 0, .slice none 0 0, .slice none 0 0] 39)) := by
  have hb : Below w.heap.size w ((w.alloc (.cells #[t, m, s, c, p, vc, vf, vb, vl] 39)).alloc (.cells #[.int .u8 0, .int .u16 0, .int .u16 0, .int .u8 0, .pointer none, .slice none 0 0, .slice none 0 0, .slice none 0 0, .slice none 0 0] 39)) := ((Below.refl _ _).alloc (Nat.le_refl _) _).alloc (by simp) _
  refine ⟨?_, World.ownsRow_nil _ _ _ _, ?_, ?_, hb, by simp⟩
  · simpa [moved, Value.ownBlock] using h.toN (ZC.len _) (by omega) hb
  · rw [Below.heap_alloc _ _ _ (by simp)]; exact heap_alloc_new w _
  · have := heap_alloc_new (w.alloc (.cells #[t, m, s, c, p, vc, vf, vb, vl] 39)) (.cells #[.int .u8 0, .int .u16 0, .int .u16 0, .int .u8 0, .pointer none, .slice none 0 0, .slice none 0 0, .slice none 0 0, .slice none 0 0] 39)
    simpa using this

theorem HeldAt.keep {w : World} {t m s c p vf vb vl : Value} {Cs : List ZC} {Gs : List ZF} {vc vk v' : Value} {wr w1 : World} {o1 o2 : Obj} {f : ZF} {g cap : Nat} (h : HeldAt w t m s c p vf vb vl Cs Gs vc vk wr) (hf : (f.z == 13) = false)
    (hv : v' = .slice (some ⟨g, 0, none⟩) ((kept Gs).length + 1) cap)
    (hown : w1.ownsRow (w.heap.size + 2) 58 6 v' ((kept Gs).length + 1) (((kept Gs).map ZF.cells).flatten ++ f.cells)) (hg : ((wr.alloc o1).alloc o2).grownBy w1 vk.ownBlock) (hat : vk.ownBlock = some g ∨ g = wr.heap.size + 2) :
    HeldAt w t m s c p vf vb vl Cs (Gs ++ [f]) vc v' w1 := by
  have hsz := h.size
  have rowlt : ∀ k, vk.ownBlock = some k → w.heap.size + 2 ≤ k := fun k hk => (h.own.lt k hk).1
  have blk : ∀ k, k < w.heap.size + 2 → w1.heap[k]? = wr.heap[k]? := fun k hk => by
    rw [hg.block k (by simp; omega) (fun e => by have := rowlt k e.symm; omega), Below.heap_alloc _ _ _ (by simp; omega), Below.heap_alloc _ _ _ (by omega)]
  have hv' : v'.ownBlock = some g := by rw [hv]; rfl
  refine ⟨?_, ?_, (blk _ (by omega)).trans h.b0, (blk _ (by omega)).trans h.b1, ?_, ?_⟩
  · rw [moved_no _ _ hf, hv']
    refine ((h.cs.alloc (ZC.len _) (by omega) o1).alloc (ZC.len _) (by omega) o2).grown (ZC.len _) (by omega) hg ?_
    rcases hat with e | e
    · exact .inl e.symm
    · exact .inr ⟨g, rfl, by simp; omega⟩
  · rw [kept_no _ _ hf]
    simpa using hown
  · exact (((h.bel.alloc (by omega) o1).alloc (by simp; omega) o2).grown hg (by simp; omega) (fun k hk => by have := rowlt k hk; omega))
  · have := hg.size
    simp at this
    omega

theorem HeldAt.move {w : World} {t m s c p vf vb vl : Value} {Cs : List ZC} {Gs : List ZF} {vc vk v' : Value} {wr w1 : World} {o1 o2 : Obj} {f : ZF} {g cap : Nat} (h : HeldAt w t m s c p vf vb vl Cs Gs vc vk wr) (hf : (f.z == 13) = true)
    (hv : v' = .slice (some ⟨g, 0, none⟩) ((Cs ++ moved Gs).length + 1) cap)
    (hown : w1.ownsRow ((wr.alloc o1).alloc o2).drew.heap.size 50 5 v' ((Cs ++ moved Gs).length + 1) (((Cs ++ moved Gs).map ZC.cells).flatten ++ f.x.cells)) (hg : ((wr.alloc o1).alloc o2).drew.grownBy w1 none) :
    HeldAt w t m s c p vf vb vl Cs (Gs ++ [f]) v' vk (w1.setCell ⟨w.heap.size, 5, none⟩ v') := by
  have hsz := h.size
  have hs2 : ((wr.alloc o1).alloc o2).drew.heap.size = wr.heap.size + 2 := by simp
  rw [hs2] at hown
  have blk : ∀ k, k < wr.heap.size → w1.heap[k]? = wr.heap[k]? := fun k hk => by
    rw [hg.block k (by simp; omega) (by simp)]
    show ((wr.alloc o1).alloc o2).heap[k]? = _
    rw [Below.heap_alloc _ _ _ (by simp; omega), Below.heap_alloc _ _ _ (by omega)]
  have hv' : v'.ownBlock = some g := by rw [hv]; rfl
  have gl := hown.lt g hv'
  have hL : ((Cs ++ moved (Gs ++ [f])).map ZC.cells) = ((Cs ++ moved Gs).map ZC.cells) ++ [f.x.cells] := by rw [moved_yes _ _ hf]; simp
  have own2 := ownsRow_setCell_below (a := ⟨w.heap.size, 5, none⟩) hown (by simp; omega) v'
  have b0' := (blk _ (by omega)).trans h.b0
  refine ⟨?_, ?_, ?_, ?_, ?_, ?_⟩
  · have e1 : ((Cs ++ moved Gs).length + 1) = ((Cs ++ moved (Gs ++ [f])).map ZC.cells).length := by rw [hL]; simp; omega
    have e2 : ((Cs ++ moved Gs).map ZC.cells).flatten ++ f.x.cells = ((Cs ++ moved (Gs ++ [f])).map ZC.cells).flatten := by rw [hL]; simp
    rw [e1, e2] at own2
    obtain ⟨ao, cap', b, off, q1, q2, q3, q4, q5, q6⟩ := sl_of_owns own2 (ZC.len _)
    refine ⟨ao, cap', b, off, q1, q2, q3, q4, q5, q6, fun hp => ?_⟩
    rw [q2 hp] at q1
    rw [hv] at q1
    simp only [Value.slice.injEq, Option.some.injEq, Addr.mk.injEq] at q1
    refine ⟨fun e => ?_, .inr (by omega)⟩
    have := h.own.lt b e.symm
    omega
  · rw [kept_yes _ _ hf]
    refine ownsRow_setCell_below (a := ⟨w.heap.size, 5, none⟩) ?_ (by simp) v'
    refine World.ownsRow.kept ((h.own.alloc o1).alloc o2).drew hg ?_
    cases vk.ownBlock <;> simp
  · simp [World.setCell, Array.getElem?_modify, b0']
  · rw [Below.heap_setCell _ _ _ _ (by simp)]
    exact (blk _ (by omega)).trans h.b1
  · exact ((((h.bel.alloc (by omega) o1).alloc (by simp; omega) o2).drew).grown hg (by simp; omega) (fun k hk => by cases hk)).setCell (by simp) _
  · have := hg.size
    simp at this
    simp [World.setCell]
    omega

/-- The last stores go into the two blocks of the call's own alone. -/
theorem HeldAt.finish {w : World} {t m s c p vf vb vl : Value} {Cs : List ZC} {Gs : List ZF} {vc vk : Value} {wr wF : World} (h : HeldAt w t m s c p vf vb vl Cs Gs vc vk wr)
    (hoth : ∀ b, b ≠ w.heap.size → b ≠ w.heap.size + 1 → wF.heap[b]? = wr.heap[b]?) (hb : Below w.heap.size wr wF) :
    Sl wF vc 5 ((Cs ++ moved Gs).map ZC.cells) ∧ wF.ownsRow w.heap.size 58 6 vk (kept Gs).length ((kept Gs).map ZF.cells).flatten ∧ Below w.heap.size w wF := by
  refine ⟨?_, ?_, h.bel.trans hb⟩
  · obtain ⟨ao, cap, b, off, h1, h2, h3, h4, h5, h6, h7⟩ := h.cs
    refine ⟨ao, cap, b, off, h1, h2, h3, h4, h5, fun i cs hi => ?_⟩
    have hp : 0 < ((Cs ++ moved Gs).map ZC.cells).length := by have := (List.getElem?_eq_some_iff.1 hi).1; omega
    have := (h7 hp).2
    exact rangeAt_block (h6 i cs hi) (hoth b (by omega) (by omega))
  · refine ⟨h.own.1, ?_⟩
    rcases h.own.2 with h2 | ⟨g, cap, cur, hv, hg, hh, r⟩
    · exact .inl h2
    · exact .inr ⟨g, cap, cur, hv, by omega, (hoth g (by omega) (by omega)).trans hh, r⟩
end Go.Proofs.Qxb6614682aMods
