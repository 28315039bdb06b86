import Derived.Test.Qxb6614682aModsHeldA
import Derived.Deep.MidRow
namespace Go.Proofs.Qxb6614682aMods
open Go.RowKit

theorem Trym.info50 : (Trym.prog.info? 50).map (fun i => (i.zero, i.size, i.bytes)) = some (some (.agg #[.int .u8 0, .string ⟨#[]⟩, .string ⟨#[]⟩, .int .u16 0, .int .u16 0]), 5, 56) := by kernel_rfl
theorem Trym.info58 : (Trym.prog.info? 58).map (fun i => (i.zero, i.size, i.bytes)) = some (some (.agg #[.int .u8 0, .string ⟨#[]⟩, .string ⟨#[]⟩, .int .u16 0, .int .u16 0, .int .u8 0]), 6, 64) := by kernel_rfl
theorem Trym.info64 : (Trym.prog.info? 64).map (fun i => (i.zero, i.size, i.bytes)) = some (some (.agg #[.int .u8 0, .string ⟨#[]⟩, .string ⟨#[]⟩, .int .u16 0, .int .u16 0, .int .i64 0, .int .u8 0]), 7, 72) := by kernel_rfl
theorem Trym.info71 : (Trym.prog.info? 71).map (fun i => (i.zero, i.size, i.bytes)) = some (some (.agg #[.int .u8 0, .string ⟨#[]⟩, .string ⟨#[]⟩, .int .u16 0, .int .u16 0, .int .i64 0, .int .i64 0]), 7, 72) := by kernel_rfl

/-- 'make([]T, n)': the new row. -/
theorem make_eq {t e : TypeId} {z : Value} {size bytes : Nat} (ht : Trym.prog.underlying t = some (.slice e)) (hinfo : (Trym.prog.info? e).map (fun i => (i.zero, i.size, i.bytes)) = some (some z, size, bytes)) (n : Nat) (hb : bytes * n ≤ 281474976710656) (h63 : n ≤ 9223372036854775807) (w : World) :
    (Instr.makeSlice t (.int .i64 (n : Int)) (.int .i64 (n : Int))).run Trym.prog w = .ok (.slice (some ⟨w.heap.size, 0, none⟩) n n) (w.alloc (.cells (madeCells z.cells (n * size)) e)) := by
  obtain ⟨i, hi, hz, hs, hy⟩ := info_parts hinfo
  subst hs hy
  have h := run_make (P := Trym.prog) w t e i z ht hi hz .i64 .i64 n n (by omega) (by omega) (by rw [← Int.natCast_mul]; omega) (by omega)
  simpa using h

/-! ### Elements -/
structure ZC where
  d : Int
  m : ByteArray
  n : ByteArray
  l : Int
  c : Int
def ZC.cells (x : ZC) : List Value := [.int .u8 x.d, .string x.m, .string x.n, .int .u16 x.l, .int .u16 x.c]
structure ZF where
  x : ZC
  z : Int
def ZF.cells (f : ZF) : List Value := [.int .u8 f.x.d, .string f.x.m, .string f.x.n, .int .u16 f.x.l, .int .u16 f.x.c, .int .u8 f.z]
structure ZB where
  x : ZC
  z : Int
  y : Int
def ZB.cells (f : ZB) : List Value := [.int .u8 f.x.d, .string f.x.m, .string f.x.n, .int .u16 f.x.l, .int .u16 f.x.c, .int .i64 f.z, .int .u8 f.y]
structure ZL where
  x : ZC
  z : Int
  y : Int
def ZL.cells (f : ZL) : List Value := [.int .u8 f.x.d, .string f.x.m, .string f.x.n, .int .u16 f.x.l, .int .u16 f.x.c, .int .i64 f.z, .int .i64 f.y]

/-! ### A slice that lies in memory, its elements told by lists of cells -/
def Sl (w : World) (v : Value) (size : Nat) (L : List (List Value)) : Prop :=
  ∃ ao cap b off, v = .slice ao L.length cap ∧ (0 < L.length → ao = some ⟨b, off, none⟩) ∧ (ao = none → cap = 0) ∧ L.length ≤ cap ∧ cap ≤ 9223372036854775807 ∧ ∀ i cs, L[i]? = some cs → w.rangeAt b (off + i * size) cs

theorem rangeAt_block {w w' : World} {b o : Nat} {cs : List Value} (h : w.rangeAt b o cs) (hb : w'.heap[b]? = w.heap[b]?) : w'.rangeAt b o cs := fun j v hv =>
  (World.cell?_of_block (w := w) (a := ⟨b, o + j, none⟩) hb).trans (h j v hv)

theorem rangeAt_below {w w' : World} {b o N : Nat} {cs : List Value} (h : w.rangeAt b o cs) (hb : Below N w w') (hN : w.heap.size ≤ N) : w'.rangeAt b o cs := fun j v hv => by
  have h1 := h j v hv
  have l := World.block_lt_of_cell? w _ h1
  simp only at l
  exact (hb.cell (by simp only; omega)).trans h1

theorem Sl.below {w w' : World} {v : Value} {size N : Nat} {L : List (List Value)} (h : Sl w v size L) (hb : Below N w w') (hN : w.heap.size ≤ N) : Sl w' v size L := by
  obtain ⟨ao, cap, b, off, hv, hao, hno, hl, hc, hr⟩ := h
  exact ⟨ao, cap, b, off, hv, hao, hno, hl, hc, fun i cs hi => rangeAt_below (hr i cs hi) hb hN⟩

theorem below_setCells {B : Nat} {a : World} (g : Nat) (hg : B ≤ g) : ∀ (vs : List Value) (o : Nat) (w : World), Below B a w → Below B a (w.setCells g o vs)
  | [], _, _, h => h
  | v :: r, o, w, h => by
    rw [World.setCells]
    exact below_setCells g hg r (o + 1) _ (h.setCell (by exact hg) v)

theorem heap_setCells_block (g : Nat) {e : TypeId} {fr : Nat × Nat} : ∀ (vs : List Value) (o : Nat) (w : World) (cur : Array Value), w.heap[g]? = some (.cells cur e fr) → ∃ cur', (w.setCells g o vs).heap[g]? = some (.cells cur' e fr) ∧ cur'.size = cur.size
  | [], _, _, cur, h => ⟨cur, h, rfl⟩
  | v :: r, o, w, cur, h => by
    rw [World.setCells]
    have h1 : (w.setCell ⟨g, o, none⟩ v).heap[g]? = some (.cells (cur.setIfInBounds o v) e fr) := by
      simp [World.setCell, Array.getElem?_modify, h]
    obtain ⟨cur', h2, h3⟩ := heap_setCells_block g r (o + 1) _ _ h1
    exact ⟨cur', h2, by simpa using h3⟩

/-- The first k elements of a new row of n are in; the rest may be anything. -/
structure Filled (w : World) (g : Nat) (e : TypeId) (size n k : Nat) (L : List (List Value)) : Prop where
  blk : ∃ cur : Array Value, w.heap[g]? = some (.cells cur e (0, 0)) ∧ cur.size = n * size
  rng : ∀ i cs, i < k → L[i]? = some cs → w.rangeAt g (i * size) cs

theorem Filled.start (w : World) (z : Array Value) (e : TypeId) (size n : Nat) (L : List (List Value)) : Filled (w.alloc (.cells (madeCells z (n * size)) e)) w.heap.size e size n 0 L :=
  ⟨⟨_, heap_alloc_new w _, size_madeCells _ _⟩, fun i cs hi => by omega⟩

theorem Filled.lt {w : World} {g : Nat} {e : TypeId} {size n k : Nat} {L : List (List Value)} (h : Filled w g e size n k L) : g < w.heap.size := by
  obtain ⟨cur, h1, _⟩ := h.blk
  exact (Array.getElem?_eq_some_iff.1 h1).1

theorem Filled.below {w w' : World} {g : Nat} {e : TypeId} {size n k N : Nat} {L : List (List Value)} (h : Filled w g e size n k L) (hb : Below N w w') (hN : w.heap.size ≤ N) : Filled w' g e size n k L := by
  have l := h.lt
  obtain ⟨cur, h1, h2⟩ := h.blk
  exact ⟨⟨cur, (hb.block g (by omega)).trans h1, h2⟩, fun i cs hi hc => rangeAt_below (h.rng i cs hi hc) hb hN⟩

theorem Filled.there {w : World} {g : Nat} {e : TypeId} {size n k : Nat} {L : List (List Value)} (h : Filled w g e size n k L) (hk : k < n) : w.there g (k * size) size := by
  obtain ⟨cur, h1, h2⟩ := h.blk
  intro j hj
  have hlt : k * size + j < cur.size := by
    have : (k + 1) * size ≤ n * size := Nat.mul_le_mul_right _ hk
    rw [Nat.add_mul] at this
    omega
  refine ⟨?_, by simp [World.frozen?, h1]⟩
  simp [World.cell?, h1, hlt]

theorem Filled.step {w : World} {g : Nat} {e : TypeId} {size n k : Nat} {L : List (List Value)} {cs : List Value} (h : Filled w g e size n k L) (hk : k < n) (hL : L[k]? = some cs) (hall : ∀ x ∈ L, x.length = size) :
    Filled (w.setCells g (k * size) cs) g e size n (k + 1) L := by
  have hcs : cs.length = size := hall cs (List.mem_of_getElem? hL)
  have ht := h.there hk
  obtain ⟨cur, h1, h2⟩ := h.blk
  obtain ⟨cur', h3, h4⟩ := heap_setCells_block g cs (k * size) w cur h1
  refine ⟨⟨cur', h3, h4.trans h2⟩, fun i x hi hx => ?_⟩
  by_cases e1 : i = k
  · subst e1
    rw [hL] at hx
    cases hx
    exact World.rangeAt_setCells_same w g _ cs (by rw [hcs]; exact ht)
  · refine World.rangeAt_setCells_apart (h.rng i x (by omega) hx) g _ cs (.inr (.inl ?_))
    rw [hall x (List.mem_of_getElem? hx)]
    have : (i + 1) * size ≤ k * size := Nat.mul_le_mul_right _ (by omega)
    rw [Nat.add_mul] at this
    omega

theorem Filled.sl {w : World} {g : Nat} {e : TypeId} {size n : Nat} {L : List (List Value)} (h : Filled w g e size n n L) (hn : L.length = n) (hm : n ≤ 9223372036854775807) : Sl w (.slice (some ⟨g, 0, none⟩) n n) size L :=
  ⟨_, n, g, 0, by rw [hn], fun _ => rfl, fun h => (by cases h), by omega, hm, fun i cs hi => by
    rw [Nat.zero_add]
    exact h.rng i cs (by have := (List.getElem?_eq_some_iff.1 hi).1; omega) hi⟩

theorem range5 {w : World} {b o : Nat} {a0 a1 a2 a3 a4 : Value} (h : w.rangeAt b o [a0, a1, a2, a3, a4]) :
    w.cell? ⟨b, o, none⟩ = some a0 ∧ w.cell? ⟨b, o + 1, none⟩ = some a1 ∧ w.cell? ⟨b, o + 2, none⟩ = some a2 ∧ w.cell? ⟨b, o + 3, none⟩ = some a3 ∧ w.cell? ⟨b, o + 4, none⟩ = some a4 :=
  ⟨h 0 _ rfl, h 1 _ rfl, h 2 _ rfl, h 3 _ rfl, h 4 _ rfl⟩
theorem range6 {w : World} {b o : Nat} {a0 a1 a2 a3 a4 a5 : Value} (h : w.rangeAt b o [a0, a1, a2, a3, a4, a5]) :
    w.cell? ⟨b, o, none⟩ = some a0 ∧ w.cell? ⟨b, o + 1, none⟩ = some a1 ∧ w.cell? ⟨b, o + 2, none⟩ = some a2 ∧ w.cell? ⟨b, o + 3, none⟩ = some a3 ∧ w.cell? ⟨b, o + 4, none⟩ = some a4 ∧ w.cell? ⟨b, o + 5, none⟩ = some a5 :=
  ⟨h 0 _ rfl, h 1 _ rfl, h 2 _ rfl, h 3 _ rfl, h 4 _ rfl, h 5 _ rfl⟩
theorem range7 {w : World} {b o : Nat} {a0 a1 a2 a3 a4 a5 a6 : Value} (h : w.rangeAt b o [a0, a1, a2, a3, a4, a5, a6]) :
    w.cell? ⟨b, o, none⟩ = some a0 ∧ w.cell? ⟨b, o + 1, none⟩ = some a1 ∧ w.cell? ⟨b, o + 2, none⟩ = some a2 ∧ w.cell? ⟨b, o + 3, none⟩ = some a3 ∧ w.cell? ⟨b, o + 4, none⟩ = some a4 ∧ w.cell? ⟨b, o + 5, none⟩ = some a5 ∧ w.cell? ⟨b, o + 6, none⟩ = some a6 :=
  ⟨h 0 _ rfl, h 1 _ rfl, h 2 _ rfl, h 3 _ rfl, h 4 _ rfl, h 5 _ rfl, h 6 _ rfl⟩

theorem zzCell_bel (d l c : Int) (m n : ByteArray) (w : World) :
    Calls Trym.prog 11 #[.agg #[.int .u8 d, .string m, .string n, .int .u16 l, .int .u16 c]] w fun e w' => e = .returned (.agg #[.int .u8 d, .string m, .string n, .int .u16 l, .int .u16 c]) ∧ Below w.heap.size w w' :=
  (zzCell_any d l c m n w).mono fun e w' ⟨he, hw⟩ => ⟨he, by rw [hw]; exact ((Below.refl _ _).alloc (Nat.le_refl _) _).alloc (by simp) _⟩

theorem size_of {e : TypeId} {z : Value} {size bytes : Nat} (hinfo : (Trym.prog.info? e).map (fun i => (i.zero, i.size, i.bytes)) = some (some z, size, bytes)) : (Trym.prog.info? e).map (·.size) = some size := by
  obtain ⟨i, hi, _, hs, _⟩ := info_parts hinfo
  simp [hi, hs]

/-! ### A row of elements, flat -/
theorem flatten_at {size : Nat} : ∀ (L : List (List Value)), (∀ x ∈ L, x.length = size) → ∀ i cs q u, L[i]? = some cs → cs[q]? = some u → L.flatten[i * size + q]? = some u
  | [], _, i, cs, q, u, h, _ => by simp at h
  | x :: L, hall, i, cs, q, u, h, hq => by
    have hx : x.length = size := hall x (by simp)
    cases i with
    | zero =>
      simp at h
      subst h
      have := (List.getElem?_eq_some_iff.1 hq).1
      simp only [List.flatten_cons, Nat.zero_mul, Nat.zero_add]
      rw [List.getElem?_append_left this]
      exact hq
    | succ i =>
      have h' : L[i]? = some cs := by simpa using h
      have := flatten_at L (fun y hy => hall y (by simp [hy])) i cs q u h' hq
      simp only [List.flatten_cons]
      rw [List.getElem?_append_right (by rw [hx, Nat.add_mul]; omega), hx]
      rw [show (i + 1) * size + q - size = i * size + q by rw [Nat.add_mul]; omega]
      exact this
theorem at_flatten {size : Nat} : ∀ (L : List (List Value)), (∀ x ∈ L, x.length = size) → ∀ j u, L.flatten[j]? = some u → ∃ i cs q, j = i * size + q ∧ L[i]? = some cs ∧ cs[q]? = some u
  | [], _, j, u, h => by simp at h
  | x :: L, hall, j, u, h => by
    have hx : x.length = size := hall x (by simp)
    simp only [List.flatten_cons] at h
    by_cases hj : j < x.length
    · rw [List.getElem?_append_left hj] at h
      exact ⟨0, x, j, by simp, rfl, h⟩
    · rw [List.getElem?_append_right (by omega)] at h
      obtain ⟨i, cs, q, e, h1, h2⟩ := at_flatten L (fun y hy => hall y (by simp [hy])) _ _ h
      exact ⟨i + 1, cs, q, by rw [Nat.add_mul]; omega, by simpa using h1, h2⟩
theorem length_flatten {size : Nat} : ∀ (L : List (List Value)), (∀ x ∈ L, x.length = size) → L.flatten.length = L.length * size
  | [], _ => by simp
  | x :: L, hall => by
    have hx : x.length = size := hall x (by simp)
    have := length_flatten L (fun y hy => hall y (by simp [hy]))
    simp only [List.flatten_cons, List.length_append, List.length_cons, Nat.add_mul, this, hx]
    omega

/-- What the call has built by append, as a slice that lies in memory. -/
theorem sl_of_owns {w : World} {base : Nat} {e : TypeId} {size : Nat} {v : Value} {L : List (List Value)} (h : w.ownsRow base e size v L.length L.flatten) (hall : ∀ x ∈ L, x.length = size) : Sl w v size L := by
  rcases h.2 with ⟨hv, hn⟩ | ⟨g, cap, cur, hv, _, _, hnc, hcm, _, _⟩
  · exact ⟨none, 0, 0, 0, by rw [hn]; exact hv, fun h => by omega, fun _ => rfl, by omega, by omega, fun i cs hi => by
      have := (List.getElem?_eq_some_iff.1 hi).1
      omega⟩
  · refine ⟨_, cap, g, 0, hv, fun _ => rfl, fun h => (by cases h), hnc, by unfold maxLen at hcm; omega, fun i cs hi q u hq => ?_⟩
    have h1 := h.cells (g := g) (by rw [hv]; rfl) _ _ (flatten_at L hall i cs q u hi hq)
    rw [Addr.add_mid] at h1
    rw [Nat.zero_add] at h1 ⊢
    exact h1

theorem owns_base {w : World} {base base' : Nat} {e : TypeId} {size : Nat} {v : Value} {n : Nat} {xs : List Value} (h : w.ownsRow base e size v n xs) (hb : base' ≤ base) : w.ownsRow base' e size v n xs := by
  refine ⟨h.1, ?_⟩
  rcases h.2 with h2 | ⟨g, cap, cur, hv, hg, r⟩
  · exact .inl h2
  · exact .inr ⟨g, cap, cur, hv, Nat.le_trans hb hg, r⟩

theorem owns_below {w w' : World} {base N : Nat} {e : TypeId} {size : Nat} {v : Value} {n : Nat} {xs : List Value} (h : w.ownsRow base e size v n xs) (hb : Below N w w') (hN : w.heap.size ≤ N) : w'.ownsRow base e size v n xs := by
  refine ⟨h.1, ?_⟩
  rcases h.2 with h2 | ⟨g, cap, cur, hv, hg, hh, r⟩
  · exact .inl h2
  · have l := (Array.getElem?_eq_some_iff.1 hh).1
    exact .inr ⟨g, cap, cur, hv, hg, (hb.block g (by omega)).trans hh, r⟩
end Go.Proofs.Qxb6614682aMods
