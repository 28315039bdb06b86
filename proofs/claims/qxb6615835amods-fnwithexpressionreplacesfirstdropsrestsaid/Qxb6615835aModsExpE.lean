import Derived.Test.Qxb6615835aModsExpD
import Derived.Laws.CopyOwn
import Derived.Deep.MidRow
namespace Go.Proofs.Qxb6615835aMods
open Go.RowKit
set_option linter.unusedVariables false

theorem size9 : (Trym.prog.info? 9).map (·.size) = some 1 := by
  obtain ⟨i, hi, _, hs, _⟩ := info_parts Trym.info9
  rw [hi]; simp [hs]

/-- The copy of the keys into a row of the law's own. -/
theorem wpList_copyK {ops : Array Oper} {rest : List Oper} {o : Oper} {a : Act} {w : World} {Q : Exit → Act → World → Prop} (hgd : o.guard = none) (d s : Operand) (hop : o.op = .call { callee := .builtin .copy, args := #[d, s], argTypes := #[22, 22] })
    (ad : Addr) (n cap : Nat) (K : Nat → ByteArray) (hd : a.eval d = .slice (some ⟨w.heap.size, 0, none⟩) n n) (hs : a.eval s = .slice (some ad) n cap) (hK : Keys w (some ad) n K)
    (h : ∀ w', Keys w' (some ⟨w.heap.size, 0, none⟩) n K → Below w.heap.size w w' → wpList Trym.prog ops Q rest (a.put o.dst (goInt n)) w') : wpList Trym.prog ops Q (o :: rest) a (w.alloc (.cells (madeCells #[.string ⟨#[]⟩] n) 9)) := by
  obtain ⟨cs, hcs⟩ : ∃ cs : List Value, cs = (List.range n).map fun j => Value.string (K j) := ⟨_, rfl⟩
  have hl : cs.length = n := by rw [hcs]; simp
  have hat : ∀ (j : Nat) v, cs[j]? = some v → j < n ∧ v = .string (K j) := fun j v hv => by
    have hj := (List.getElem?_eq_some_iff.1 hv).1
    rw [hl] at hj
    rw [hcs, List.getElem?_map, List.getElem?_range hj] at hv
    exact ⟨hj, by simpa using hv.symm⟩
  have ba : Below w.heap.size w (w.alloc (.cells (madeCells #[.string ⟨#[]⟩] n) 9)) := (Below.refl _ _).alloc (Nat.le_refl _) _
  obtain ⟨b, off, k1, k2⟩ := hK.below ba (Nat.le_refl _)
  have hg := heap_alloc_new w (.cells (madeCells #[.string ⟨#[]⟩] n) 9)
  have hsz : (madeCells #[.string ⟨#[]⟩] n).size = n := by simp [madeCells]
  refine wpList_copy_own hgd d s 22 22 hop 9 Trym.underlying22 size9 w.heap.size 0 n n ad n cap hd hs _ 9 hg cs (by rw [hl]; exact (Nat.min_self n).symm) (fun j v hv => ?_) (by omega) (fun v hv => ?_) ?_
  · obtain ⟨hj, rfl⟩ := hat j v hv
    have e := k1 (by omega)
    cases e
    rw [Addr.add_mid]
    exact k2 j hj
  · rw [hcs] at hv
    obtain ⟨j, _, rfl⟩ := List.mem_map.1 hv
    rfl
  · rw [hl]
    refine h _ ⟨w.heap.size, 0, fun _ => rfl, fun j hj => ?_⟩ (below_setRow ba (Nat.le_refl _) _)
    refine blk_cell (setRow_heap _ _ _ _ 9 _ hg) ?_
    have : cs[j]? = some (.string (K j)) := by rw [hcs, List.getElem?_map, List.getElem?_range hj]; rfl
    simp [List.getElem?_append, hl, hj]
    exact (List.getElem?_eq_some_iff.1 this).2

theorem one_int (z : Int) : ∀ u ∈ [Value.int .i64 z], u.oneCell' = true := fun u hu => by simp at hu; subst hu; rfl
theorem one_more_int {w wr w1 : World} {v v' : Value} {m : Nat} {L : List Int} {z : Int} {o : Obj} (hb : Below w.heap.size w wr) (hown : wr.ownsRow w.heap.size 3 1 v m (L.map (Value.int .i64)))
    (hown' : w1.ownsRow w.heap.size 3 1 v' (m + 1) (L.map (Value.int .i64) ++ [.int .i64 z])) (hg : (wr.alloc o).grownBy w1 v.ownBlock) :
    w1.ownsRow w.heap.size 3 1 v' (m + 1) ((L ++ [z]).map (Value.int .i64)) ∧ Below w.heap.size w w1 := by
  refine ⟨by simpa using hown', ?_⟩
  exact (hb.alloc hb.size o).grown hg (by simp; have := hb.size; omega) (fun k hk => (hown.lt k hk).1)

/-- What the law compares. -/
structure Cmp (wr : World) (g1 g2 : Nat) (ao : Option Addr) (cap : Nat) (ak : Option Addr) (n : Nat) (K : Nat → ByteArray) (key : ByteArray) (F : List Int) (base : Nat) : Prop where
  out : ∀ (j : Nat) z, F[j]? = some z → wr.cell? ⟨g1, j, none⟩ = some (.string (ks K key z)) ∧ wr.cell? ⟨g2, j, none⟩ = some (.int .i64 z)
  own : wr.ownsRow base 3 1 (.slice ao F.length cap) F.length (F.map (Value.int .i64))
  keys : Keys wr ak n K
theorem owns_below {w w' : World} {base N : Nat} {e : TypeId} {size : Nat} {v : Value} {n : Nat} {xs : List Value} (h : w.ownsRow base e size v n xs) (hb : Below N w w') (hN : w.heap.size ≤ N) : w'.ownsRow base e size v n xs := by
  refine ⟨h.1, ?_⟩
  rcases h.2 with h2 | ⟨g, cap, cur, hv, hg, hh, r⟩
  · exact .inl h2
  · exact .inr ⟨g, cap, cur, hv, hg, heap_below hh hb hN, r⟩
theorem Cmp.below {wr w' : World} {g1 g2 : Nat} {ao : Option Addr} {cap : Nat} {ak : Option Addr} {n : Nat} {K : Nat → ByteArray} {key : ByteArray} {F : List Int} {base N : Nat} (h : Cmp wr g1 g2 ao cap ak n K key F base) (hb : Below N wr w') (hN : wr.heap.size ≤ N) : Cmp w' g1 g2 ao cap ak n K key F base :=
  ⟨fun j z hz => ⟨cell_below (h.out j z hz).1 hb hN, cell_below (h.out j z hz).2 hb hN⟩, owns_below h.own hb hN, h.keys.below hb hN⟩
theorem Cmp.row {wr : World} {g1 g2 : Nat} {ao : Option Addr} {cap : Nat} {ak : Option Addr} {n : Nat} {K : Nat → ByteArray} {key : ByteArray} {F : List Int} {base : Nat} (h : Cmp wr g1 g2 ao cap ak n K key F base) {k : Nat} {z : Int} (hz : F[k]? = some z) :
    ∃ g, ao = some ⟨g, 0, none⟩ ∧ wr.cell? ⟨g, k, none⟩ = some (.int .i64 z) := by
  have hk := (List.getElem?_eq_some_iff.1 hz).1
  obtain ⟨g, cap', e, -, -⟩ := h.own.form (by omega)
  simp only [Value.slice.injEq] at e
  obtain ⟨rfl, -, rfl⟩ := e
  refine ⟨g, rfl, ?_⟩
  rw [h.own.cellAt k (by omega), List.getElem?_map, hz]
  rfl
end Go.Proofs.Qxb6615835aMods
