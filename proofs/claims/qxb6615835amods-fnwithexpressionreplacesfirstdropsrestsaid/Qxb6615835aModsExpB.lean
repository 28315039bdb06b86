import Derived.Test.Qxb6615835aModsExpA
import Derived.OwnWalk
import Derived.Deep.AppendLies
namespace Go.Proofs.Qxb6615835aMods
open Go.RowKit
set_option linter.unusedVariables false

theorem Trym.info20 : (Trym.prog.info? 20).map (fun i => (i.zero, i.size, i.bytes)) = some (some .nilIface, 1, 16) := by kernel_rfl
theorem Trym.info3 : (Trym.prog.info? 3).map (fun i => (i.zero, i.size, i.bytes)) = some (some (.int .i64 0), 1, 8) := by kernel_rfl
theorem Trym.info9 : (Trym.prog.info? 9).map (fun i => (i.zero, i.size, i.bytes)) = some (some (.string ⟨#[]⟩), 1, 16) := by kernel_rfl

/-- The ids of the answer under way: the first k expressions have been looked at. -/
def st (K : Nat → ByteArray) (key : ByteArray) : Nat → List Int × Bool
  | 0 => ([], false)
  | k + 1 => if ((K k).toList == key.toList) = true then (if (st K key k).2 = true then st K key k else ((st K key k).1 ++ [-1], true)) else ((st K key k).1 ++ [(k : Int)], (st K key k).2)
def fin (K : Nat → ByteArray) (key : ByteArray) (n : Nat) : List Int := if (st K key n).2 = true then (st K key n).1 else (st K key n).1 ++ [-1]
theorem st_ne {K : Nat → ByteArray} {key : ByteArray} {k : Nat} (h : ((K k).toList == key.toList) = false) : st K key (k + 1) = ((st K key k).1 ++ [(k : Int)], (st K key k).2) := by simp [st, h]
theorem st_first {K : Nat → ByteArray} {key : ByteArray} {k : Nat} (h : ((K k).toList == key.toList) = true) (h2 : (st K key k).2 = false) : st K key (k + 1) = ((st K key k).1 ++ [-1], true) := by simp [st, h, h2]
theorem st_again {K : Nat → ByteArray} {key : ByteArray} {k : Nat} (h : ((K k).toList == key.toList) = true) (h2 : (st K key k).2 = true) : st K key (k + 1) = st K key k := by simp [st, h, h2]
theorem st_len (K : Nat → ByteArray) (key : ByteArray) : ∀ k, (st K key k).1.length ≤ k
  | 0 => Nat.le_refl _
  | k + 1 => by
    have := st_len K key k
    unfold st
    split
    · split
      · omega
      · simp; omega
    · simp; omega
def cellOf (blk : Int → Nat) (z : Int) : Value := .iface 29 (.map (some (blk z)))

theorem cell_below {w w' : World} {a : Addr} {v : Value} {N : Nat} (h : w.cell? a = some v) (hb : Below N w w') (hN : w.heap.size ≤ N) : w'.cell? a = some v :=
  (hb.cell (Nat.lt_of_lt_of_le (World.block_lt_of_cell? w _ h) hN)).trans h
theorem heap_below {w w' : World} {b : Nat} {o : Obj} {N : Nat} (h : w.heap[b]? = some o) (hb : Below N w w') (hN : w.heap.size ≤ N) : w'.heap[b]? = some o :=
  (hb.block b (Nat.lt_of_lt_of_le (Array.getElem?_eq_some_iff.1 h).1 hN)).trans h

theorem one_more {w wr w1 : World} {v v' : Value} {m : Nat} {L : List Int} {blk : Int → Nat} {z : Int} {o : Obj} (hb : Below w.heap.size w wr) (hown : wr.ownsRow w.heap.size 20 1 v m (L.map (cellOf blk)))
    (hown' : w1.ownsRow w.heap.size 20 1 v' (m + 1) (L.map (cellOf blk) ++ [cellOf blk z])) (hg : (wr.alloc o).grownBy w1 v.ownBlock) :
    w1.ownsRow w.heap.size 20 1 v' (m + 1) ((L ++ [z]).map (cellOf blk)) ∧ Below w.heap.size w w1 := by
  refine ⟨by simpa using hown', ?_⟩
  exact (hb.alloc hb.size o).grown hg (by simp; have := hb.size; omega) (fun k hk => (hown.lt k hk).1)

theorem one_cell (blk : Int → Nat) (z : Int) : ∀ u ∈ [cellOf blk z], u.oneCell' = true := fun u hu => by simp at hu; subst hu; rfl

set_option maxRecDepth 100000 in
set_option maxHeartbeats 1600000 in
theorem with_any (n b : Nat) (blk : Int → Nat) (K : Nat → ByteArray) (key : ByteArray) (w : World) (hn : n ≤ 65536)
    (hc : ∀ j : Nat, j < n → w.cell? ⟨b, j, none⟩ = some (cellOf blk j)) (hm : ∀ j : Nat, j < n → w.heap[blk j]? = some (.map (ent (K j) j) 2)) (hnew : w.heap[blk (-1)]? = some (.map (ent key (-1)) 2)) :
    Calls Trym.prog 7 #[.slice (some ⟨b, 0, none⟩) n n, .map (some (blk (-1)))] w fun e w' => ∃ ao cap, e = .returned (.slice ao (fin K key n).length cap) ∧
      w'.ownsRow w.heap.size 20 1 (.slice ao (fin K key n).length cap) (fin K key n).length ((fin K key n).map (cellOf blk)) ∧ Below w.heap.size w w' := by
  have HC : Hid (∀ j : Nat, j < n → w.cell? ⟨b, j, none⟩ = some (cellOf blk j)) := hc
  have HM : Hid (∀ j : Nat, j < n → w.heap[blk j]? = some (.map (ent (K j) j) 2)) := hm
  have HN : Hid (w.heap[blk (-1)]? = some (.map (ent key (-1)) 2)) := hnew
  clear hc hm hnew
  obtain ⟨i20, hi20, hz20, hs20, hy20⟩ := info_parts Trym.info20
  have hby : i20.bytes * (n + 1) ≤ 281474976710656 := by rw [hy20]; omega
  have hC : IntKind.i64.wrap ((n : Int) + 1) = ((n + 1 : Nat) : Int) := by rw [IntWalk.i64_in _ ⟨by omega, by omega⟩]; omega
  have hC' : wrap64 ((n : Int) + 1) = ((n + 1 : Nat) : Int) := by rw [IntWalk.wrap64_in _ ⟨by omega, by omega⟩]; omega
  go_enter Trym.func7, Trym.ntmps7
  go_wp2_with fail
  refine (keyOf_any _ _ _ _ HN.out).mono ?_
  rintro e w1 ⟨rfl, hw⟩
  obtain rfl := hw.symm
  clear hw
  go_wp2_with (refine wpList_make_own _ rfl _ _ 28 rfl w.heap.size 20 i20 _ 1 Trym.underlying28 hi20 hz20 hs20 _ _ _ (n + 1) rfl rfl (by omega) hby (by unfold maxLen; omega) (Nat.le_refl _) ?_)
  intro w2 own0 grow0
  have B0 : Below w.heap.size w w2 := (Below.refl _ _).grown grow0 (Nat.le_refl _) (fun k hk => by cases hk)
  clear grow0 hC hC' hby
  go_wp2_with fail
  go_loopw [6, 7, 19] (fun out pl i wr => ∃ k : Nat, ∃ ao m cap, ∃ q : Bool, k ≤ n ∧ i = .int .i64 k ∧ out = .slice ao m cap ∧ pl = .bool q ∧ m ≤ k ∧ Hid (q = (st K key k).2) ∧ Hid (m = (st K key k).1.length) ∧ wr.ownsRow w.heap.size 20 1 (.slice ao m cap) m ((st K key k).1.map (cellOf blk)) ∧ Below w.heap.size w wr) (fun _ _ i _ => n - (intOf i).toNat)
  case atStart => exact ⟨0, _, _, _, _, Nat.zero_le _, rfl, rfl, rfl, Nat.le_refl _, rfl, rfl, own0, B0⟩
  case round =>
    clear own0 B0
    obtain ⟨k, ao, m, cap, q, hk, rfl, rfl, rfl, hmk, HQ, HM2, hown, hb⟩ := hrel
    have hsz := hb.size
    by_cases hlt : k < n
    · have c0 : wr.cell? ⟨b, k, none⟩ = some (.iface 29 (.map (some (blk k)))) := cell_below (HC.out k hlt) hb (Nat.le_refl _)
      have HK : Hid (wr.heap[blk k]? = some (.map (ent (K k) k) 2)) := heap_below (HM.out k hlt) hb (Nat.le_refl _)
      have HW : Hid (∀ o, (wr.alloc o).heap[wr.heap.size]? = some o) := fun o => heap_alloc_new wr o
      have hi0 : (0 : Int) ≤ (k : Int) := Int.natCast_nonneg _
      have hi1 : (k : Int) < (n : Int) := by omega
      go_wp2_with fail
      refine (keyOf_any _ _ _ _ HK.out).mono ?_
      rintro e w3 ⟨rfl, hw⟩
      obtain rfl := hw.symm
      clear hw c0
      by_cases he : ((K k).toList == key.toList) = true
      · cases q with
        | true =>
          have hst : Hid (st K key (k + 1) = st K key k) := st_again he HQ.out.symm
          go_wp2_with fail
          go_roundw
          case rel => exact ⟨k + 1, ao, m, cap, true, by omega, by go_num, rfl, rfl, by omega, by show _ = _; rw [hst.out]; exact HQ.out, by show _ = _; rw [hst.out]; exact HM2.out, by rw [hst.out]; exact hown, hb⟩
          case measure => simp [intOf]; omega
        | false =>
          have hst : Hid (st K key (k + 1) = ((st K key k).1 ++ [-1], true)) := st_first he HQ.out.symm
          go_wp2_with (at_builtin; refine wpList_append_lies _ rfl (.tmp 35) (.tmp 38) 28 rfl w.heap.size 20 i20 _ 1 16 Trym.underlying28 hi20 hz20 hs20 hy20 rfl (by omega) (.slice ao m cap) m ((st K key k).1.map (cellOf blk)) rfl (hown.alloc _) ⟨wr.heap.size, 0, none⟩ 1 1 [cellOf blk (-1)] rfl rfl (World.news_of_block (cs := #[cellOf blk (-1)]) (t := 20) (fr := (0, 0)) (HW.out _)) (one_cell _ _) (by omega) (by unfold maxLen; omega) (by omega) (by simp; omega) (wr.heap.size + 1) (by simp) ?_)
          intro g cap' w4 hown' hgrow hat hlt1
          obtain ⟨ho, hb4⟩ := one_more hb hown hown' hgrow
          clear hown hown' hgrow hat hlt1 hb HW
          go_wp2_with fail
          go_roundw
          case rel => exact ⟨k + 1, _, _, _, true, by omega, by go_num, rfl, rfl, by omega, by show _ = _; rw [hst.out], by show _ = _; rw [hst.out, List.length_append, HM2.out]; rfl, by rw [hst.out]; exact ho, hb4⟩
          case measure => simp [intOf]; omega
      · have he' : ((K k).toList == key.toList) = false := by simpa using he
        have hst : Hid (st K key (k + 1) = ((st K key k).1 ++ [(k : Int)], (st K key k).2)) := st_ne he'
        clear he
        go_wp2_with (at_builtin; refine wpList_append_lies _ rfl (.tmp 28) (.tmp 30) 28 rfl w.heap.size 20 i20 _ 1 16 Trym.underlying28 hi20 hz20 hs20 hy20 rfl (by omega) (.slice ao m cap) m ((st K key k).1.map (cellOf blk)) rfl (hown.alloc _) ⟨wr.heap.size, 0, none⟩ 1 1 [cellOf blk (k)] rfl rfl (World.news_of_block (cs := #[cellOf blk (k)]) (t := 20) (fr := (0, 0)) (HW.out _)) (one_cell _ _) (by omega) (by unfold maxLen; omega) (by omega) (by simp; omega) (wr.heap.size + 1) (by simp) ?_)
        intro g cap' w4 hown' hgrow hat hlt1
        obtain ⟨ho, hb4⟩ := one_more hb hown hown' hgrow
        clear hown hown' hgrow hat hlt1 hb HW
        go_wp2_with fail
        go_roundw
        case rel => exact ⟨k + 1, _, _, _, q, by omega, by go_num, rfl, rfl, by omega, by show _ = _; rw [hst.out]; exact HQ.out, by show _ = _; rw [hst.out, List.length_append, HM2.out]; rfl, by rw [hst.out]; exact ho, hb4⟩
        case measure => simp [intOf]; omega
    · have hkl : n = k := by omega
      subst hkl
      cases q with
      | true =>
        have hf : fin K key n = (st K key n).1 := by unfold fin; rw [if_pos HQ.out.symm]
        go_wp2
        go_ret
        refine ⟨ao, cap, ?_, ?_, hb⟩
        · exact congrArg (fun z => Ending.returned (.slice ao z cap)) (HM2.out.trans (by rw [hf]))
        · rw [hf, ← HM2.out]; exact hown
      | false =>
        have hf : Hid (fin K key n = (st K key n).1 ++ [-1]) := by show _ = _; unfold fin; rw [if_neg (by rw [← HQ.out]; exact Bool.false_ne_true)]
        have HW : Hid (∀ o, (wr.alloc o).heap[wr.heap.size]? = some o) := fun o => heap_alloc_new wr o
        go_wp2_with (at_builtin; refine wpList_append_lies _ rfl (.tmp 43) (.tmp 46) 28 rfl w.heap.size 20 i20 _ 1 16 Trym.underlying28 hi20 hz20 hs20 hy20 rfl (by omega) (.slice ao m cap) m ((st K key n).1.map (cellOf blk)) rfl (hown.alloc _) ⟨wr.heap.size, 0, none⟩ 1 1 [cellOf blk (-1)] rfl rfl (World.news_of_block (cs := #[cellOf blk (-1)]) (t := 20) (fr := (0, 0)) (HW.out _)) (one_cell _ _) (by omega) (by unfold maxLen; omega) (by omega) (by simp; omega) (wr.heap.size + 1) (by simp) ?_)
        intro g cap' w4 hown' hgrow hat hlt1
        obtain ⟨ho, hb4⟩ := one_more hb hown hown' hgrow
        clear hown hown' hgrow hat hlt1 hb HW
        go_wp2
        go_ret
        have hl : (fin K key n).length = m + 1 := by rw [hf.out, List.length_append, ← HM2.out]; rfl
        refine ⟨some ⟨g, 0, none⟩, cap', ?_, ?_, hb4⟩
        · exact congrArg (fun z => Ending.returned (.slice (some ⟨g, 0, none⟩) z cap')) hl.symm
        · rw [hl, hf.out]; exact ho
end Go.Proofs.Qxb6615835aMods
