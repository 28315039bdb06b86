import Derived.Test.Qxb6614664aModsFlowB
import Derived.Deep.RegionLaw
import Derived.Deep.AppendLies
namespace Go.Proofs.Qxb6614664aMods
open Go.RowKit

theorem Trym.info86 : (Trym.prog.info? 86).map (fun i => (i.zero, i.size, i.bytes)) = some (some (.agg #[.int .i64 0, .int .u64 0]), 2, 16) := by kernel_rfl

/-- The cells of the first k rises. -/
def ents (R B : Nat → Int) (k : Nat) : List Value := (List.range k).flatMap fun j => [.int .i64 (R j), .int .u64 (B j)]
theorem ents_succ (R B : Nat → Int) (k : Nat) : ents R B (k + 1) = ents R B k ++ [.int .i64 (R k), .int .u64 (B k)] := by
  simp [ents, List.range_succ]
theorem ents_length (R B : Nat → Int) (k : Nat) : (ents R B k).length = k * 2 := by
  induction k with
  | zero => rfl
  | succ k ih => rw [ents_succ]; simp [ih]; omega
theorem ents_at (R B : Nat → Int) (n k : Nat) (h : k < n) : (ents R B n)[k * 2 + 1]? = some (.int .u64 (B k)) := by
  induction n with
  | zero => omega
  | succ n ih =>
    rw [ents_succ]
    by_cases e : k = n
    · subst e
      rw [List.getElem?_append_right (by rw [ents_length]; omega), ents_length]
      have : k * 2 + 1 - k * 2 = 1 := by omega
      rw [this]; rfl
    · rw [List.getElem?_append_left (by rw [ents_length]; omega)]
      exact ih (by omega)

/-- The flow under way: k rises are in. -/
structure FlowAt (w : World) (k : Nat) (R B : Nat → Int) (v : Value) (wr : World) : Prop where
  own : wr.ownsRow (w.heap.size + 1) 86 2 v k (ents R B k)
  cell : wr.cell? ⟨w.heap.size, 19, none⟩ = some v
  free : wr.frozen? ⟨w.heap.size, 19, none⟩ = false
  bel : Below w.heap.size w wr
  size : w.heap.size < wr.heap.size

theorem FlowAt.ne {w : World} {k : Nat} {R B : Nat → Int} {v : Value} {wr : World} (h : FlowAt w k R B v wr) {g : Nat} (hg : g ≤ w.heap.size) : v.ownBlock ≠ some g := by
  intro e
  have := h.own.lt g e
  omega

theorem FlowAt.step {w : World} {k : Nat} {R B : Nat → Int} {v v' : Value} {wr w1 : World} {o : Obj} (h : FlowAt w k R B v wr) (hown : w1.ownsRow (w.heap.size + 1) 86 2 v' (k + 1) (ents R B k ++ [.int .i64 (R k), .int .u64 (B k)]))
    (hg : ((wr.alloc o).drew).grownBy w1 v.ownBlock) : FlowAt w (k + 1) R B v' (w1.setCell ⟨w.heap.size, 19, none⟩ v') := by
  have hsz := h.size
  have hsz1 : w.heap.size < w1.heap.size := by have := hg.size; simp at this; omega
  have ne0 := h.ne (Nat.le_refl _)
  have c1 : w1.cell? ⟨w.heap.size, 19, none⟩ = some v := (hg.cell_far _ (by simp; omega) (Ne.symm ne0)).trans ((World.cell?_alloc_lt _ _ _ (by simpa using hsz)).trans h.cell)
  have f1 : w1.frozen? ⟨w.heap.size, 19, none⟩ = false := (hg.frozen_far _ (by simp; omega) (Ne.symm ne0)).trans ((World.frozen?_alloc_old _ _ _ (by simp; omega)).trans h.free)
  refine ⟨?_, ?_, ?_, ?_, ?_⟩
  · rw [ents_succ]; exact ownsRow_setCell_below hown (by simp) _
  · exact World.cell?_setCell_same _ _ _ c1
  · rw [World.frozen?_setCell]; exact f1
  · have hb : Below w.heap.size w (wr.alloc o).drew := (h.bel.alloc (by omega) o).drew
    exact (hb.grown hg (by simp; omega) (fun g hg' => by have := h.own.lt g hg'; omega)).setCell (by simp) _
  · simpa [World.setCell] using hsz1

set_option maxRecDepth 100000 in
set_option maxHeartbeats 1600000 in
theorem newFlow_any (b1 b2 len : Nat) (R B : Nat → Int) (w : World) (hm : len ≤ 4096) (h1 : w.rowIs b1 2 len (fun j => .int .i64 (R j))) (h2 : w.rowIs b2 24 len (fun j => .int .u64 (B j))) :
    Calls Trym.prog 10 #[.slice (some ⟨b1, 0, none⟩) len len, .slice (some ⟨b2, 0, none⟩) len len] w fun e w' => e = .returned (.pointer (some ⟨w.heap.size, 0, none⟩)) ∧ ∃ v, FlowAt w len R B v w' := by
  obtain ⟨i0, hi0, hz0, hz1, hz2⟩ := info_parts Trym.info86
  have l1 := h1.lt
  have l2 := h2.lt
  go_enter Trym.func10, Trym.ntmps10
  go_wp2
  go_loopw [11] (fun i wr => ∃ k : Nat, ∃ v, k ≤ len ∧ i = .int .i64 k ∧ FlowAt w k R B v wr) (fun i _ => len - (intOf i).toNat)
  case atStart => exact ⟨0, .slice none 0 0, Nat.zero_le _, rfl, World.ownsRow_nil _ _ _ _, by simp, by simp, (Below.refl _ _).alloc (Nat.le_refl _) _, by simp⟩
  case round =>
    obtain ⟨k, v, hk, rfl, hF⟩ := hrel
    by_cases hlt : k < len
    · have c1 : wr.cell? ⟨b1, k, none⟩ = some (.int .i64 (R k)) := (hF.bel.cell (by exact l1)).trans (h1.cell hlt)
      have c2 : wr.cell? ⟨b2, k, none⟩ = some (.int .u64 (B k)) := (hF.bel.cell (by exact l2)).trans (h2.cell hlt)
      have c3 := hF.cell
      have c4 := hF.free
      have ne0 := hF.ne (Nat.le_refl _)
      have ne1 := hF.ne (Nat.le_of_lt l1)
      have ne2 := hF.ne (Nat.le_of_lt l2)
      have hsz := hF.size
      have c5 : ∀ o, (wr.alloc o).frozen? ⟨w.heap.size, 19, none⟩ = false := fun o => (World.frozen?_alloc_old _ _ _ (by simp; omega)).trans c4
      have c6 : ∀ o, (wr.alloc o).cell? ⟨w.heap.size, 19, none⟩ = some v := fun o => (World.cell?_alloc_lt _ _ _ (by simpa using hsz)).trans c3
      have hk0 : (0 : Int) ≤ (k : Int) := Int.natCast_nonneg _
      have hk1 : (k : Int) < (len : Int) := by omega
      clear h1 h2
      go_wp2_with fail
      go_region_law ((refine step_append_lies _ (by rfl) _ _ _ (by rfl) (w.heap.size + 1) 86 i0 _ 2 16 Trym.underlying62 hi0 hz0 hz1 hz2 rfl (by omega) v k (ents R B k) (by rfl) ((hF.own.alloc _).drew) ⟨wr.heap.size, 0, none⟩ 1 1 [.int .i64 (R k), .int .u64 (B k)] (by rfl) (by rfl) (World.news_of_block (cs := #[.int .i64 (R k), .int .u64 (B k)]) (t := 86) (fr := (0, 0)) (heap_alloc_new wr _)) (by simp [Value.oneCell']) (by omega) (by unfold maxLen; omega) (by omega) (by simp; omega) (wr.heap.size + 1) (by simp) ?_; intro gg cap w1 hown1 hgrow hat hlt1; have q1 : w1.cell? ⟨w.heap.size, 19, none⟩ = some v := (hgrow.cell_far _ (by simp; omega) (Ne.symm ne0)).trans (c6 _); have q2 : w1.frozen? ⟨w.heap.size, 19, none⟩ = false := (hgrow.frozen_far _ (by simp; omega) (Ne.symm ne0)).trans (c5 _)))
      all_goals
        have hS := hF.step hown1 hgrow
        clear c1 c2 c3 c4 c5 c6 q1 q2
        go_wp2
        go_roundw
        case rel => exact ⟨k + 1, _, by omega, by go_num, hS⟩
        case measure => simp [intOf]; omega
    · have hkl : k = len := by omega
      subst hkl
      clear h1 h2
      go_wp2
      go_ret
      exact ⟨rfl, v, hF⟩
end Go.Proofs.Qxb6614664aMods
