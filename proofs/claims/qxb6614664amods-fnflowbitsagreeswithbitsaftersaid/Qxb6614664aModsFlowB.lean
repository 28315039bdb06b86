import Derived.Test.Qxb6614664aModsFlowA
import Derived.Deep.OwnRows
namespace Go.Proofs.Qxb6614664aMods
open Go.RowKit

theorem Trym.info2 : (Trym.prog.info? 2).map (fun i => (i.zero, i.size, i.bytes)) = some (some (.int .i64 0), 1, 8) := by kernel_rfl
theorem Trym.info24 : (Trym.prog.info? 24).map (fun i => (i.zero, i.size, i.bytes)) = some (some (.int .u64 0), 1, 8) := by kernel_rfl

/-- The first k cells are filled. -/
def upTo (k : Nat) (f g : Nat → Value) : Nat → Value := fun j => if j < k then f j else g j

theorem upTo_step {w : World} {b : Nat} {t : TypeId} {n k : Nat} {f g : Nat → Value} (h : w.rowIs b t n (upTo k f g)) : (w.setCell ⟨b, k, none⟩ (f k)).rowIs b t n (upTo (k + 1) f g) := by
  refine (h.set k (f k)).congr fun i _ => ?_
  unfold upTo
  by_cases e : i = k
  · subst e; simp
  · by_cases e2 : i < k
    · rw [if_neg e, if_pos e2, if_pos (by omega)]
    · rw [if_neg e, if_neg e2, if_neg (by omega)]

/-- What 'riseParts' leaves. -/
def Parts (w : World) (len : Nat) (R B : Nat → Int) (w' : World) : Prop :=
  w'.rowIs w.heap.size 2 len (fun j => .int .i64 (R j)) ∧ w'.rowIs (w.heap.size + 1) 24 len (fun j => .int .u64 (B j)) ∧ Below w.heap.size w w' ∧ w'.heap.size = w.heap.size + 2

structure PartsAt (w : World) (len k : Nat) (R B : Nat → Int) (wr : World) : Prop where
  r0 : wr.rowIs w.heap.size 2 len (upTo k (fun j => .int .i64 (R j)) (fun _ => .int .i64 0))
  r1 : wr.rowIs (w.heap.size + 1) 24 len (upTo k (fun j => .int .u64 (B j)) (fun _ => .int .u64 0))
  bel : Below w.heap.size w wr
  size : wr.heap.size = w.heap.size + 2

theorem PartsAt.start (w : World) (len : Nat) (R B : Nat → Int) : PartsAt w len 0 R B ((w.alloc (.cells (madeCells #[.int .i64 0] len) 2)).alloc (.cells (madeCells #[.int .u64 0] len) 24)) := by
  refine ⟨?_, ?_, ?_, by simp⟩
  · refine ((World.rowIs_made w (.int .i64 0) len 2).alloc _).congr fun i _ => by simp [upTo]
  · have := World.rowIs_made (w.alloc (.cells (madeCells #[.int .i64 0] len) 2)) (.int .u64 0) len 24
    simp only [World.size_alloc] at this
    exact this.congr fun i _ => by simp [upTo]
  · exact ((Below.refl _ _).alloc (Nat.le_refl _) _).alloc (by simp) _

theorem PartsAt.step {w : World} {len k : Nat} {R B : Nat → Int} {wr : World} (h : PartsAt w len k R B wr) : PartsAt w len (k + 1) R B ((wr.setCell ⟨w.heap.size, k, none⟩ (.int .i64 (R k))).setCell ⟨w.heap.size + 1, k, none⟩ (.int .u64 (B k))) := by
  refine ⟨?_, ?_, ?_, ?_⟩
  · exact (upTo_step h.r0).setOther (by simp) _
  · exact upTo_step (f := fun j => .int .u64 (B j)) (h.r1.setOther (by simp) _)
  · exact (h.bel.setCell (by simp) _).setCell (by simp) _
  · simpa [World.setCell] using h.size

theorem PartsAt.done {w : World} {len : Nat} {R B : Nat → Int} {wr : World} (h : PartsAt w len len R B wr) : Parts w len R B wr :=
  ⟨h.r0.congr fun i hi => by simp [upTo, hi], h.r1.congr fun i hi => by simp [upTo, hi], h.bel, h.size⟩

theorem PartsAt.cells {w : World} {len k : Nat} {R B : Nat → Int} {wr : World} (h : PartsAt w len k R B wr) (hk : k < len) :
    wr.cell? ⟨w.heap.size, k, none⟩ = some (.int .i64 0) ∧ wr.frozen? ⟨w.heap.size, k, none⟩ = false ∧ wr.cell? ⟨w.heap.size + 1, k, none⟩ = some (.int .u64 0) ∧ wr.frozen? ⟨w.heap.size + 1, k, none⟩ = false :=
  ⟨by simpa [upTo] using h.r0.cell hk, h.r0.frozen k, by simpa [upTo] using h.r1.cell hk, h.r1.frozen k⟩

set_option maxHeartbeats 800000 in
theorem parts_any (ao : Option Addr) (b off len cap : Nat) (R B : Nat → Int) (w : World) (hm : len ≤ 4096) (hao : 0 < len → ao = some ⟨b, off, none⟩) (hc : Rises w b off len R B) :
    Calls Trym.prog 9 #[.slice ao len cap] w fun e w' => e = .returned (.tuple #[.slice (some ⟨w.heap.size, 0, none⟩) len len, .slice (some ⟨w.heap.size + 1, 0, none⟩) len len]) ∧ Parts w len R B w' := by
  have hmk1 := run_make_row' (P := Trym.prog) 27 2 (.int .i64 0) 8 Trym.underlying27 Trym.info2 rfl .i64 .i64 len (by omega) (by omega)
  have hmk2 := run_make_row' (P := Trym.prog) 28 24 (.int .u64 0) 8 Trym.underlying28 Trym.info24 rfl .i64 .i64 len (by omega) (by omega)
  go_enter Trym.func9, Trym.ntmps9
  go_wp2
  clear hmk1 hmk2
  go_loopw [6] (fun i wr => ∃ k : Nat, k ≤ len ∧ i = .int .i64 k ∧ PartsAt w len k R B wr) (fun i _ => len - (intOf i).toNat)
  case atStart => exact ⟨0, Nat.zero_le _, rfl, PartsAt.start w len R B⟩
  case round =>
    obtain ⟨k, hk, rfl, hP⟩ := hrel
    by_cases hlt : k < len
    · obtain rfl := hao (by omega)
      obtain ⟨c0, c1⟩ := hc k hlt
      have hb := World.block_lt_of_cell? w _ c0
      simp only at hb
      rw [← hP.bel.cell (by exact hb)] at c0 c1
      obtain ⟨d0, f0, d1, f1⟩ := hP.cells hlt
      clear hc hao
      have hne : ¬ b = w.heap.size := by omega
      go_wp2
      go_roundw
      case rel => exact ⟨k + 1, by omega, by go_num, hP.step⟩
      case measure => simp [intOf]; omega
    · have hkl : k = len := by omega
      subst hkl
      clear hc hao
      go_wp2
      go_ret2
      exact ⟨rfl, hP.done⟩
end Go.Proofs.Qxb6614664aMods
