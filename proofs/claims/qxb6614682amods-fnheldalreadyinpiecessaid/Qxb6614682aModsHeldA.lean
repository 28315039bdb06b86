import Derived.Test.Qxb6614682aModsWaitB
import Derived.Deep.OwnRows
import Derived.Deep.RegionHeld3
namespace Go.Proofs.Qxb6614682aMods
open Go.RowKit

set_option maxHeartbeats 400000 in
theorem zzCell_any (d l c : Int) (m n : ByteArray) (w : World) :
    Calls Trym.prog 11 #[.agg #[.int .u8 d, .string m, .string n, .int .u16 l, .int .u16 c]] w fun e w' => e = .returned (.agg #[.int .u8 d, .string m, .string n, .int .u16 l, .int .u16 c]) ∧
      w' = (w.alloc (.cells #[.int .u8 d, .string m, .string n, .int .u16 l, .int .u16 c] 53)).alloc (.cells #[.int .u8 d, .string m, .string n, .int .u16 l, .int .u16 c] 50) := by
  go_enter Trym.func11, Trym.ntmps11
  go_wp2
  simp [bodyPost, results, Trym.results11, go_sem]

theorem below4 (w : World) (a b c d : Obj) : Below w.heap.size w ((((w.alloc a).alloc b).alloc c).alloc d).drew :=
  (((((Below.refl _ _).alloc (Nat.le_refl _) _).alloc (by simp) _).alloc (by simp; omega) _).alloc (by simp; omega) _).drew

set_option maxHeartbeats 1600000 in
theorem zzFailure_any (d l c z : Int) (m n : ByteArray) (w : World) :
    Calls Trym.prog 12 #[.agg #[.int .u8 d, .string m, .string n, .int .u16 l, .int .u16 c, .int .u8 z]] w fun e w' => e = .returned (.agg #[.int .u8 d, .string m, .string n, .int .u16 l, .int .u16 c, .int .u8 z]) ∧ Below w.heap.size w w' := by
  go_enter Trym.func12, Trym.ntmps12
  go_wp2
  go_region_held3 (fun w' => w'.cell? ⟨w.heap.size, 0, none⟩ = some (.int .u8 d) ∧ w'.cell? ⟨w.heap.size, 1, none⟩ = some (.string m) ∧ w'.cell? ⟨w.heap.size, 2, none⟩ = some (.string n) ∧ w'.cell? ⟨w.heap.size, 3, none⟩ = some (.int .u16 l) ∧ w'.cell? ⟨w.heap.size, 4, none⟩ = some (.int .u16 c) ∧ w'.cell? ⟨w.heap.size, 5, none⟩ = some (.int .u8 z)) (simp [go_sem, World.cell?_alloc_past])
    ((go_at_call 11; refine (zzCell_any d l c m n _).mono ?_; rintro e w' ⟨rfl, rfl⟩))
  all_goals
    go_wp2
    simp [bodyPost, results, Trym.results12, go_sem]
    exact below4 _ _ _ _ _

set_option maxHeartbeats 1600000 in
theorem zzBroadcast_any (d l c z y : Int) (m n : ByteArray) (w : World) :
    Calls Trym.prog 13 #[.agg #[.int .u8 d, .string m, .string n, .int .u16 l, .int .u16 c, .int .i64 z, .int .u8 y]] w fun e w' => e = .returned (.agg #[.int .u8 d, .string m, .string n, .int .u16 l, .int .u16 c, .int .i64 z, .int .u8 y]) ∧ Below w.heap.size w w' := by
  go_enter Trym.func13, Trym.ntmps13
  go_wp2
  go_region_held3 (fun w' => w'.cell? ⟨w.heap.size, 0, none⟩ = some (.int .u8 d) ∧ w'.cell? ⟨w.heap.size, 1, none⟩ = some (.string m) ∧ w'.cell? ⟨w.heap.size, 2, none⟩ = some (.string n) ∧ w'.cell? ⟨w.heap.size, 3, none⟩ = some (.int .u16 l) ∧ w'.cell? ⟨w.heap.size, 4, none⟩ = some (.int .u16 c) ∧ w'.cell? ⟨w.heap.size, 5, none⟩ = some (.int .i64 z) ∧ w'.cell? ⟨w.heap.size, 6, none⟩ = some (.int .u8 y)) (simp [go_sem, World.cell?_alloc_past])
    ((go_at_call 11; refine (zzCell_any d l c m n _).mono ?_; rintro e w' ⟨rfl, rfl⟩))
  all_goals
    go_wp2
    simp [bodyPost, results, Trym.results13, go_sem]
    exact below4 _ _ _ _ _

set_option maxHeartbeats 1600000 in
theorem zzLoad_any (d l c z y : Int) (m n : ByteArray) (w : World) :
    Calls Trym.prog 14 #[.agg #[.int .u8 d, .string m, .string n, .int .u16 l, .int .u16 c, .int .i64 z, .int .i64 y]] w fun e w' => e = .returned (.agg #[.int .u8 d, .string m, .string n, .int .u16 l, .int .u16 c, .int .i64 z, .int .i64 y]) ∧ Below w.heap.size w w' := by
  go_enter Trym.func14, Trym.ntmps14
  go_wp2
  go_region_held3 (fun w' => w'.cell? ⟨w.heap.size, 0, none⟩ = some (.int .u8 d) ∧ w'.cell? ⟨w.heap.size, 1, none⟩ = some (.string m) ∧ w'.cell? ⟨w.heap.size, 2, none⟩ = some (.string n) ∧ w'.cell? ⟨w.heap.size, 3, none⟩ = some (.int .u16 l) ∧ w'.cell? ⟨w.heap.size, 4, none⟩ = some (.int .u16 c) ∧ w'.cell? ⟨w.heap.size, 5, none⟩ = some (.int .i64 z) ∧ w'.cell? ⟨w.heap.size, 6, none⟩ = some (.int .i64 y)) (simp [go_sem, World.cell?_alloc_past])
    ((go_at_call 11; refine (zzCell_any d l c m n _).mono ?_; rintro e w' ⟨rfl, rfl⟩))
  all_goals
    go_wp2
    simp [bodyPost, results, Trym.results14, go_sem]
    exact below4 _ _ _ _ _

end Go.Proofs.Qxb6614682aMods
