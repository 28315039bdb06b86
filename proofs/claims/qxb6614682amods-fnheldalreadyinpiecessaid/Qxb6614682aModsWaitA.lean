import Derived.Test.Qxb6614682aModsRows
import Derived.WalkKit
import Derived.WalkSpells
import Derived.WalkLawsBesides
import Derived.Deep.QuietTactic
import Derived.BigQuiet
namespace Go.Proofs.Qxb6614682aMods
open Go.RowKit

/-- A version that is named, or none: where the pointer leads. -/
def At (w : World) (p : Option Addr) (x : Option Int) : Prop :=
  (x = none ∧ p = none) ∨ ∃ b o v, x = some v ∧ p = some ⟨b, o, none⟩ ∧ w.cell? ⟨b, o, none⟩ = some (.int .u16 v)

theorem At.below {w w' : World} {p : Option Addr} {x : Option Int} {N : Nat} (h : At w p x) (hb : Below N w w') (hN : w.heap.size ≤ N) : At w' p x := by
  rcases h with h | ⟨b, o, v, hx, hp, hc⟩
  · exact .inl h
  · have l := World.block_lt_of_cell? w _ hc
    simp only at l
    exact .inr ⟨b, o, v, hx, hp, (hb.cell (by simp only; omega)).trans hc⟩

/-- What the matching answers. -/
def ans : Option Int → Option Int → Bool
  | none, _ => true
  | some _, none => true
  | some a, some b => a == b

theorem makeChan1 (w : World) : (Instr.makeChan 86 (.int .i64 1)).run Trym.prog w = .ok (.chan (some w.heap.size)) (w.alloc (.chan 1 #[] false 0 0 false)) := by kernel_rfl

set_option maxHeartbeats 400000 in
theorem serial_none (w : World) : Calls Trym.prog 18 #[.pointer none] w fun e w' => e = .returned (.pointer none) ∧ w' = w := by
  go_enter Trym.func18, Trym.ntmps18
  go_wp2
  go_ret
  exact ⟨rfl, rfl⟩

set_option maxHeartbeats 400000 in
theorem serial_some (b o : Nat) (v : Int) (w : World) (hc : w.cell? ⟨b, o, none⟩ = some (.int .u16 v)) : Calls Trym.prog 18 #[.pointer (some ⟨b, o, none⟩)] w fun e w' => e = .returned (.pointer (some ⟨w.heap.size, 0, none⟩)) ∧ w' = w.alloc (.cells #[.int .u16 v] 31) := by
  have hne := World.block_lt_of_cell? w _ hc
  go_enter Trym.func18, Trym.ntmps18
  go_wp2
  go_ret
  exact ⟨rfl, rfl⟩

theorem serial_any (p : Option Addr) (x : Option Int) (w : World) (h : At w p x) : Calls Trym.prog 18 #[.pointer p] w fun e w' => ∃ q, e = .returned (.pointer q) ∧ At w' q x ∧ Below w.heap.size w w' := by
  rcases h with ⟨rfl, rfl⟩ | ⟨b, o, v, rfl, rfl, hc⟩
  · exact (serial_none w).mono fun e w' ⟨he, hw⟩ => ⟨none, he, .inl ⟨rfl, rfl⟩, hw ▸ Below.refl _ _⟩
  · exact (serial_some b o v w hc).mono fun e w' ⟨he, hw⟩ => ⟨_, he, .inr ⟨_, _, v, rfl, rfl, by rw [hw]; simp⟩, by rw [hw]; exact (Below.refl _ _).alloc (Nat.le_refl _) _⟩

set_option maxHeartbeats 400000 in
theorem answers_none (c : Option Nat) (q : Option Addr) (w : World) : Calls Trym.prog 25 #[.agg #[.chan c, .pointer none], .pointer q] w fun e w' => e = .returned (.bool true) ∧ Below w.heap.size w w' := by
  go_enter Trym.func25, Trym.ntmps25
  go_wp2
  go_quiet (fail)
  go_wp2
  go_ret
  exact ⟨rfl, by first | exact below_drewN ((Below.refl _ _).alloc (Nat.le_refl _) _) _ | exact ((Below.refl _ _).alloc (Nat.le_refl _) _)⟩

set_option maxHeartbeats 400000 in
theorem answers_half (c : Option Nat) (a : Addr) (w : World) : Calls Trym.prog 25 #[.agg #[.chan c, .pointer (some a)], .pointer none] w fun e w' => e = .returned (.bool true) ∧ Below w.heap.size w w' := by
  go_enter Trym.func25, Trym.ntmps25
  go_wp2
  go_quiet (fail)
  go_wp2
  go_ret
  exact ⟨rfl, below_drewN ((Below.refl _ _).alloc (Nat.le_refl _) _) _⟩

set_option maxHeartbeats 800000 in
theorem answers_both (c : Option Nat) (b o b' o' : Nat) (x y : Int) (w : World) (hx : w.cell? ⟨b, o, none⟩ = some (.int .u16 x)) (hy : w.cell? ⟨b', o', none⟩ = some (.int .u16 y)) :
    Calls Trym.prog 25 #[.agg #[.chan c, .pointer (some ⟨b, o, none⟩)], .pointer (some ⟨b', o', none⟩)] w fun e w' => e = .returned (.bool (x == y)) ∧ Below w.heap.size w w' := by
  have l1 := World.block_lt_of_cell? w _ hx
  have l2 := World.block_lt_of_cell? w _ hy
  simp only at l1 l2
  have hx' : ∀ o1, (w.alloc o1).cell? ⟨b, o, none⟩ = some (.int .u16 x) := fun o1 => (World.cell?_alloc_lt _ _ _ l1).trans hx
  have hy' : ∀ o1, (w.alloc o1).cell? ⟨b', o', none⟩ = some (.int .u16 y) := fun o1 => (World.cell?_alloc_lt _ _ _ l2).trans hy
  go_enter Trym.func25, Trym.ntmps25
  go_wp2
  go_quiet (fail)
  go_wp2
  go_ret
  exact ⟨rfl, below_drewN ((Below.refl _ _).alloc (Nat.le_refl _) _) _⟩

theorem answers_any (c : Option Nat) (p q : Option Addr) (x y : Option Int) (w : World) (hp : At w p x) (hq : At w q y) :
    Calls Trym.prog 25 #[.agg #[.chan c, .pointer p], .pointer q] w fun e w' => e = .returned (.bool (ans x y)) ∧ Below w.heap.size w w' := by
  rcases hp with ⟨rfl, rfl⟩ | ⟨b, o, v, rfl, rfl, hc⟩
  · exact answers_none c q w
  · rcases hq with ⟨rfl, rfl⟩ | ⟨b', o', v', rfl, rfl, hc'⟩
    · exact answers_half c _ w
    · exact answers_both c b o b' o' v v' w hc hc'

set_option maxHeartbeats 800000 in
theorem zwaiter_any (p q : Option Addr) (x y : Option Int) (w : World) (hp : At w p x) (hq : At w q y) :
    Calls Trym.prog 19 #[.pointer p, .pointer q] w fun e w' => e = .returned (.bool (ans x y)) ∧ Below w.heap.size w w' := by
  have hmc := makeChan1
  have hb : Below w.heap.size w (w.alloc (.chan 1 #[] false 0 0 false)) := (Below.refl _ _).alloc (Nat.le_refl _) _
  have hp' := hp.below hb (Nat.le_refl _)
  have hq' := hq.below hb (Nat.le_refl _)
  go_enter Trym.func19, Trym.ntmps19
  go_wp2_with fail
  refine (answers_any _ p q x y _ hp' hq').mono ?_
  rintro e w1 ⟨rfl, hb1⟩
  go_wp2
  go_ret
  exact ⟨rfl, hb.trans (hb1.mono (by simp))⟩

/-! ### The plain law -/
theorem ans_symm (x y : Option Int) : ans x y = ans y x := by
  cases x with
  | none => cases y <;> rfl
  | some a =>
    cases y with
    | none => rfl
    | some b => show (a == b) = (b == a); rw [Bool.eq_iff_iff, beq_iff_eq, beq_iff_eq]; exact eq_comm
theorem ans_refl (x : Option Int) : ans x x = true := by
  cases x <;> simp [ans]
theorem ans_left (x : Option Int) : ans none x = true := rfl
theorem ans_right (x : Option Int) : ans x none = true := by
  cases x <;> rfl
end Go.Proofs.Qxb6614682aMods
