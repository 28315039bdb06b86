import Derived.Test.Qxb6614664aModsFlowC
namespace Go.Proofs.Qxb6614664aMods
open Go.RowKit

/-- What the reader of a flow wants: the field's slice, and each rise's bits. -/
structure FlowIs (w : World) (g len : Nat) (B : Nat → Int) : Prop where
  field : ∃ ao cap, w.cell? ⟨g, 19, none⟩ = some (.slice ao len cap)
  bits : ∀ k, k < len → ∃ gg cap, w.cell? ⟨g, 19, none⟩ = some (.slice (some ⟨gg, 0, none⟩) len cap) ∧ w.cell? ⟨gg, k * 2 + 1, none⟩ = some (.int .u64 (B k))

theorem FlowAt.is {w : World} {k : Nat} {R B : Nat → Int} {v : Value} {wr : World} (h : FlowAt w k R B v wr) : FlowIs wr w.heap.size k B := by
  refine ⟨?_, fun j hj => ?_⟩
  · rcases h.own.2 with ⟨e, hk⟩ | ⟨g, cap, _, e, _⟩
    · exact ⟨none, 0, by rw [h.cell, e, hk]⟩
    · exact ⟨_, cap, by rw [h.cell, e]⟩
  · obtain ⟨g, cap, e, _, _⟩ := h.own.form (by omega)
    refine ⟨g, cap, by rw [h.cell, e], ?_⟩
    have := h.own.cells (g := g) (by rw [e]; rfl) (j * 2 + 1) _ (ents_at R B k j hj)
    simpa [Addr.add] using this

theorem FlowIs.below {w w' : World} {g len : Nat} {B : Nat → Int} (h : FlowIs w g len B) (hb : Below w.heap.size w w') : FlowIs w' g len B := by
  obtain ⟨⟨ao, cap, h1⟩, h2⟩ := h
  have l1 := World.block_lt_of_cell? w _ h1
  refine ⟨⟨ao, cap, (hb.cell (by exact l1)).trans h1⟩, fun k hk => ?_⟩
  obtain ⟨gg, cap', e1, e2⟩ := h2 k hk
  exact ⟨gg, cap', (hb.cell (by exact l1)).trans e1, (hb.cell (by exact World.block_lt_of_cell? w _ e2)).trans e2⟩

set_option maxHeartbeats 400000 in
theorem after_zero (g : Nat) (w : World) : Calls Trym.prog 25 #[.pointer (some ⟨g, 0, none⟩), .int .i64 0] w fun e w' => e = .returned (.int .u64 256) ∧ w' = w := by
  go_enter Trym.func25, Trym.ntmps25
  go_wp2
  go_ret
  exact ⟨rfl, rfl⟩

set_option maxHeartbeats 400000 in
theorem after_succ (g len k : Nat) (B : Nat → Int) (w : World) (hm : len ≤ 4096) (hk : k < len) (h : FlowIs w g len B) :
    Calls Trym.prog 25 #[.pointer (some ⟨g, 0, none⟩), .int .i64 ((k : Int) + 1)] w fun e w' => e = .returned (.int .u64 (B k)) ∧ w' = w := by
  obtain ⟨gg, cap, h1, h2⟩ := h.bits k hk
  have h0 : (((k : Int) + 1) == 0) = false := by simp; omega
  clear h
  go_enter Trym.func25, Trym.ntmps25
  go_wp2
  go_ret
  exact ⟨rfl, rfl⟩

theorem after_any (g len n : Nat) (B : Nat → Int) (w : World) (hm : len ≤ 4096) (hn : n ≤ len) (h : FlowIs w g len B) :
    Calls Trym.prog 25 #[.pointer (some ⟨g, 0, none⟩), .int .i64 (n : Int)] w fun e w' => e = .returned (.int .u64 (prevB B n)) ∧ w' = w := by
  cases n with
  | zero => exact after_zero g w
  | succ k =>
    rw [show (((k + 1 : Nat)) : Int) = (k : Int) + 1 from by omega]
    exact after_succ g len k B w hm hn h

set_option maxHeartbeats 400000 in
theorem bits_any (g len : Nat) (B : Nat → Int) (w : World) (hm : len ≤ 4096) (h : FlowIs w g len B) :
    Calls Trym.prog 24 #[.pointer (some ⟨g, 0, none⟩)] w fun e w' => e = .returned (.int .u64 (prevB B len)) ∧ w' = w := by
  obtain ⟨ao, cap, h1⟩ := h.field
  go_enter Trym.func24, Trym.ntmps24
  go_wp2_with (go_at_call 25; refine (after_any g len len B _ hm (Nat.le_refl _) h).mono ?_; rintro e w' ⟨rfl, rfl⟩)
  go_ret
  exact ⟨rfl, rfl⟩

set_option maxHeartbeats 400000 in
theorem zbits_any (g len : Nat) (B : Nat → Int) (w : World) (hm : len ≤ 4096) (h : FlowIs w g len B) :
    Calls Trym.prog 11 #[.pointer (some ⟨g, 0, none⟩)] w fun e w' => e = .returned (.int .u64 (prevB B len)) ∧ w' = w := by
  go_enter Trym.func11, Trym.ntmps11
  go_wp2_with (go_at_call 24; refine (bits_any g len B _ hm h).mono ?_; rintro e w' ⟨rfl, rfl⟩)
  go_ret
  exact ⟨rfl, rfl⟩

set_option maxHeartbeats 400000 in
theorem zafter_any (g len n : Nat) (B : Nat → Int) (w : World) (hm : len ≤ 4096) (hn : n ≤ len) (h : FlowIs w g len B) :
    Calls Trym.prog 14 #[.pointer (some ⟨g, 0, none⟩), .int .i64 (n : Int)] w fun e w' => e = .returned (.int .u64 (prevB B n)) ∧ w' = w := by
  go_enter Trym.func14, Trym.ntmps14
  go_wp2_with (go_at_call 25; refine (after_any g len n B _ hm hn h).mono ?_; rintro e w' ⟨rfl, rfl⟩)
  go_ret
  exact ⟨rfl, rfl⟩

/-! ### The plain law -/
theorem prev_lt {B : Nat → Int} {len : Nat} (h : ∀ k, k < len → prevB B k < B k) : ∀ n, n ≤ len → ∀ k, k < n → B k ≤ prevB B n
  | 0, _, k, hk => by omega
  | n + 1, hn, k, hk => by
    by_cases e : k = n
    · subst e; exact Int.le_refl _
    · have h1 := prev_lt h n (by omega) k (by omega)
      have h2 := h n (by omega)
      show B k ≤ B n
      omega
theorem lt_prev {B : Nat → Int} {len : Nat} (h : ∀ k, k < len → prevB B k < B k) (n : Nat) : ∀ k, n ≤ k → k < len → prevB B n < B k
  | 0, h1, h2 => by obtain rfl : n = 0 := by omega
                    exact h 0 h2
  | k + 1, h1, h2 => by
    by_cases e : n = k + 1
    · subst e; exact h (k + 1) h2
    · have := lt_prev h n k (by omega) (by omega)
      have h3 := h (k + 1) h2
      have h4 : prevB B (k + 1) = B k := rfl
      omega
/-- A rise goes no higher than the n-th precision exactly if it is one of the first n. -/
theorem le_iff {B : Nat → Int} {len : Nat} (h : ∀ k, k < len → prevB B k < B k) {n k : Nat} (hn : n ≤ len) (hk : k < len) : B k ≤ prevB B n ↔ k < n := by
  constructor
  · intro h1
    rcases Nat.lt_or_ge k n with h2 | h2
    · exact h2
    · have := lt_prev h n k h2 hk
      omega
  · exact fun h1 => prev_lt h n hn k h1
/-- It IS the n-th precision exactly if it is the n-th rise. -/
theorem eq_iff {B : Nat → Int} {len : Nat} (h : ∀ k, k < len → prevB B k < B k) {n k : Nat} (hn : n ≤ len) (hk : k < len) : B k = prevB B n ↔ k + 1 = n := by
  constructor
  · intro h1
    have h2 := (le_iff h hn hk).1 (by omega)
    rcases Nat.lt_or_ge (k + 1) n with h3 | h3
    · have h4 := (le_iff h hn (show k + 1 < len by omega)).2 h3
      have h5 := h (k + 1) (by omega)
      have h6 : prevB B (k + 1) = B k := rfl
      omega
    · omega
  · rintro rfl; rfl
theorem base_iff {B : Nat → Int} {len : Nat} (h : ∀ k, k < len → prevB B k < B k) {n : Nat} (hn : n ≤ len) : prevB B n = 256 ↔ n = 0 := by
  cases n with
  | zero => exact ⟨fun _ => rfl, fun _ => rfl⟩
  | succ k =>
    have := lt_prev h 0 k (by omega) (by omega)
    have h6 : prevB B 0 = 256 := rfl
    have h7 : prevB B (k + 1) = B k := rfl
    constructor
    · intro h8; omega
    · intro h8; omega
end Go.Proofs.Qxb6614664aMods
