import Derived.Test.Qxb6614682aModsWaitB
namespace Go.Proofs.Qxb6614682aMods
open Go.RowKit

/-- How many of the first k versions match, and the last that did. -/
def cnt (v : Int) (k : Nat) : Int := if v < k then 1 else 0
def fnd (v : Int) (k : Nat) : Int := if v < k then v else -1

set_option maxHeartbeats 1600000 in
theorem one_none (w : World) :
    Calls Trym.prog 6 #[.pointer none] w fun e w' => e = .returned (.bool true) ∧ Below w.heap.size w w' := by
  go_enter Trym.func6, Trym.ntmps6
  go_wp2_with (go_at_call 18; refine (serial_none _).mono ?_; rintro e w' ⟨rfl, hw⟩; obtain rfl := hw.symm)
  go_loopw [4, 5, 6] (fun ct fd i wr => ∃ k : Nat, k ≤ 65536 ∧ i = .int .i64 k ∧ ct = .int .i64 k ∧ (∃ z, fd = .int .i64 z) ∧ Below w.heap.size w wr) (fun _ _ i _ => 65536 - (intOf i).toNat)
  case atStart => exact ⟨0, Nat.zero_le _, rfl, rfl, ⟨_, rfl⟩, Below.refl _ _⟩
  case round =>
    obtain ⟨k, hk, rfl, rfl, ⟨z, rfl⟩, hb⟩ := hrel
    have hsz := hb.size
    by_cases hlt : k < 65536
    · have hlt' : (k : Int) < 65536 := by omega
      go_wp2_with fail
      refine (zwaiter_any (some ⟨wr.heap.size, 0, none⟩) none (some k) none _ (.inr ⟨_, _, _, rfl, rfl, by simp⟩) (.inl ⟨rfl, rfl⟩)).mono ?_
      rintro e w1 ⟨rfl, hb1⟩
      rw [ans_right]
      have hb2 : Below w.heap.size w w1 := (hb.alloc hsz _).trans (hb1.mono (by simp; omega))
      clear hb hb1
      go_wp2
      go_roundw
      case rel => exact ⟨k + 1, by omega, by go_num, by go_num, ⟨_, rfl⟩, hb2⟩
      case measure => simp [intOf]; omega
    · obtain rfl : k = 65536 := by omega
      go_wp2_with fail
      refine (zwaiter_any none none none none _ (.inl ⟨rfl, rfl⟩) (.inl ⟨rfl, rfl⟩)).mono ?_
      rintro e w1 ⟨rfl, hb1⟩
      rw [ans_right]
      have hb2 : Below w.heap.size w w1 := hb.trans (hb1.mono hsz)
      clear hb hb1
      go_wp2
      go_ret
      exact ⟨rfl, hb2⟩

theorem ans_some (a b : Int) : ans (some a) (some b) = (a == b) := rfl

set_option maxHeartbeats 1600000 in
theorem one_some (b o : Nat) (v : Int) (w : World) (h0 : 0 ≤ v) (h1 : v < 65536) (hc : w.cell? ⟨b, o, none⟩ = some (.int .u16 v)) :
    Calls Trym.prog 6 #[.pointer (some ⟨b, o, none⟩)] w fun e w' => e = .returned (.bool true) ∧ Below w.heap.size w w' := by
  have lb := World.block_lt_of_cell? w _ hc
  simp only at lb
  go_enter Trym.func6, Trym.ntmps6
  go_wp2_with fail
  refine (serial_any (some ⟨b, o, none⟩) (some v) w (.inr ⟨b, o, v, rfl, rfl, hc⟩)).mono ?_
  rintro e w0 ⟨q, rfl, Q0, B0⟩
  go_wp2_with fail
  go_loopw [4, 5, 6] (fun ct fd i wr => ∃ k : Nat, k ≤ 65536 ∧ i = .int .i64 k ∧ ct = .int .i64 (cnt v k) ∧ fd = .int .i64 (fnd v k) ∧ At wr q (some v) ∧ Below w.heap.size w wr) (fun _ _ i _ => 65536 - (intOf i).toNat)
  case atStart => exact ⟨0, Nat.zero_le _, rfl, by rw [cnt, if_neg (by omega)], by rw [fnd, if_neg (by omega)], Q0, B0⟩
  case round =>
    clear Q0 B0
    obtain ⟨k, hk, rfl, rfl, rfl, Q, hb⟩ := hrel
    have hsz := hb.size
    by_cases hlt : k < 65536
    · have hlt' : (k : Int) < 65536 := by omega
      have ba : Below wr.heap.size wr (wr.alloc (.cells #[.int .u16 k] 31)) := (Below.refl _ _).alloc (Nat.le_refl _) _
      have Q' := Q.below ba (Nat.le_refl _)
      have cc : 0 ≤ cnt v k ∧ cnt v k ≤ 1 := by unfold cnt; split <;> omega
      obtain ⟨cc0, cc1⟩ := cc
      go_wp2_with fail
      refine (zwaiter_any (some ⟨wr.heap.size, 0, none⟩) q (some k) (some v) _ (.inr ⟨_, _, _, rfl, rfl, by simp⟩) Q').mono ?_
      rintro e w1 ⟨rfl, hb1⟩
      have Q1 := Q'.below hb1 (Nat.le_refl _)
      have hb2 : Below w.heap.size w w1 := (hb.alloc hsz _).trans (hb1.mono (by simp; omega))
      clear hb hb1 Q Q' ba
      by_cases hv : (k : Int) = v
      · rw [show ans (some (k : Int)) (some v) = true from by rw [ans_some, beq_iff_eq]; exact hv]
        have HV : Hid ((k : Int) = v) := hv
        clear hv
        go_wp2
        go_roundw
        case rel => 
          have hv := HV.out
          exact ⟨k + 1, by omega, by go_num, by unfold cnt; rw [if_neg (by omega), if_pos (by omega)]; rfl, by unfold fnd; rw [if_pos (by omega), hv], Q1, hb2⟩
        case measure => simp [intOf]; omega
      · rw [show ans (some (k : Int)) (some v) = false from by rw [ans_some, beq_eq_false_iff_ne]; exact hv]
        have HV : Hid (¬ (k : Int) = v) := hv
        clear hv
        go_wp2
        go_roundw
        case rel => 
          have hv := HV.out
          refine ⟨k + 1, by omega, by go_num, ?_, ?_, Q1, hb2⟩
          · unfold cnt; by_cases hh : v < k
            · rw [if_pos hh, if_pos (by omega)]
            · rw [if_neg hh, if_neg (by omega)]
          · unfold fnd; by_cases hh : v < k
            · rw [if_pos hh, if_pos (by omega)]
            · rw [if_neg hh, if_neg (by omega)]
        case measure => simp [intOf]; omega
    · obtain rfl : k = 65536 := by omega
      rw [show cnt v 65536 = 1 from if_pos (by omega), show fnd v 65536 = v from if_pos (by omega)]
      go_wp2_with fail
      refine (zwaiter_any none q none (some v) _ (.inl ⟨rfl, rfl⟩) Q).mono ?_
      rintro e w1 ⟨rfl, hb1⟩
      rw [ans_left]
      have hb2 : Below w.heap.size w w1 := hb.trans (hb1.mono hsz)
      have hcz : w1.cell? ⟨b, o, none⟩ = some (.int .u16 v) := (hb2.cell (by exact lb)).trans hc
      clear hb hb1 Q hc
      go_wp2
      go_ret
      exact ⟨rfl, hb2⟩

theorem one_walk (p : Option Addr) (x : Option Int) (w : World) (hx : ∀ v, x = some v → 0 ≤ v ∧ v < 65536) (hp : At w p x) :
    Calls Trym.prog 6 #[.pointer p] w fun e w' => e = .returned (.bool true) ∧ Below w.heap.size w w' := by
  rcases hp with ⟨rfl, rfl⟩ | ⟨b, o, v, rfl, rfl, hc⟩
  · exact one_none w
  · exact one_some b o v w (hx v rfl).1 (hx v rfl).2 hc
end Go.Proofs.Qxb6614682aMods
