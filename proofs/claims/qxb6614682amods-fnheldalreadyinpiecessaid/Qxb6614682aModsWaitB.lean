import Derived.Test.Qxb6614682aModsWaitA
namespace Go.Proofs.Qxb6614682aMods
open Go.RowKit

theorem below_chain {a b c : World} (h : Below a.heap.size a b) (k : Below b.heap.size b c) : Below a.heap.size a c := h.trans (k.mono h.size)

set_option maxHeartbeats 1600000 in
theorem symm_walk (p0 q0 : Option Addr) (x y : Option Int) (w : World) (hp : At w p0 x) (hq : At w q0 y) :
    Calls Trym.prog 5 #[.pointer p0, .pointer q0] w fun e w' => e = .returned (.bool true) ∧ Below w.heap.size w w' := by
  go_enter Trym.func5, Trym.ntmps5
  go_wp2_with fail
  refine (serial_any p0 x _ hp).mono ?_
  rintro e w1 ⟨p, rfl, P1, B1⟩
  have p01 := hp.below B1 (Nat.le_refl _)
  have q01 := hq.below B1 (Nat.le_refl _)
  clear hp hq
  go_wp2_with fail
  refine (serial_any q0 y _ q01).mono ?_
  rintro e w2 ⟨q, rfl, Q2, b2⟩
  have P2 := P1.below b2 (Nat.le_refl _)
  have p02 := p01.below b2 (Nat.le_refl _)
  have q02 := q01.below b2 (Nat.le_refl _)
  have B2 := below_chain B1 b2
  clear P1 p01 q01 B1 b2
  go_wp2_with fail
  refine (serial_any p0 x _ p02).mono ?_
  rintro e w3 ⟨p2, rfl, PP3, b3⟩
  have P3 := P2.below b3 (Nat.le_refl _)
  have Q3 := Q2.below b3 (Nat.le_refl _)
  have q03 := q02.below b3 (Nat.le_refl _)
  have B3 := below_chain B2 b3
  clear P2 Q2 q02 p02 B2 b3
  go_wp2_with fail
  refine (serial_any q0 y _ q03).mono ?_
  rintro e w4 ⟨q2, rfl, QQ4, b4⟩
  have P4 := P3.below b4 (Nat.le_refl _)
  have Q4 := Q3.below b4 (Nat.le_refl _)
  have PP4 := PP3.below b4 (Nat.le_refl _)
  have B4 := below_chain B3 b4
  clear P3 Q3 PP3 q03 B3 b4
  go_wp2_with fail
  refine (zwaiter_any p q x y _ P4 Q4).mono ?_
  rintro e w5 ⟨rfl, b5⟩
  have P5 := P4.below b5 (Nat.le_refl _)
  have Q5 := Q4.below b5 (Nat.le_refl _)
  have PP5 := PP4.below b5 (Nat.le_refl _)
  have QQ5 := QQ4.below b5 (Nat.le_refl _)
  have B5 := below_chain B4 b5
  clear P4 Q4 PP4 QQ4 B4 b5
  go_wp2_with fail
  refine (zwaiter_any q2 p2 y x _ QQ5 PP5).mono ?_
  rintro e w6 ⟨rfl, b6⟩
  rw [ans_symm y x]
  have P6 := P5.below b6 (Nat.le_refl _)
  have Q6 := Q5.below b6 (Nat.le_refl _)
  have PP6 := PP5.below b6 (Nat.le_refl _)
  have QQ6 := QQ5.below b6 (Nat.le_refl _)
  have B6 := below_chain B5 b6
  clear P5 Q5 PP5 QQ5 B5 b6
  have hee : (ans x y == ans x y) = true := by simp
  go_wp2_with fail
  refine (zwaiter_any p p2 x x _ P6 PP6).mono ?_
  rintro e w7 ⟨rfl, b7⟩
  rw [ans_refl x]
  have P7 := P6.below b7 (Nat.le_refl _)
  have Q7 := Q6.below b7 (Nat.le_refl _)
  have QQ7 := QQ6.below b7 (Nat.le_refl _)
  have B7 := below_chain B6 b7
  clear P6 Q6 PP6 QQ6 B6 b7
  go_wp2_with fail
  refine (zwaiter_any q q2 y y _ Q7 QQ7).mono ?_
  rintro e w8 ⟨rfl, b8⟩
  rw [ans_refl y]
  have P8 := P7.below b8 (Nat.le_refl _)
  have Q8 := Q7.below b8 (Nat.le_refl _)
  have B8 := below_chain B7 b8
  clear P7 Q7 QQ7 B7 b8
  go_wp2_with fail
  refine (zwaiter_any none q none y _ (.inl ⟨rfl, rfl⟩) Q8).mono ?_
  rintro e w9 ⟨rfl, b9⟩
  rw [ans_left y]
  have P9 := P8.below b9 (Nat.le_refl _)
  have B9 := below_chain B8 b9
  clear P8 Q8 B8 b9
  go_wp2_with fail
  refine (zwaiter_any p none x none _ P9 (.inl ⟨rfl, rfl⟩)).mono ?_
  rintro e w10 ⟨rfl, b10⟩
  rw [ans_right x]
  have B10 := below_chain B9 b10
  clear P9 B9 b10
  go_wp2
  go_ret
  exact ⟨rfl, B10⟩
end Go.Proofs.Qxb6614682aMods
