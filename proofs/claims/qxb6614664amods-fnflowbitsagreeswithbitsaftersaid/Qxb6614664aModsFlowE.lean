import Derived.Test.Qxb6614664aModsFlowD
namespace Go.Proofs.Qxb6614664aMods
open Go.RowKit

theorem Rises.below {w w' : World} {b off len N : Nat} {R B : Nat → Int} (h : Rises w b off len R B) (hb : Below N w w') (hN : w.heap.size ≤ N) : Rises w' b off len R B := fun k hk => by
  have h0 := (h k hk).1
  have h1 := (h k hk).2
  have l := World.block_lt_of_cell? w _ h0
  simp only at l
  exact ⟨(hb.cell (by simp only; omega)).trans h0, (hb.cell (by simp only; omega)).trans h1⟩

/-- Behind each call: below the first heap's size nothing has turned. -/
theorem below_chain {a b c : World} (h : Below a.heap.size a b) (k : Below b.heap.size b c) : Below a.heap.size a c := h.trans (k.mono h.size)

set_option maxHeartbeats 400000 in
theorem law_long (ao : Option Addr) (len cap : Nat) (n : Int) (w : World) (h : 1048576 < len) :
    Calls Trym.prog 4 #[.slice ao len cap, .int .i64 n] w fun e w' => e = .returned (.bool true) ∧ Below w.heap.size w w' := by
  go_enter Trym.func4, Trym.ntmps4
  go_wp2_with (go_at_call 13; refine (zzBytes_no ao len cap n _ h).mono ?_; rintro e w' ⟨rfl, rfl⟩)
  go_ret
  exact ⟨rfl, Below.refl _ _⟩

set_option maxHeartbeats 400000 in
theorem law_mid (ao : Option Addr) (len cap : Nat) (n : Int) (w : World) (h : len ≤ 1048576) (h2 : 4096 < len) :
    Calls Trym.prog 4 #[.slice ao len cap, .int .i64 n] w fun e w' => e = .returned (.bool true) ∧ Below w.heap.size w w' := by
  go_enter Trym.func4, Trym.ntmps4
  go_wp2_with (go_at_call 13; refine (zzBytes_yes ao len cap n _ h).mono ?_; rintro e w' ⟨rfl, rfl⟩)
  go_ret
  exact ⟨rfl, Below.refl _ _⟩

set_option maxHeartbeats 400000 in
theorem law_neg (ao : Option Addr) (len cap : Nat) (n : Int) (w : World) (h2 : len ≤ 4096) (hn : n < 0) :
    Calls Trym.prog 4 #[.slice ao len cap, .int .i64 n] w fun e w' => e = .returned (.bool true) ∧ Below w.heap.size w w' := by
  go_enter Trym.func4, Trym.ntmps4
  go_wp2_with (go_at_call 13; refine (zzBytes_yes ao len cap n _ (by omega)).mono ?_; rintro e w' ⟨rfl, rfl⟩)
  go_ret
  exact ⟨rfl, Below.refl _ _⟩

set_option maxHeartbeats 400000 in
theorem law_far (ao : Option Addr) (len cap : Nat) (n : Int) (w : World) (h2 : len ≤ 4096) (hn : ¬ n < 0) (hf : (len : Int) < n) :
    Calls Trym.prog 4 #[.slice ao len cap, .int .i64 n] w fun e w' => e = .returned (.bool true) ∧ Below w.heap.size w w' := by
  go_enter Trym.func4, Trym.ntmps4
  go_wp2_with (go_at_call 13; refine (zzBytes_yes ao len cap n _ (by omega)).mono ?_; rintro e w' ⟨rfl, rfl⟩)
  go_ret
  exact ⟨rfl, Below.refl _ _⟩

theorem start_eq {B : Nat → Int} {len : Nat} (h : ∀ k, k < len → prevB B k < B k) {n : Nat} (hn : n ≤ len) : Value.bool (prevB B n == 256) = .bool (decide (n ≤ 0)) := by
  congr 1
  rw [Bool.eq_iff_iff, beq_iff_eq, base_iff h hn]
  simp

set_option maxHeartbeats 1600000 in
theorem law_in (ao : Option Addr) (b off len cap n : Nat) (R B : Nat → Int) (w : World) (h2 : len ≤ 4096) (hlc : len ≤ cap) (hcm : cap ≤ 9223372036854775807) (hn : n ≤ len) (hao : 0 < len → ao = some ⟨b, off, none⟩) (hc : Rises w b off len R B) :
    Calls Trym.prog 4 #[.slice ao len cap, .int .i64 n] w fun e w' => e = .returned (.bool true) ∧ Below w.heap.size w w' := by
  have hn0 : ¬ (n : Int) < 0 := by omega
  have hn1 : ¬ (len : Int) < n := by omega
  have hd1 : decide ((4096 : Int) < (len : Int)) = false := by simp; omega
  have hd2 : decide ((n : Int) < 0) = false := by simp
  go_enter Trym.func4, Trym.ntmps4
  go_wp2_with (first
    | (go_at_call 13; refine (zzBytes_yes ao len cap n _ (by omega)).mono ?_; rintro e w' ⟨rfl, rfl⟩)
    | (go_at_call 7; go_in))
  refine (reach_any ao b off len cap R B _ h2 hao hc).mono ?_
  rintro e w' ⟨⟨r, rfl, hr⟩, rfl⟩
  have HR : Hid (r = true → ∀ k, k < len → prevB B k < B k) := hr
  clear hr
  cases r with
  | false =>
    go_wp2
    go_ret
    exact ⟨rfl, Below.refl _ _⟩
  | true =>
    have HB : Hid (∀ k, k < len → prevB B k < B k) := HR.out rfl
    clear HR
    go_wp2_with fail
    have hcn : Rises w' b off n R B := fun k hk => hc k (by omega)
    refine (parts_any ao b off n cap R B _ (by omega) (fun h => hao (by omega)) hcn).mono ?_
    rintro e w1 ⟨rfl, p1, p2, bel1, -⟩
    have hc1 : Rises w1 b off len R B := hc.below bel1 (Nat.le_refl _)
    clear hc hcn
    go_wp2_with fail
    refine (parts_any ao b off len cap R B _ (by omega) hao hc1).mono ?_
    rintro e w2 ⟨rfl, q1, q2, bel2, -⟩
    have hc2 : Rises w2 b off len R B := hc1.below bel2 (Nat.le_refl _)
    have b2 := below_chain bel1 bel2
    have s1 := p1.of_block (bel2.block _ p1.lt)
    have s2 := p2.of_block (bel2.block _ p2.lt)
    clear hc1 bel1 bel2 p1 p2
    go_wp2_with fail
    refine (newFlow_any _ _ n R B _ (by omega) s1 s2).mono ?_
    rintro e w3 ⟨rfl, v3, F3⟩
    have hc3 : Rises w3 b off len R B := hc2.below F3.bel (Nat.le_refl _)
    have b3 := below_chain b2 F3.bel
    have t1 := q1.of_block (F3.bel.block _ q1.lt)
    have t2 := q2.of_block (F3.bel.block _ q2.lt)
    have J3 := F3.is
    clear hc2 b2 F3 s1 s2 q1 q2
    go_wp2_with fail
    refine (newFlow_any _ _ len R B _ (by omega) t1 t2).mono ?_
    rintro e w4 ⟨rfl, v4, F4⟩
    have hc4 : Rises w4 b off len R B := hc3.below F4.bel (Nat.le_refl _)
    have b4 := below_chain b3 F4.bel
    have I3 := J3.below F4.bel
    have I4 := F4.is
    clear hc3 b3 F4 J3 t1 t2
    go_wp2_with fail
    refine (zbits_any _ n B _ (by omega) I3).mono ?_
    rintro e w5 ⟨rfl, rfl⟩
    go_wp2_with fail
    refine (zafter_any _ len n B _ (by omega) hn I4).mono ?_
    rintro e w6 ⟨rfl, rfl⟩
    clear I3 I4
    go_wp2_with fail
    go_loop [14, 15, 16] (fun am ct i => ∃ k : Nat, k ≤ len ∧ i = .int .i64 k ∧ ct = .int .i64 ((min k n : Nat) : Int) ∧ am = .bool (decide (n ≤ k))) (fun _ _ i => len - (intOf i).toNat)
    case atStart => exact ⟨0, Nat.zero_le _, rfl, by simp, start_eq HB.out hn⟩
    case round =>
      obtain ⟨k, hk, rfl, rfl, rfl⟩ := hrel
      by_cases hlt : k < len
      · obtain rfl := hao (by omega)
        obtain ⟨c0, c1⟩ := hc4 k hlt
        have i1 := le_iff HB.out hn hlt
        have i2 := eq_iff HB.out hn hlt
        clear hao hc4
        rcases Nat.lt_trichotomy (k + 1) n with h3 | h3 | h3
        · have e1 : (B k == prevB B n) = false := by rw [beq_eq_false_iff_ne]; intro e; have := i2.1 e; omega
          have e2 : B k ≤ prevB B n := i1.2 (by omega)
          clear i1 i2
          go_wp2
          go_round
          case rel => exact ⟨k + 1, by omega, by go_num, by rw [Nat.min_eq_left (by omega), Nat.min_eq_left (by omega)]; go_num, by congr 1; simp; omega⟩
          case measure => simp [intOf]; omega
        · have e1 : (B k == prevB B n) = true := by rw [beq_iff_eq]; exact i2.2 h3
          have e2 : B k ≤ prevB B n := i1.2 (by omega)
          clear i1 i2
          go_wp2
          go_round
          case rel => exact ⟨k + 1, by omega, by go_num, by rw [Nat.min_eq_left (by omega), Nat.min_eq_left (by omega)]; go_num, by congr 1; simp; omega⟩
          case measure => simp [intOf]; omega
        · have e1 : (B k == prevB B n) = false := by rw [beq_eq_false_iff_ne]; intro e; have := i2.1 e; omega
          have e2 : ¬ B k ≤ prevB B n := fun h => by have := i1.1 h; omega
          clear i1 i2
          go_wp2
          go_round
          case rel => exact ⟨k + 1, by omega, by go_num, by rw [Nat.min_eq_right (by omega), Nat.min_eq_right (by omega)], by congr 1; simp; omega⟩
          case measure => simp [intOf]; omega
      · have hkl : k = len := by omega
        subst hkl
        clear hao hc4
        rw [Nat.min_eq_right hn, decide_eq_true hn]
        go_wp2
        go_ret
        exact ⟨rfl, b4⟩
end Go.Proofs.Qxb6614664aMods
