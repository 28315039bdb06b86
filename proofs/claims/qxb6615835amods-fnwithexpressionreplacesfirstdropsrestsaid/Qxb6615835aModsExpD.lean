import Derived.Test.Qxb6615835aModsExpC
namespace Go.Proofs.Qxb6615835aMods
open Go.RowKit
set_option linter.unusedVariables false

def BoolOut (e : Ending) : Prop := ∃ r, e = .returned (.bool r)
theorem BoolOut.mk (r : Bool) : BoolOut (.returned (.bool r)) := ⟨r, rfl⟩

def BytesOut (e : Ending) (n : Nat) (K : Nat → ByteArray) : Prop := ∃ r, e = .returned (.bool r) ∧ (r = true → ∀ j, j < n → (K j).size ≤ 1048576)
theorem BytesOut.no (n : Nat) (K : Nat → ByteArray) : BytesOut (.returned (.bool false)) n K := ⟨false, rfl, fun h => by cases h⟩
theorem BytesOut.yes {n : Nat} {K : Nat → ByteArray} (h : ∀ j, j < n → (K j).size ≤ 1048576) : BytesOut (.returned (.bool true)) n K := ⟨true, rfl, fun _ => h⟩

set_option maxHeartbeats 1600000 in
theorem bytes_any (ao : Option Addr) (n cap : Nat) (K : Nat → ByteArray) (key : ByteArray) (w : World) (hK : Keys w ao n K) :
    Calls Trym.prog 4 #[.slice ao n cap, .string key] w fun e w' => BytesOut e n K ∧ w' = w := by
  go_enter Trym.func4, Trym.ntmps4
  by_cases ta0 : (1048576 : Int) < (n : Int)
  · go_wp2
    go_ret
    exact ⟨BytesOut.no _ _, rfl⟩
  have tb0 : decide ((1048576 : Int) < (n : Int)) = false := decide_eq_false ta0
  go_wp2
  go_loop [5, 6] (fun t i => ∃ k : Nat, ∃ z : Int, k ≤ n ∧ i = .int .i64 k ∧ t = .int .i64 z ∧ 0 ≤ z ∧ z ≤ 1048576 ∧ Hid (∀ j, j < k → (K j).size ≤ 1048576)) (fun _ i => n - (intOf i).toNat)
  case atStart => exact ⟨0, (n : Int), Nat.zero_le _, rfl, rfl, by omega, by omega, fun j hj => by omega⟩
  case round =>
    obtain ⟨k, z, hk, rfl, rfl, hz0, hz1, HJ⟩ := hrel
    by_cases hlt : k < n
    · obtain ⟨b, off, rfl, hc⟩ := hK.at hlt
      have hi0 : (0 : Int) ≤ (k : Int) := Int.natCast_nonneg _
      have hi1 : (k : Int) < (n : Int) := by omega
      obtain ⟨s, hs⟩ : ∃ s, s = K k := ⟨_, rfl⟩
      rw [← hs] at hc
      have HSK : Hid (s = K k) := hs
      clear hs hK
      by_cases h1 : (1048576 : Int) < (s.size : Int)
      · go_wp2
        go_ret
        exact ⟨BytesOut.no _ _, rfl⟩
      have h1' : decide ((1048576 : Int) < (s.size : Int)) = false := decide_eq_false h1
      have e1 : IntKind.i64.wrap (z + (s.size : Int)) = z + (s.size : Int) := IntWalk.i64_in _ ⟨by omega, by omega⟩
      have e2 : wrap64 (z + (s.size : Int)) = z + (s.size : Int) := IntWalk.wrap64_in _ ⟨by omega, by omega⟩
      by_cases h2 : (1048576 : Int) < z + (s.size : Int)
      · go_wp2
        go_ret
        exact ⟨BytesOut.no _ _, rfl⟩
      have h2' : decide ((1048576 : Int) < z + (s.size : Int)) = false := decide_eq_false h2
      go_wp2
      clear e1 e2
      go_round
      case rel => exact ⟨k + 1, z + (s.size : Int), by omega, by go_num, rfl, by omega, by omega, fun j hj => by
        by_cases e : j = k
        · subst e; rw [← HSK.out]; omega
        · exact HJ.out j (by omega)⟩
      case measure => simp [intOf]; omega
    · have hkl : n = k := by omega
      subst hkl
      by_cases h1 : (1048576 : Int) < (key.size : Int)
      · go_wp2
        go_ret
        exact ⟨BytesOut.no _ _, rfl⟩
      have h1' : decide ((1048576 : Int) < (key.size : Int)) = false := decide_eq_false h1
      have e1 : IntKind.i64.wrap (z + (key.size : Int)) = z + (key.size : Int) := IntWalk.i64_in _ ⟨by omega, by omega⟩
      have e2 : wrap64 (z + (key.size : Int)) = z + (key.size : Int) := IntWalk.wrap64_in _ ⟨by omega, by omega⟩
      by_cases h2 : (1048576 : Int) < z + (key.size : Int)
      · go_wp2
        go_ret
        exact ⟨BytesOut.no _ _, rfl⟩
      have h2' : decide ((1048576 : Int) < z + (key.size : Int)) = false := decide_eq_false h2
      go_wp2
      go_ret
      exact ⟨BytesOut.yes HJ.out, rfl⟩

/-- What 'b1FirstIndex' gives. -/
def FirstOut (e : Ending) (n : Nat) (K : Nat → ByteArray) (key : ByteArray) : Prop :=
  (e = .returned (.int .i64 (-1)) ∧ ∀ j, j < n → ((K j).toList == key.toList) = false) ∨ ∃ p : Nat, e = .returned (.int .i64 p) ∧ p < n ∧ ((K p).toList == key.toList) = true ∧ ∀ j, j < p → ((K j).toList == key.toList) = false

set_option maxHeartbeats 1600000 in
theorem first_any (ao : Option Addr) (n cap : Nat) (K : Nat → ByteArray) (key : ByteArray) (w : World) (hn : n ≤ 65536) (hK : Keys w ao n K) :
    Calls Trym.prog 6 #[.slice ao n cap, .string key] w fun e w' => FirstOut e n K key ∧ w' = w := by
  go_enter Trym.func6, Trym.ntmps6
  go_wp2
  go_loop [5] (fun i => ∃ k : Nat, k ≤ n ∧ i = .int .i64 k ∧ Hid (∀ j, j < k → ((K j).toList == key.toList) = false)) (fun i => n - (intOf i).toNat)
  case atStart => exact ⟨0, Nat.zero_le _, rfl, fun j hj => by omega⟩
  case round =>
    obtain ⟨k, hk, rfl, HJ⟩ := hrel
    by_cases hlt : k < n
    · obtain ⟨b, off, rfl, hc⟩ := hK.at hlt
      have hi0 : (0 : Int) ≤ (k : Int) := Int.natCast_nonneg _
      have hi1 : (k : Int) < (n : Int) := by omega
      clear hK
      by_cases he : ((K k).toList == key.toList) = true
      · have HE : Hid (_ = _) := he
        go_wp2
        go_ret
        exact ⟨.inr ⟨k, rfl, hlt, HE.out, HJ.out⟩, rfl⟩
      · have he' : ((K k).toList == key.toList) = false := by simpa using he
        clear he
        go_wp2
        have HE : Hid (_ = _) := he'
        clear he'
        go_round
        case rel => exact ⟨k + 1, by omega, by go_num, fun j hj => by
          by_cases e : j = k
          · subst e; exact HE.out
          · exact HJ.out j (by omega)⟩
        case measure => simp [intOf]; omega
    · have hkl : n = k := by omega
      subst hkl
      go_wp2
      go_ret
      exact ⟨.inl ⟨rfl, HJ.out⟩, rfl⟩

/-! ### The plain law -/
theorem st_before {K : Nat → ByteArray} {key : ByteArray} : ∀ k, (∀ j, j < k → ((K j).toList == key.toList) = false) → (st K key k).2 = false
  | 0, _ => rfl
  | k + 1, h => by rw [st_ne (h k (by omega))]; exact st_before k fun j hj => h j (by omega)
theorem st_after {K : Nat → ByteArray} {key : ByteArray} {p : Nat} (h : (st K key p).2 = true) : ∀ d, (st K key (p + d)).2 = true
  | 0 => h
  | d + 1 => by
    have ih := st_after h d
    by_cases he : ((K (p + d)).toList == key.toList) = true
    · rw [← Nat.add_assoc, st_again he ih]; exact ih
    · rw [← Nat.add_assoc, st_ne (by simpa using he)]; exact ih
end Go.Proofs.Qxb6615835aMods
