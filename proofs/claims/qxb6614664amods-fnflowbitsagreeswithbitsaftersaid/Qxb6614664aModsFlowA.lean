import Derived.Test.Qxb6614664aModsRows
import Derived.WalkKit
import Derived.WalkSpells
import Derived.WalkLawsBesides
namespace Go.Proofs.Qxb6614664aMods
open Go.RowKit

/-- What the walk is told of a '[]Rise' that came in: element k's two cells. -/
def Rises (w : World) (b off len : Nat) (R B : Nat → Int) : Prop :=
  ∀ k, k < len → w.cell? ⟨b, off + k * 2, none⟩ = some (.int .i64 (R k)) ∧ w.cell? ⟨b, off + k * 2 + 1, none⟩ = some (.int .u64 (B k))

set_option maxHeartbeats 400000 in
theorem zzBytes_yes (ao : Option Addr) (len cap : Nat) (n : Int) (w : World) (h : len ≤ 1048576) :
    Calls Trym.prog 13 #[.slice ao len cap, .int .i64 n] w fun e w' => e = .returned (.bool true) ∧ w' = w := by
  go_enter Trym.func13, Trym.ntmps13
  go_wp2
  go_ret
  exact ⟨rfl, rfl⟩

set_option maxHeartbeats 400000 in
theorem zzBytes_no (ao : Option Addr) (len cap : Nat) (n : Int) (w : World) (h : 1048576 < len) :
    Calls Trym.prog 13 #[.slice ao len cap, .int .i64 n] w fun e w' => e = .returned (.bool false) ∧ w' = w := by
  go_enter Trym.func13, Trym.ntmps13
  go_wp2
  go_ret
  exact ⟨rfl, rfl⟩

def prevB (B : Nat → Int) : Nat → Int
  | 0 => 256
  | k + 1 => B k

/-- What 'risesReachable' answers: if it says yes, each rise goes above the one before. -/
def ReachOut (e : Ending) (len : Nat) (B : Nat → Int) : Prop := ∃ r, e = .returned (.bool r) ∧ (r = true → ∀ k, k < len → prevB B k < B k)
theorem ReachOut.no (len : Nat) (B : Nat → Int) : ReachOut (.returned (.bool false)) len B := ⟨false, rfl, fun h => by cases h⟩
theorem ReachOut.yes {len : Nat} {B : Nat → Int} (h : ∀ k, k < len → prevB B k < B k) : ReachOut (.returned (.bool true)) len B := ⟨true, rfl, fun _ => h⟩

set_option maxHeartbeats 400000 in
theorem reach_any (ao : Option Addr) (b off len cap : Nat) (R B : Nat → Int) (w : World) (hm : len ≤ 4096) (hao : 0 < len → ao = some ⟨b, off, none⟩) (hc : Rises w b off len R B) :
    Calls Trym.prog 8 #[.slice ao len cap, .int .u64 256] w fun e w' => ReachOut e len B ∧ w' = w := by
  go_enter Trym.func8, Trym.ntmps8
  go_wp2
  go_loop [5, 6, 7] (fun pb pin i => ∃ k : Nat, k ≤ len ∧ i = .int .i64 k ∧ pb = .int .u64 (prevB B k) ∧ (∃ z, pin = .int .i64 z) ∧ ∀ j, j < k → prevB B j < B j) (fun _ _ i => len - (intOf i).toNat)
  case atStart => exact ⟨0, Nat.zero_le _, rfl, rfl, ⟨0, rfl⟩, fun j hj => by omega⟩
  case round =>
    obtain ⟨k, hk, rfl, rfl, ⟨z, rfl⟩, hj⟩ := hrel
    by_cases hlt : k < len
    · obtain rfl := hao (by omega)
      obtain ⟨c0, c1⟩ := hc k hlt
      have Hj : Hid (∀ j, j < k → prevB B j < B j) := hj
      clear hj hc hao
      by_cases h1 : B k ≤ prevB B k
      · go_wp2
        go_ret
        exact ⟨ReachOut.no _ _, rfl⟩
      · have h1' : prevB B k < B k := by omega
        by_cases h2 : R k < z
        · go_wp2
          go_ret
          exact ⟨ReachOut.no _ _, rfl⟩
        · go_wp2
          go_round
          case rel => exact ⟨k + 1, by omega, by go_num, rfl, ⟨_, rfl⟩, fun j hj => by
            by_cases e : j = k
            · subst e; exact h1'
            · exact Hj.out j (by omega)⟩
          case measure => simp [intOf]; omega
    · have hkl : k = len := by omega
      subst hkl
      have Hj : Hid (∀ j, j < k → prevB B j < B j) := hj
      clear hj hc hao
      go_wp2
      go_ret
      exact ⟨ReachOut.yes Hj.out, rfl⟩

end Go.Proofs.Qxb6614664aMods
