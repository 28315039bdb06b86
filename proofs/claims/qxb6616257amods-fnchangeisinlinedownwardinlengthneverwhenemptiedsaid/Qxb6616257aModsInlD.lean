import Derived.Test.Qxb6616257aModsInlC
namespace Go.Proofs.Qxb6616257aMods
open Go.RowKit
set_option linter.unusedVariables false

set_option maxHeartbeats 400000 in
theorem zinline_any (g : Nat) (c l : Int) (ds : List Value) (w : World) (h : Ch w g c l ds) (hC : Cid c ds) :
    Calls Trym.prog 8 #[.pointer (some ⟨g, 0, none⟩)] w fun e w' => e = .returned (.bool (!(c == 0) && decide (l ≤ 1024))) ∧ w' = w := by
  obtain ⟨r, hr⟩ : ∃ r, r = (!(c == 0) && decide (l ≤ 1024)) := ⟨_, rfl⟩
  have H := inline_any g c l ds w h hC
  rw [← hr] at H ⊢
  clear hr
  go_enter Trym.func8, Trym.ntmps8
  go_wp2_with fail
  refine H.mono ?_
  rintro e w' ⟨rfl, hw⟩
  obtain rfl := hw.symm
  go_wp2
  go_ret
  exact ⟨rfl, rfl⟩

set_option maxHeartbeats 400000 in
theorem zempties_any (g : Nat) (c l : Int) (ds : List Value) (w : World) (h : Ch w g c l ds) (hC : Cid c ds) :
    Calls Trym.prog 9 #[.pointer (some ⟨g, 0, none⟩)] w fun e w' => e = .returned (.bool (c == 0)) ∧ w' = w := by
  obtain ⟨r, hr⟩ : ∃ r, r = (c == 0) := ⟨_, rfl⟩
  have H := empties_any g c l ds w h hC
  rw [← hr] at H ⊢
  clear hr
  go_enter Trym.func9, Trym.ntmps9
  go_wp2_with fail
  refine H.mono ?_
  rintro e w' ⟨rfl, hw⟩
  obtain rfl := hw.symm
  go_wp2
  go_ret
  exact ⟨rfl, rfl⟩

def ints8 (Ds : List Int) : List Value := Ds.map (Value.int .u8)
def ZeroOut (e : Ending) (Ds : List Int) : Prop := ∃ r, e = .returned (.bool r) ∧ (r = true → ints8 Ds = z8 32)
theorem ZeroOut.no (Ds : List Int) : ZeroOut (.returned (.bool false)) Ds := ⟨false, rfl, fun h => by cases h⟩
theorem ZeroOut.yes {Ds : List Int} (hl : Ds.length = 32) (h : ∀ k, k < 32 → Ds[k]?.getD 0 = 0) : ZeroOut (.returned (.bool true)) Ds := ⟨true, rfl, fun _ => by
  unfold ints8 z8
  apply List.ext_getElem?
  intro i
  by_cases hi : i < 32
  · have := h i hi
    rw [List.getElem?_eq_getElem (by omega)] at this
    simp at this
    rw [List.getElem?_map, List.getElem?_eq_getElem (by omega), List.getElem?_replicate, if_pos hi]
    simp [this]
  · rw [List.getElem?_eq_none (by simp; omega), List.getElem?_eq_none (by simp; omega)]⟩

set_option maxHeartbeats 800000 in
theorem digest_any (Ds : List Int) (hl : Ds.length = 32) (w : World) :
    Calls Trym.prog 6 #[.agg (ints8 Ds).toArray] w fun e w' => ZeroOut e Ds ∧ Below w.heap.size w w' := by
  have HC : Hid (∀ k, k < 32 → (w.alloc (.cells (ints8 Ds).toArray 22)).cell? ⟨w.heap.size, k, none⟩ = some (.int .u8 (Ds[k]?.getD 0))) := fun k hk => blk_cell (heap_alloc_new w _) (by
    simp [ints8]
    rw [List.getElem?_eq_getElem (by omega)]
    simp)
  have HL : Hid (Ds.length = 32) := hl
  clear hl
  go_enter Trym.func6, Trym.ntmps6
  go_wp2
  go_loop [3] (fun i => ∃ k : Nat, k ≤ 32 ∧ i = .int .i64 k ∧ Hid (∀ j, j < k → Ds[j]?.getD 0 = 0)) (fun i => 32 - (intOf i).toNat)
  case atStart => exact ⟨0, Nat.zero_le _, rfl, fun j hj => by omega⟩
  case round =>
    obtain ⟨k, hk, rfl, HJ⟩ := hrel
    by_cases hlt : k < 32
    · have hc := HC.out k hlt
      obtain ⟨d, hd⟩ : ∃ d, d = Ds[k]?.getD 0 := ⟨_, rfl⟩
      rw [← hd] at hc
      have HD : Hid (d = Ds[k]?.getD 0) := hd
      clear hd
      by_cases h0 : (d != 0) = true
      · go_wp2
        go_ret
        exact ⟨ZeroOut.no _, (Below.refl _ _).alloc (Nat.le_refl _) _⟩
      · have h0' : (d != 0) = false := by simpa using h0
        have hz : d = 0 := by simpa using h0
        have HZ : Hid (d = 0) := hz
        clear hz h0
        go_wp2
        go_round
        case rel => exact ⟨k + 1, by omega, by go_num, fun j hj => by
          by_cases e : j = k
          · subst e; rw [← HD.out]; exact HZ.out
          · exact HJ.out j (by omega)⟩
        case measure => simp [intOf]; omega
    · obtain rfl : k = 32 := by omega
      go_wp2
      go_ret
      exact ⟨ZeroOut.yes HL.out HJ.out, (Below.refl _ _).alloc (Nat.le_refl _) _⟩
end Go.Proofs.Qxb6616257aMods
