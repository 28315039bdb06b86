import Derived.Test.Qxb6616257aModsInlB
namespace Go.Proofs.Qxb6616257aMods
open Go.RowKit
set_option linter.unusedVariables false

/-- A change in memory: its cid and its length. -/
structure Ch (w : World) (g : Nat) (c l : Int) (ds : List Value) : Prop where
  cid : w.rangeAt g 2 (.int .u8 c :: ds)
  len : w.cell? ⟨g, 35, none⟩ = some (.int .i64 l)
theorem rangeAt_below {w w' : World} {b o N : Nat} {cs : List Value} (h : w.rangeAt b o cs) (hb : Below N w w') (hN : w.heap.size ≤ N) : w'.rangeAt b o cs := fun j v hv => by
  have h1 := h j v hv
  have l := World.block_lt_of_cell? w _ h1
  simp only at l
  exact (hb.cell (by simp only; omega)).trans h1
theorem Ch.below {w w' : World} {g N : Nat} {c l : Int} {ds : List Value} (h : Ch w g c l ds) (hb : Below N w w') (hN : w.heap.size ≤ N) : Ch w' g c l ds :=
  ⟨rangeAt_below h.cid hb hN, (hb.cell (Nat.lt_of_lt_of_le (World.block_lt_of_cell? w _ h.len) hN)).trans h.len⟩

/-- A CID that is zero in its codec is zero in its digest. -/
def Cid (c : Int) (ds : List Value) : Prop := ds.length = 32 ∧ (c = 0 → ds = z8 32)
theorem Cid.eql {c : Int} {ds : List Value} (h : Cid c ds) (w : World) (x y : Operand) : (do eqGuard .eql 34 x y (.agg (Value.int .u8 c :: ds).toArray) (.agg (z8 33).toArray); binOp .eql 34 (.agg (Value.int .u8 c :: ds).toArray) (.agg (z8 33).toArray) : Sem Value).run Trym.prog w = .ok (.bool (c == 0)) w := by
  by_cases hc : c = 0
  · obtain rfl := h.2 hc
    subst hc
    exact eql_zero w x y
  · have hc' : (c == 0) = false := by simpa using hc
    rw [hc']
    exact eql_ne c ds hc' w x y

theorem build34z (w : World) : (Instr.build 34 #[]).run Trym.prog w = .ok (.agg (z8 33).toArray) w := by kernel_rfl

set_option maxHeartbeats 800000 in
theorem empties_any (g : Nat) (c l : Int) (ds : List Value) (w : World) (h : Ch w g c l ds) (hC : Cid c ds) :
    Calls Trym.prog 12 #[.pointer (some ⟨g, 0, none⟩)] w fun e w' => e = .returned (.bool (c == 0)) ∧ w' = w := by
  obtain ⟨ks, hks⟩ : ∃ ks, ks = Value.int .u8 c :: ds := ⟨_, rfl⟩
  have h1 := h.cid
  have H : Hid (∀ w x y, _) := fun w x y => hC.eql w x y
  have hl : ks.length = 33 := by rw [hks]; simp [hC.1]
  rw [← hks] at h1 H
  obtain ⟨zs, hzs⟩ : ∃ zs, zs = z8 33 := ⟨_, rfl⟩
  rw [← hzs] at H
  have HB : Hid (∀ w, (Instr.build 34 #[]).run Trym.prog w = .ok (.agg zs.toArray) w) := by rw [hzs]; exact build34z
  have HL : Hid (ks.length = 33) := hl
  clear hks hl hzs h
  go_enter Trym.func12, Trym.ntmps12
  go_wp2_with (first
    | ((with_reducible refine wpList_load_mid ?_ 34 (.tmp 5) ?_ g 2 ?_ ks _ ?_ Trym.underlying34 ?_ ?_ ?_); exact rfl; exact rfl; exact rfl; exact h1; exact rfl; exact (info34.trans (by rw [HL.out])))
    | ((with_reducible refine wpList_build ?_ 34 #[] ?_ #[] ?_ (.agg zs.toArray) HB.out ?_); exact rfl; exact rfl; (simp))
    | ((with_reducible refine wpList_eql ?_ 34 34 (.tmp 6) (.tmp 7) ?_ (.agg ks.toArray) (.agg zs.toArray) (.bool (c == 0)) ?_ ?_ ?_ ?_); exact rfl; exact rfl; (simp [Act.eval, Act.put]); (simp [Act.eval, Act.put]); exact fun w => H.out w _ _))
  go_ret
  exact ⟨rfl, rfl⟩

set_option maxHeartbeats 800000 in
theorem inline_any (g : Nat) (c l : Int) (ds : List Value) (w : World) (h : Ch w g c l ds) (hC : Cid c ds) :
    Calls Trym.prog 11 #[.pointer (some ⟨g, 0, none⟩)] w fun e w' => e = .returned (.bool (!(c == 0) && decide (l ≤ 1024))) ∧ w' = w := by
  have h2 := h.len
  by_cases hc : (c == 0) = true
  · go_enter Trym.func11, Trym.ntmps11
    go_wp2_with (go_at_call 12; refine (empties_any g c l ds _ h hC).mono ?_; rintro e w' ⟨rfl, hw⟩; obtain rfl := hw.symm; rw [hc])
    go_ret
    exact ⟨by rw [hc]; rfl, rfl⟩
  · have hc' : (c == 0) = false := by simpa using hc
    go_enter Trym.func11, Trym.ntmps11
    go_wp2_with (go_at_call 12; refine (empties_any g c l ds _ h hC).mono ?_; rintro e w' ⟨rfl, hw⟩; obtain rfl := hw.symm; rw [hc'])
    go_ret
    exact ⟨by rw [hc']; rfl, rfl⟩
end Go.Proofs.Qxb6616257aMods
