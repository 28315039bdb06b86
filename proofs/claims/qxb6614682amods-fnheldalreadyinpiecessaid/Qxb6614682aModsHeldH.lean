import Derived.Test.Qxb6614682aModsHeldG
namespace Go.Proofs.Qxb6614682aMods
open Go.RowKit
set_option linter.unusedVariables false

theorem owns_form {w : World} {base : Nat} {e : TypeId} {size : Nat} {v : Value} {n : Nat} {xs : List Value} (h : w.ownsRow base e size v n xs) : ∃ a c, v = .slice a n c := by
  rcases h.2 with ⟨hv, hn⟩ | ⟨g, cap, _, hv, _⟩
  · exact ⟨none, 0, by rw [hn]; exact hv⟩
  · exact ⟨_, cap, hv⟩

/-- What 'heldAlready' gives. -/
def HeldOut (e : Ending) (w w' : World) (t m s c : Int) (p : Option Addr) (vb vl : Value) (Cs : List ZC) (Fs : List ZF) : Prop :=
  ∃ ac cc af cf, e = .returned (.agg #[.int .u8 t, .int .u16 m, .int .u16 s, .int .u8 c, .pointer p, .slice ac (Cs.length + (moved Fs).length) cc, .slice af (kept Fs).length cf, vb, vl]) ∧
    Sl w' (.slice ac (Cs.length + (moved Fs).length) cc) 5 ((Cs ++ moved Fs).map ZC.cells) ∧ w'.ownsRow w.heap.size 58 6 (.slice af (kept Fs).length cf) (kept Fs).length ((kept Fs).map ZF.cells).flatten ∧ Below w.heap.size w w'

theorem held_out (t m s c : Int) (p : Option Addr) (ac : Option Addr) (nc cc : Nat) (af : Option Addr) (nf cf : Nat) (ab : Option Addr) (nb cb : Nat) (al : Option Addr) (nl cl : Nat) (Cs : List ZC) (Fs : List ZF) (w : World)
    (hCs : Cs.length ≤ 200000) (hFs : Fs.length ≤ 200000) (hc : Sl w (.slice ac nc cc) 5 (Cs.map ZC.cells)) (hf : Sl w (.slice af nf cf) 6 (Fs.map ZF.cells)) :
    Calls Trym.prog 21 #[.agg #[.int .u8 t, .int .u16 m, .int .u16 s, .int .u8 c, .pointer p, .slice ac nc cc, .slice af nf cf, .slice ab nb cb, .slice al nl cl]] w fun e w' => HeldOut e w w' t m s c p (.slice ab nb cb) (.slice al nl cl) Cs Fs :=
  (held_any t m s c p ac nc cc af nf cf ab nb cb al nl cl Cs Fs w hCs hFs hc hf).mono fun e w' ⟨vc, vf, he, hs, ho, hb⟩ => by
    obtain ⟨a, c', rfl⟩ := hs.form
    obtain ⟨a', c'', rfl⟩ := owns_form ho
    rw [List.length_map, List.length_append] at he hs
    exact ⟨a, c', a', c'', he, hs, ho, hb⟩

set_option maxRecDepth 100000 in
set_option maxHeartbeats 1600000 in
theorem zheld_any (t m s c : Int) (p : Option Addr) (ac : Option Addr) (nc cc : Nat) (af : Option Addr) (nf cf : Nat) (ab : Option Addr) (nb cb : Nat) (al : Option Addr) (nl cl : Nat) (Cs : List ZC) (Fs : List ZF) (w : World)
    (hCs : Cs.length ≤ 200000) (hFs : Fs.length ≤ 200000) (hc : Sl w (.slice ac nc cc) 5 (Cs.map ZC.cells)) (hf : Sl w (.slice af nf cf) 6 (Fs.map ZF.cells)) :
    Calls Trym.prog 9 #[.agg #[.int .u8 t, .int .u16 m, .int .u16 s, .int .u8 c, .pointer p, .slice ac nc cc, .slice af nf cf, .slice ab nb cb, .slice al nl cl]] w fun e w' => HeldOut e w w' t m s c p (.slice ab nb cb) (.slice al nl cl) Cs Fs := by
  have ba : Below w.heap.size w ((w.alloc (.cells #[.int .u8 t, .int .u16 m, .int .u16 s, .int .u8 c, .pointer p, .slice ac nc cc, .slice af nf cf, .slice ab nb cb, .slice al nl cl] 39)).alloc (.cells #[.int .u8 0, .int .u16 0, .int .u16 0, .int .u8 0, .pointer none, .slice none 0 0, .slice none 0 0, .slice none 0 0, .slice none 0 0] 39)) := ((Below.refl _ _).alloc (Nat.le_refl _) _).alloc (by simp) _
  have HB : Hid (((w.alloc (.cells #[.int .u8 t, .int .u16 m, .int .u16 s, .int .u8 c, .pointer p, .slice ac nc cc, .slice af nf cf, .slice ab nb cb, .slice al nl cl] 39)).alloc (.cells #[.int .u8 0, .int .u16 0, .int .u16 0, .int .u8 0, .pointer none, .slice none 0 0, .slice none 0 0, .slice none 0 0, .slice none 0 0] 39)).heap[w.heap.size + 1]? = some (.cells zero9 39 (0, 0))) := by
    have := heap_alloc_new (w.alloc (.cells #[.int .u8 t, .int .u16 m, .int .u16 s, .int .u8 c, .pointer p, .slice ac nc cc, .slice af nf cf, .slice ab nb cb, .slice al nl cl] 39)) (.cells zero9 39)
    rw [World.size_alloc] at this
    exact this
  have hc' := hc.below ba (Nat.le_refl _)
  have hf' := hf.below ba (Nat.le_refl _)
  clear hc hf
  go_enter Trym.func9, Trym.ntmps9
  go_wp2_with fail
  refine (held_out t m s c p ac nc cc af nf cf ab nb cb al nl cl Cs Fs _ hCs hFs hc' hf').mono ?_
  rintro e w1 ⟨ac', cc', af', cf', rfl, C1, F1, b1⟩
  have B1 : Below w.heap.size w w1 := ba.trans (b1.mono (by simp; omega))
  have K1 := (b1.block (w.heap.size + 1) (by simp)).trans HB.out
  have HC : Hid (∀ wF : World, (∀ b, b ≠ w.heap.size + 1 → wF.heap[b]? = w1.heap[b]?) → Sl wF (.slice ac' (Cs.length + (moved Fs).length) cc') 5 ((Cs ++ moved Fs).map ZC.cells)) := fun wF hoth => C1.off K1 zero9_nostr (ZC.str _) hoth
  have HF : Hid (∀ wF : World, (∀ b, b ≠ w.heap.size + 1 → wF.heap[b]? = w1.heap[b]?) → wF.ownsRow w.heap.size 58 6 (.slice af' (kept Fs).length cf') (kept Fs).length ((kept Fs).map ZF.cells).flatten) := fun wF hoth => by
    refine ⟨F1.1, ?_⟩
    rcases F1.2 with h2 | ⟨g, cap, cur, hv, hg, hh, r⟩
    · exact .inl h2
    · simp at hg
      exact .inr ⟨g, cap, cur, hv, by omega, (hoth g (by omega)).trans hh, r⟩
  clear ba HB hc' hf' C1 F1 b1
  have k0 := blk_cell (j := 0) K1 rfl
  have k1 := blk_cell (j := 1) K1 rfl
  have k2 := blk_cell (j := 2) K1 rfl
  have k3 := blk_cell (j := 3) K1 rfl
  have k4 := blk_cell (j := 4) K1 rfl
  have k5 := blk_cell (j := 5) K1 rfl
  have k6 := blk_cell (j := 6) K1 rfl
  have k7 := blk_cell (j := 7) K1 rfl
  have k8 := blk_cell (j := 8) K1 rfl
  have ff : ∀ j, w1.frozen? ⟨w.heap.size + 1, j, none⟩ = false := fun j => blk_free K1
  clear K1
  go_wp2
  refine bodyPost_ret (v := .agg #[.int .u8 t, .int .u16 m, .int .u16 s, .int .u8 c, .pointer p, .slice ac' (Cs.length + (moved Fs).length) cc', .slice af' (kept Fs).length cf', .slice ab nb cb, .slice al nl cl]) (by simp [results, Trym.results9, go_sem, k0, k1, k2, k3, k4, k5, k6, k7, k8]) rfl ⟨ac', cc', af', cf', rfl, HC.out _ ?_, HF.out _ ?_, ?_⟩
  · intro b hb
    exact ((Below.heap_setCell _ _ _ _ hb).trans ((Below.heap_setCell _ _ _ _ hb).trans ((Below.heap_setCell _ _ _ _ hb).trans ((Below.heap_setCell _ _ _ _ hb).trans ((Below.heap_setCell _ _ _ _ hb).trans ((Below.heap_setCell _ _ _ _ hb).trans ((Below.heap_setCell _ _ _ _ hb).trans ((Below.heap_setCell _ _ _ _ hb).trans (Below.heap_setCell _ _ _ _ hb)))))))))
  · intro b hb
    exact ((Below.heap_setCell _ _ _ _ hb).trans ((Below.heap_setCell _ _ _ _ hb).trans ((Below.heap_setCell _ _ _ _ hb).trans ((Below.heap_setCell _ _ _ _ hb).trans ((Below.heap_setCell _ _ _ _ hb).trans ((Below.heap_setCell _ _ _ _ hb).trans ((Below.heap_setCell _ _ _ _ hb).trans ((Below.heap_setCell _ _ _ _ hb).trans (Below.heap_setCell _ _ _ _ hb)))))))))
  · exact (((((((((B1.setCell (by simp) _).setCell (by simp) _).setCell (by simp) _).setCell (by simp) _).setCell (by simp) _).setCell (by simp) _).setCell (by simp) _).setCell (by simp) _).setCell (by simp) _)
end Go.Proofs.Qxb6614682aMods
