import Derived.Test.Qxb6614682aModsPiecA
import Derived.Test.Qxb6614682aModsPiecB
import Derived.Test.Qxb6614682aModsPiecC
import Derived.Test.Qxb6614682aModsPiecD
namespace Go.Proofs.Qxb6614682aMods
open Go.RowKit
set_option linter.unusedVariables false

set_option maxRecDepth 100000 in
set_option maxHeartbeats 800000 in
theorem lawB_bytes (t m s c kk : Int) (p : Option Addr) (x : Option Int) (ac : Option Addr) (nc cc : Nat) (af : Option Addr) (nf cf : Nat) (ab : Option Addr) (nb cb : Nat) (al : Option Addr) (nl cl : Nat) (Cs : List ZC) (Fs : List ZF) (Bs : List ZB) (Ls : List ZL) (w : World)
    (hI : In w p x (.slice ac nc cc) (.slice af nf cf) (.slice ab nb cb) (.slice al nl cl) Cs Fs Bs Ls)
    (hbig : 65536 < nc ∨ 65536 < nf ∨ 65536 < nb ∨ 65536 < nl) :
    Calls Trym.prog 4 #[.int .u8 t, .int .u16 m, .int .u16 s, .int .u8 c, .pointer p, .slice ac nc cc, .slice af nf cf, .slice ab nb cb, .slice al nl cl, .int .i64 kk] w fun e w' => e = .returned (.bool true) ∧ Below w.heap.size w w' := by
  have hV := bytesB_any t m s c kk p ac nc cc af nf cf ab nb cb al nl cl Cs Fs Bs Ls w hI.c.view hI.f.view hI.b.view hI.l.view
  clear hI
  by_cases b1 : (65536 : Int) < nc
  · have B1 : decide ((65536 : Int) < nc) = true := decide_eq_true b1
    go_enter Trym.func4, Trym.ntmps4
    go_wp2_with fail
    refine hV.mono ?_
    rintro e w1 ⟨⟨r, rfl⟩, hw⟩
    obtain rfl := hw.symm
    cases r <;> (go_wp2; go_ret; exact ⟨rfl, Below.refl _ _⟩)
  have B1 : decide ((65536 : Int) < nc) = false := decide_eq_false b1
  by_cases b2 : (65536 : Int) < nf
  · have B2 : decide ((65536 : Int) < nf) = true := decide_eq_true b2
    go_enter Trym.func4, Trym.ntmps4
    go_wp2_with fail
    refine hV.mono ?_
    rintro e w1 ⟨⟨r, rfl⟩, hw⟩
    obtain rfl := hw.symm
    cases r <;> (go_wp2; go_ret; exact ⟨rfl, Below.refl _ _⟩)
  have B2 : decide ((65536 : Int) < nf) = false := decide_eq_false b2
  by_cases b3 : (65536 : Int) < nb
  · have B3 : decide ((65536 : Int) < nb) = true := decide_eq_true b3
    go_enter Trym.func4, Trym.ntmps4
    go_wp2_with fail
    refine hV.mono ?_
    rintro e w1 ⟨⟨r, rfl⟩, hw⟩
    obtain rfl := hw.symm
    cases r <;> (go_wp2; go_ret; exact ⟨rfl, Below.refl _ _⟩)
  have B3 : decide ((65536 : Int) < nb) = false := decide_eq_false b3
  have b4 : (65536 : Int) < nl := by omega
  have B4 : decide ((65536 : Int) < nl) = true := decide_eq_true b4
  go_enter Trym.func4, Trym.ntmps4
  go_wp2_with fail
  refine hV.mono ?_
  rintro e w1 ⟨⟨r, rfl⟩, hw⟩
  obtain rfl := hw.symm
  cases r <;> (go_wp2; go_ret; exact ⟨rfl, Below.refl _ _⟩)

theorem count_app (A B : List ZF) : moved (A ++ B) = moved A ++ moved B := by simp [moved]
theorem keep_app (A B : List ZF) : kept (A ++ B) = kept A ++ kept B := by simp [kept]
theorem moved_kept (A : List ZF) : moved (kept A) = [] := by
  unfold moved kept
  rw [List.filter_filter]
  simp
theorem kept_kept (A : List ZF) : kept (kept A) = kept A := by
  unfold kept
  rw [List.filter_filter]
  simp
theorem count_len (A : List ZF) : (moved A).length + (kept A).length = A.length := by
  induction A with
  | nil => rfl
  | cons f A ih =>
    by_cases h : (f.z == 13) = true
    · simp only [moved, kept, List.filter_cons, h, if_true, Bool.not_true, Bool.false_eq_true, if_false, List.map_cons, List.length_cons] at ih ⊢
      omega
    · have h' : (f.z == 13) = false := by simpa using h
      simp only [moved, kept, List.filter_cons, h', if_true, Bool.not_false, Bool.false_eq_true, if_false, List.length_cons] at ih ⊢
      omega

/-- Held again behind the append: the same lists. -/
theorem again_out {e : Ending} {w w' : World} {t m s c : Int} {p : Option Addr} {vb vl : Value} {Cs : List ZC} {Hs Gs : List ZF} (h : HeldOut e w w' t m s c p vb vl (Cs ++ moved Hs) (kept Hs ++ Gs)) : HeldOut e w w' t m s c p vb vl Cs (Hs ++ Gs) := by
  unfold HeldOut at h ⊢
  have e1 : (Cs ++ moved Hs) ++ moved (kept Hs ++ Gs) = Cs ++ moved (Hs ++ Gs) := by rw [count_app, moved_kept, count_app]; simp
  have e2 : kept (kept Hs ++ Gs) = kept (Hs ++ Gs) := by rw [keep_app, kept_kept, keep_app]
  have e3 : (Cs ++ moved Hs).length + (moved (kept Hs ++ Gs)).length = Cs.length + (moved (Hs ++ Gs)).length := by
    have := congrArg List.length e1
    simp only [List.length_append] at this ⊢
    omega
  rw [e1, e2, e3] at h
  exact h

theorem stage8 {w5 w6 w8 : World} {Z : Array Value} {v : Value} {n : Nat} {xs : List Value} (b6 : Below w5.heap.size w5 w6) (F6 : w6.ownsRow w5.heap.size 58 6 v n xs)
    (b8 : Below (w6.alloc (.cells Z 39)).drew.heap.size (w6.alloc (.cells Z 39)).drew w8) :
    w8.heap[w6.heap.size]? = some (.cells Z 39 (0, 0)) ∧ w8.ownsRow w5.heap.size 58 6 v n xs ∧ w5.heap.size ≤ w8.heap.size := by
  have h1 := (b8.block w6.heap.size (by simp)).trans (show (w6.alloc (.cells Z 39)).drew.heap[w6.heap.size]? = some (.cells Z 39 (0, 0)) from heap_alloc_new w6 _)
  have b7 : Below w6.heap.size w6 (w6.alloc (.cells Z 39)).drew := ((Below.refl _ _).alloc (Nat.le_refl _) _).drew
  refine ⟨h1, owns_below (owns_below F6 b7 (Nat.le_refl _)) b8 (Nat.le_refl _), ?_⟩
  have := b6.size
  have := b7.size
  have := b8.size
  omega

theorem stage9 {w5 w6 w8 w9 : World} {Z : Array Value} {v vc : Value} {n m : Nat} {ao : Option Addr} {cap : Nat} {xs news : List Value} {L : List (List Value)} (b6 : Below w5.heap.size w5 w6) (F6 : w6.ownsRow w5.heap.size 58 6 v n xs)
    (C6 : SlR w6 vc 5 L v.ownBlock) (hL : ∀ x ∈ L, x.length = 5) (b8 : Below (w6.alloc (.cells Z 39)).drew.heap.size (w6.alloc (.cells Z 39)).drew w8)
    (hown : w9.ownsRow w5.heap.size 58 6 (.slice ao (n + m) cap) (n + m) (xs ++ news)) (hgrow : w8.grownBy w9 v.ownBlock) :
    w9.heap[w6.heap.size]? = some (.cells Z 39 (0, 0)) ∧ ∀ u, Below w5.heap.size w5 (w9.setCell ⟨w6.heap.size, 6, none⟩ u) ∧ Sl (w9.setCell ⟨w6.heap.size, 6, none⟩ u) vc 5 L ∧
      (w9.setCell ⟨w6.heap.size, 6, none⟩ u).ownsRow w5.heap.size 58 6 (.slice ao (n + m) cap) (n + m) (xs ++ news) := by
  obtain ⟨k8, F8, s8⟩ := stage8 b6 F6 b8
  have b7 : Below w6.heap.size w6 (w6.alloc (.cells Z 39)).drew := ((Below.refl _ _).alloc (Nat.le_refl _) _).drew
  have b68 : Below w6.heap.size w6 w8 := b7.trans (b8.mono b7.size)
  have rowlt : ∀ k, v.ownBlock = some k → w5.heap.size ≤ k ∧ k < w6.heap.size := fun k hk => F6.lt k hk
  have hM8 : w6.heap.size < w8.heap.size := (Array.getElem?_eq_some_iff.1 k8).1
  have k9 : w9.heap[w6.heap.size]? = some (.cells Z 39 (0, 0)) := (hgrow.block _ hM8 (fun e => by have := rowlt _ e.symm; omega)).trans k8
  have c8 := C6.below b68 (Nat.le_refl _)
  have blk : ∀ u b, b ≠ w6.heap.size → (w9.setCell ⟨w6.heap.size, 6, none⟩ u).heap[b]? = w9.heap[b]? := fun u b hb => Below.heap_setCell _ _ _ _ hb
  refine ⟨k9, fun u => ⟨?_, ?_, ?_⟩⟩
  · have := ((b6.trans (b68.mono b6.size)).grown hgrow (by omega) (fun k hk => (rowlt k hk).1))
    exact this.setCell b6.size _
  · obtain ⟨ao, cap, b, off, h1, h2, h3, h4, h5, h6, h7⟩ := C6
    refine ⟨ao, cap, b, off, h1, h2, h3, h4, h5, fun i cs hi => ?_⟩
    have hpos : 0 < L.length := by have := (List.getElem?_eq_some_iff.1 hi).1; omega
    have hlt := range_lt (h6 i cs hi) (hL cs (List.mem_of_getElem? hi)) (by omega)
    have r8 := rangeAt_below (h6 i cs hi) b68 (Nat.le_refl _)
    have r9 := rangeAt_block r8 (hgrow.block b (by omega) (h7 hpos))
    exact rangeAt_block r9 (blk u b (by omega))
  · refine ⟨hown.1, ?_⟩
    rcases hown.2 with h2 | ⟨g, cap', cur, hv, hg, hh, r⟩
    · exact .inl h2
    · refine .inr ⟨g, cap', cur, hv, hg, (blk u g ?_).trans hh, r⟩
      rintro rfl
      rw [k9] at hh
      cases hh
end Go.Proofs.Qxb6614682aMods
