import Derived.Test.Qxb6614682aModsHeldH
namespace Go.Proofs.Qxb6614682aMods
open Go.RowKit
set_option linter.unusedVariables false

/-- A slice in memory that lies in another block than 'row'. -/
def SlR (w : World) (v : Value) (size : Nat) (L : List (List Value)) (row : Option Nat) : Prop :=
  ∃ ao cap b off, v = .slice ao L.length cap ∧ (0 < L.length → ao = some ⟨b, off, none⟩) ∧ (ao = none → cap = 0) ∧ L.length ≤ cap ∧ cap ≤ 9223372036854775807 ∧ (∀ i cs, L[i]? = some cs → w.rangeAt b (off + i * size) cs) ∧ (0 < L.length → some b ≠ row)
theorem SlR.sl {w : World} {v : Value} {size : Nat} {L : List (List Value)} {row : Option Nat} (h : SlR w v size L row) : Sl w v size L := by
  obtain ⟨ao, cap, b, off, h1, h2, h3, h4, h5, h6, _⟩ := h
  exact ⟨ao, cap, b, off, h1, h2, h3, h4, h5, h6⟩
theorem SlR.off {w wF : World} {v : Value} {size N : Nat} {L : List (List Value)} {row : Option Nat} {Z : Array Value} {t : TypeId} {fr : Nat × Nat} (h : SlR w v size L row) (hblk : w.heap[N]? = some (.cells Z t fr)) (hz : ∀ (j : Nat) s, Z[j]? ≠ some (.string s)) (hL : ∀ cs ∈ L, ∃ s, cs[1]? = some (.string s)) (hoth : ∀ b, b ≠ N → wF.heap[b]? = w.heap[b]?) : SlR wF v size L row := by
  obtain ⟨ao, cap, b, off, h1, h2, h3, h4, h5, h6, h7⟩ := h
  refine ⟨ao, cap, b, off, h1, h2, h3, h4, h5, fun i cs hi => ?_, h7⟩
  refine rangeAt_block (h6 i cs hi) (hoth b ?_)
  rintro rfl
  obtain ⟨s, hs⟩ := hL cs (List.mem_of_getElem? hi)
  have hc := h6 i cs hi 1 _ hs
  rw [cell_of_row w b _ Z t fr hblk] at hc
  exact hz _ _ hc
/-- .. and behind an append to that row. -/
theorem SlR.grown {w w1 : World} {v : Value} {size : Nat} {L : List (List Value)} {row : Option Nat} (h : SlR w v size L row) (hall : ∀ x ∈ L, x.length = size) (hs : 0 < size) (hg : w.grownBy w1 row) : Sl w1 v size L := by
  obtain ⟨ao, cap, b, off, h1, h2, h3, h4, h5, h6, h7⟩ := h
  refine ⟨ao, cap, b, off, h1, h2, h3, h4, h5, fun i cs hi => ?_⟩
  have hpos : 0 < L.length := by have := (List.getElem?_eq_some_iff.1 hi).1; omega
  exact rangeAt_block (h6 i cs hi) (hg.block b (range_lt (h6 i cs hi) (hall cs (List.mem_of_getElem? hi)) hs) (h7 hpos))
theorem SlR.below {w w' : World} {v : Value} {size N : Nat} {L : List (List Value)} {row : Option Nat} (h : SlR w v size L row) (hb : Below N w w') (hN : w.heap.size ≤ N) : SlR w' v size L row := by
  obtain ⟨ao, cap, b, off, hv, hao, hno, hl, hc, hr, h7⟩ := h
  exact ⟨ao, cap, b, off, hv, hao, hno, hl, hc, fun i cs hi => rangeAt_below (hr i cs hi) hb hN, h7⟩
theorem HeldAt.finish2 {w : World} {t m s c p vf vb vl : Value} {Cs : List ZC} {Gs : List ZF} {vc vk : Value} {wr wF : World} (h : HeldAt w t m s c p vf vb vl Cs Gs vc vk wr)
    (hoth : ∀ b, b ≠ w.heap.size → b ≠ w.heap.size + 1 → wF.heap[b]? = wr.heap[b]?) (hb : Below w.heap.size wr wF) :
    SlR wF vc 5 ((Cs ++ moved Gs).map ZC.cells) vk.ownBlock ∧ wF.ownsRow w.heap.size 58 6 vk (kept Gs).length ((kept Gs).map ZF.cells).flatten ∧ Below w.heap.size w wF := by
  obtain ⟨k1, k2, k3⟩ := h.finish hoth hb
  refine ⟨?_, k2, k3⟩
  obtain ⟨ao, cap, b, off, h1, h2, h3, h4, h5, h6, h7⟩ := h.cs
  refine ⟨ao, cap, b, off, h1, h2, h3, h4, h5, fun i cs hi => ?_, fun hp => (h7 hp).1⟩
  have hp : 0 < ((Cs ++ moved Gs).map ZC.cells).length := by have := (List.getElem?_eq_some_iff.1 hi).1; omega
  have := (h7 hp).2
  exact rangeAt_block (h6 i cs hi) (hoth b (by omega) (by omega))


set_option maxRecDepth 100000 in
set_option maxHeartbeats 3200000 in
theorem held_any2 (t m s c : Int) (p : Option Addr) (ac : Option Addr) (nc cc : Nat) (af : Option Addr) (nf cf : Nat) (ab : Option Addr) (nb cb : Nat) (al : Option Addr) (nl cl : Nat) (Cs : List ZC) (Fs : List ZF) (w : World)
    (hCs : Cs.length ≤ 200000) (hFs : Fs.length ≤ 200000) (hc : Sl w (.slice ac nc cc) 5 (Cs.map ZC.cells)) (hf : Sl w (.slice af nf cf) 6 (Fs.map ZF.cells)) :
    Calls Trym.prog 21 #[.agg #[.int .u8 t, .int .u16 m, .int .u16 s, .int .u8 c, .pointer p, .slice ac nc cc, .slice af nf cf, .slice ab nb cb, .slice al nl cl]] w fun e w' => ∃ vc vf,
      e = .returned (.agg #[.int .u8 t, .int .u16 m, .int .u16 s, .int .u8 c, .pointer p, vc, vf, .slice ab nb cb, .slice al nl cl]) ∧ SlR w' vc 5 ((Cs ++ moved Fs).map ZC.cells) vf.ownBlock ∧
      w'.ownsRow w.heap.size 58 6 vf (kept Fs).length ((kept Fs).map ZF.cells).flatten ∧ Below w.heap.size w w' := by
  obtain ⟨af', cf', bF, oF, hvF, haF, hnF, hlF, hmF, hrF⟩ := hf
  rw [List.length_map] at hvF haF hlF
  simp only [Value.slice.injEq] at hvF
  obtain ⟨rfl, hnf, rfl⟩ := hvF
  have HN : Hid (nf = Fs.length) := hnf
  have hn2 : nf ≤ 200000 := by omega
  have hst := HeldAt.start (t := .int .u8 t) (m := .int .u16 m) (s := .int .u16 s) (c := .int .u8 c) (p := .pointer p) (vf := .slice af nf cf) (vb := .slice ab nb cb) (vl := .slice al nl cl) hc
  obtain ⟨i50, hi50, hz50, hs50, hy50⟩ := info_parts Trym.info50
  obtain ⟨i58, hi58, hz58, hs58, hy58⟩ := info_parts Trym.info58
  clear hnf hc
  go_enter Trym.func21, Trym.ntmps21
  go_wp2
  go_loopw [3, 9] (fun vk i wr => ∃ k : Nat, ∃ ac' nc' cc' ak nk ck, k ≤ nf ∧ i = .int .i64 k ∧ vk = .slice ak nk ck ∧ HeldAt w (.int .u8 t) (.int .u16 m) (.int .u16 s) (.int .u8 c) (.pointer p) (.slice af nf cf) (.slice ab nb cb) (.slice al nl cl) Cs (Fs.take k) (.slice ac' nc' cc') (.slice ak nk ck) wr) (fun _ i _ => nf - (intOf i).toNat)
  case atStart => exact ⟨0, _, _, _, _, _, _, Nat.zero_le _, rfl, rfl, by simpa using hst⟩
  case round =>
    clear hst
    obtain ⟨k, ac', nc', cc', ak, nk, ck, hk, rfl, rfl, hH⟩ := hrel
    have hsz := hH.size
    by_cases hlt : k < nf
    · obtain rfl := haF (by have := HN.out; omega)
      obtain ⟨f, hf⟩ : ∃ f, Fs[k]? = some f := ⟨_, List.getElem?_eq_getElem (by have := HN.out; omega)⟩
      have hxc : (Fs.map ZF.cells)[k]? = some f.cells := by rw [List.getElem?_map, hf]; rfl
      obtain ⟨p0, p1, p2, p3, p4, p5⟩ := range6 (rangeAt_below (hrF k _ hxc) hH.bel (Nat.le_refl _))
      have HT : Hid (Fs.take (k + 1) = Fs.take k ++ [f]) := take_snoc hf
      clear hrF hxc hf haF
      by_cases h13 : (f.z == 13) = true
      · obtain ⟨ao, cap, b, off, r1, r2, r3, r4, r5, r6, r7⟩ := hH.cs
        rw [List.length_map] at r1 r2 r4 r7
        simp only [Value.slice.injEq] at r1
        obtain ⟨rfl, rn, rfl⟩ := r1
        have hmk := moved_le (Fs.take k)
        have htk : (Fs.take k).length ≤ k := List.length_take_le _ _
        have hncb : nc' ≤ 400000 := by rw [rn, List.length_append]; omega
        have HR : Hid (nc' = (Cs ++ moved (Fs.take k)).length) := rn
        have hnone : ac' = none → nc' = 0 ∧ nc' = 0 := fun h => by have := r3 h; omega
        have HLO : Hid (((Cs ++ moved (Fs.take k)).map ZC.cells).flatten.length = nc' * 5) := by
          show _ = _
          rw [length_flatten _ (ZC.len _), List.length_map, rn]
        have HO : Hid (∀ o1 o2 a, ac' = some a → ∀ j u, ((Cs ++ moved (Fs.take k)).map ZC.cells).flatten[j]? = some u → ((wr.alloc o1).alloc o2).drew.cell? (a.add j) = some u) := fun o1 o2 =>
          olds_of (n := 0) (cap := 0) (b := b) (off := off) (ZC.len _) (fun h => r2 (by simpa using h)) (fun i cs hi => World.rangeAt_alloc (World.rangeAt_alloc (r6 i cs hi) o1) o2)
        have HW : Hid (∀ o1 o2, ((wr.alloc o1).alloc o2).heap[wr.heap.size + 1]? = some o2) := fun o1 o2 => by have := heap_alloc_new (wr.alloc o1) o2; simpa using this
        have hcc : nc' ≤ cc' := by omega
        have hN : w.heap.size < wr.heap.size := by omega
        have c5 : wr.cell? ⟨w.heap.size, 5, none⟩ = some (.slice ac' nc' cc') := blk_cell hH.b0 rfl
        have f5 : wr.frozen? ⟨w.heap.size, 5, none⟩ = false := blk_free hH.b0
        have d1 : ∀ o, (wr.alloc o).cell? ⟨w.heap.size, 5, none⟩ = some (.slice ac' nc' cc') := fun o => (World.cell?_alloc_lt _ _ _ (by exact hN)).trans c5
        have d2 : ∀ o o', ((wr.alloc o).alloc o').cell? ⟨w.heap.size, 5, none⟩ = some (.slice ac' nc' cc') := fun o o' => (World.cell?_alloc_lt _ _ _ (by simp; omega)).trans (d1 o)
        have e1 : ∀ o, (wr.alloc o).frozen? ⟨w.heap.size, 5, none⟩ = false := fun o => (World.frozen?_alloc_old _ _ _ (by simp; omega)).trans f5
        have e2 : ∀ o o', ((wr.alloc o).alloc o').frozen? ⟨w.heap.size, 5, none⟩ = false := fun o o' => (World.frozen?_alloc_old _ _ _ (by simp; omega)).trans (e1 o)
        clear rn r2 r4 r6 r7 hmk htk
        go_wp2_with fail
        clear p0 p1 p2 p3 p4 p5
        go_region_law (first | (refine step_call (by rfl) 26 (.tmp 17) _ (by rfl) (.slice ac' nc' cc') (.slice ac' nc' nc') (by rfl) (enter26 _ _) (clip_any ac' nc' cc' _ r3 hcc r5) ?_) | (refine step_append_new (by rfl) (.tmp 18) (.tmp 21) 34 (by rfl) 50 i50 _ 5 56 Trym.underlying34 hi50 hz50 hs50 hy50 rfl (by omega) ac' nc' nc' (((Cs ++ moved (Fs.take k)).map ZC.cells).flatten) (by rfl) hnone HLO.out (HO.out _ _) ⟨wr.heap.size + 1, 0, none⟩ 1 f.x.cells (by rfl) (by rfl) (World.news_of_block (cs := f.x.cells.toArray) (t := 50) (fr := (0, 0)) (HW.out _ _)) f.x.one (by omega) (by unfold maxLen; omega) (by omega) ?_; intro g cap w1 hown hgrow; have q1 : w1.cell? ⟨w.heap.size, 5, none⟩ = some (.slice ac' nc' cc') := (hgrow.cell_far _ (by simp; omega) (by simp)).trans (d2 _ _); have q2 : w1.frozen? ⟨w.heap.size, 5, none⟩ = false := (hgrow.frozen_far _ (by simp; omega) (by simp)).trans (e2 _ _)))
        all_goals
          have hM := HeldAt.move' hH h13 HR.out hown hgrow
          clear hH c5 f5 d1 d2 e1 e2 q1 q2 hown hgrow HO HW HLO HR hnone r3 r5
          go_wp2
          go_roundw
          case rel => exact ⟨k + 1, _, _, _, _, _, _, by omega, by go_num, rfl, by rw [HT.out]; exact hM⟩
          case measure => simp [intOf]; omega
      · have h13' : (f.z == 13) = false := by simpa using h13
        clear h13
        have hkk := kept_le (Fs.take k)
        have htk : (Fs.take k).length ≤ k := List.length_take_le _ _
        have hkb : (kept (Fs.take k)).length ≤ 200000 := by omega
        have HW : Hid (∀ o1 o2, ((wr.alloc o1).alloc o2).heap[wr.heap.size + 1]? = some o2) := fun o1 o2 => by have := heap_alloc_new (wr.alloc o1) o2; simpa using this
        clear hkk htk
        go_wp2_with (at_builtin; refine wpList_append_lies _ rfl (.tmp 24) (.tmp 26) 35 rfl (w.heap.size + 2) 58 i58 _ 6 64 Trym.underlying35 hi58 hz58 hs58 hy58 rfl (by omega) (.slice ak nk ck) (kept (Fs.take k)).length (((kept (Fs.take k)).map ZF.cells).flatten) rfl ((hH.own.alloc _).alloc _) ⟨wr.heap.size + 1, 0, none⟩ 1 1 f.cells rfl rfl (World.news_of_block (cs := f.cells.toArray) (t := 58) (fr := (0, 0)) (HW.out _ _)) f.one (by omega) (by unfold maxLen; omega) (by omega) (by simp; omega) (wr.heap.size + 2) (by simp) ?_)
        intro g cap w1 hown hgrow hat hlt1
        have hM := HeldAt.keep hH h13' rfl hown hgrow hat
        clear hH hown hgrow HW
        go_wp2
        go_roundw
        case rel => exact ⟨k + 1, _, _, _, _, _, _, by omega, by go_num, rfl, by rw [HT.out]; exact hM⟩
        case measure => simp [intOf]; omega
    · have hkl : k = nf := by omega
      subst hkl
      clear haF hrF
      have hT : Fs.take k = Fs := List.take_of_length_le (by have := HN.out; omega)
      rw [hT] at hH
      clear hT
      have g0 := blk_cell (j := 0) hH.b0 rfl
      have g1 := blk_cell (j := 1) hH.b0 rfl
      have g2 := blk_cell (j := 2) hH.b0 rfl
      have g3 := blk_cell (j := 3) hH.b0 rfl
      have g4 := blk_cell (j := 4) hH.b0 rfl
      have g5 := blk_cell (j := 5) hH.b0 rfl
      have g6 := blk_cell (j := 6) hH.b0 rfl
      have g7 := blk_cell (j := 7) hH.b0 rfl
      have g8 := blk_cell (j := 8) hH.b0 rfl
      have fz := blk_free (j := 6) hH.b0
      have k0 := blk_cell (j := 0) hH.b1 rfl
      have k1 := blk_cell (j := 1) hH.b1 rfl
      have k2 := blk_cell (j := 2) hH.b1 rfl
      have k3 := blk_cell (j := 3) hH.b1 rfl
      have k4 := blk_cell (j := 4) hH.b1 rfl
      have k5 := blk_cell (j := 5) hH.b1 rfl
      have k6 := blk_cell (j := 6) hH.b1 rfl
      have k7 := blk_cell (j := 7) hH.b1 rfl
      have k8 := blk_cell (j := 8) hH.b1 rfl
      have ff : ∀ j, wr.frozen? ⟨w.heap.size + 1, j, none⟩ = false := fun j => blk_free hH.b1
      go_wp2
      refine bodyPost_ret (v := .agg #[.int .u8 t, .int .u16 m, .int .u16 s, .int .u8 c, .pointer p, .slice ac' nc' cc', .slice ak nk ck, .slice ab nb cb, .slice al nl cl]) (by simp [results, Trym.results21, go_sem, k0, k1, k2, k3, k4, k5, k6, k7, k8]) rfl ⟨_, _, rfl, HeldAt.finish2 hH ?_ ?_⟩
      · intro b h1 h2
        exact ((Below.heap_setCell _ _ _ _ h2).trans ((Below.heap_setCell _ _ _ _ h2).trans ((Below.heap_setCell _ _ _ _ h2).trans ((Below.heap_setCell _ _ _ _ h2).trans ((Below.heap_setCell _ _ _ _ h2).trans ((Below.heap_setCell _ _ _ _ h2).trans ((Below.heap_setCell _ _ _ _ h2).trans ((Below.heap_setCell _ _ _ _ h2).trans ((Below.heap_setCell _ _ _ _ h2).trans (Below.heap_setCell _ _ _ _ h1))))))))))
      · exact ((((((((((Below.refl _ wr).setCell (by simp) _).setCell (by simp) _).setCell (by simp) _).setCell (by simp) _).setCell (by simp) _).setCell (by simp) _).setCell (by simp) _).setCell (by simp) _).setCell (by simp) _).setCell (by simp) _
/-- What 'heldAlready' gives. -/
def HeldOut2 (e : Ending) (w w' : World) (t m s c : Int) (p : Option Addr) (vb vl : Value) (Cs : List ZC) (Fs : List ZF) : Prop :=
  ∃ ac cc af cf, e = .returned (.agg #[.int .u8 t, .int .u16 m, .int .u16 s, .int .u8 c, .pointer p, .slice ac (Cs.length + (moved Fs).length) cc, .slice af (kept Fs).length cf, vb, vl]) ∧
    SlR w' (.slice ac (Cs.length + (moved Fs).length) cc) 5 ((Cs ++ moved Fs).map ZC.cells) (Value.ownBlock (.slice af (kept Fs).length cf)) ∧ w'.ownsRow w.heap.size 58 6 (.slice af (kept Fs).length cf) (kept Fs).length ((kept Fs).map ZF.cells).flatten ∧ Below w.heap.size w w'

theorem held_out2 (t m s c : Int) (p : Option Addr) (ac : Option Addr) (nc cc : Nat) (af : Option Addr) (nf cf : Nat) (ab : Option Addr) (nb cb : Nat) (al : Option Addr) (nl cl : Nat) (Cs : List ZC) (Fs : List ZF) (w : World)
    (hCs : Cs.length ≤ 200000) (hFs : Fs.length ≤ 200000) (hc : Sl w (.slice ac nc cc) 5 (Cs.map ZC.cells)) (hf : Sl w (.slice af nf cf) 6 (Fs.map ZF.cells)) :
    Calls Trym.prog 21 #[.agg #[.int .u8 t, .int .u16 m, .int .u16 s, .int .u8 c, .pointer p, .slice ac nc cc, .slice af nf cf, .slice ab nb cb, .slice al nl cl]] w fun e w' => HeldOut2 e w w' t m s c p (.slice ab nb cb) (.slice al nl cl) Cs Fs :=
  (held_any2 t m s c p ac nc cc af nf cf ab nb cb al nl cl Cs Fs w hCs hFs hc hf).mono fun e w' ⟨vc, vf, he, hs, ho, hb⟩ => by
    obtain ⟨a, c', rfl⟩ := hs.sl.form
    obtain ⟨a', c'', rfl⟩ := owns_form ho
    rw [List.length_map, List.length_append] at he hs
    exact ⟨a, c', a', c'', he, hs, ho, hb⟩

set_option maxRecDepth 100000 in
set_option maxHeartbeats 1600000 in
theorem zheld_any2 (t m s c : Int) (p : Option Addr) (ac : Option Addr) (nc cc : Nat) (af : Option Addr) (nf cf : Nat) (ab : Option Addr) (nb cb : Nat) (al : Option Addr) (nl cl : Nat) (Cs : List ZC) (Fs : List ZF) (w : World)
    (hCs : Cs.length ≤ 200000) (hFs : Fs.length ≤ 200000) (hc : Sl w (.slice ac nc cc) 5 (Cs.map ZC.cells)) (hf : Sl w (.slice af nf cf) 6 (Fs.map ZF.cells)) :
    Calls Trym.prog 9 #[.agg #[.int .u8 t, .int .u16 m, .int .u16 s, .int .u8 c, .pointer p, .slice ac nc cc, .slice af nf cf, .slice ab nb cb, .slice al nl cl]] w fun e w' => HeldOut2 e w w' t m s c p (.slice ab nb cb) (.slice al nl cl) Cs Fs := by
  have ba : Below w.heap.size w ((w.alloc (.cells #[.int .u8 t, .int .u16 m, .int .u16 s, .int .u8 c, .pointer p, .slice ac nc cc, .slice af nf cf, .slice ab nb cb, .slice al nl cl] 39)).alloc (.cells #[.int .u8 0, .int .u16 0, .int .u16 0, .int .u8 0, .pointer none, .slice none 0 0, .slice none 0 0, .slice none 0 0, .slice none 0 0] 39)) := ((Below.refl _ _).alloc (Nat.le_refl _) _).alloc (by simp) _
  have HB : Hid (((w.alloc (.cells #[.int .u8 t, .int .u16 m, .int .u16 s, .int .u8 c, .pointer p, .slice ac nc cc, .slice af nf cf, .slice ab nb cb, .slice al nl cl] 39)).alloc (.cells #[.int .u8 0, .int .u16 0, .int .u16 0, .int .u8 0, .pointer none, .slice none 0 0, .slice none 0 0, .slice none 0 0, .slice none 0 0] 39)).heap[w.heap.size + 1]? = some (.cells zero9 39 (0, 0))) := by
    have := heap_alloc_new (w.alloc (.cells #[.int .u8 t, .int .u16 m, .int .u16 s, .int .u8 c, .pointer p, .slice ac nc cc, .slice af nf cf, .slice ab nb cb, .slice al nl cl] 39)) (.cells zero9 39)
    rw [World.size_alloc] at this
    exact this
  have hc' := hc.below ba (Nat.le_refl _)
  have hf' := hf.below ba (Nat.le_refl _)
  clear hc hf
  go_enter Trym.func9, Trym.ntmps9
  go_wp2_with fail
  refine (held_out2 t m s c p ac nc cc af nf cf ab nb cb al nl cl Cs Fs _ hCs hFs hc' hf').mono ?_
  rintro e w1 ⟨ac', cc', af', cf', rfl, C1, F1, b1⟩
  have B1 : Below w.heap.size w w1 := ba.trans (b1.mono (by simp; omega))
  have K1 := (b1.block (w.heap.size + 1) (by simp)).trans HB.out
  have HC : Hid (∀ wF : World, (∀ b, b ≠ w.heap.size + 1 → wF.heap[b]? = w1.heap[b]?) → SlR wF (.slice ac' (Cs.length + (moved Fs).length) cc') 5 ((Cs ++ moved Fs).map ZC.cells) (Value.ownBlock (.slice af' (kept Fs).length cf'))) := fun wF hoth => C1.off K1 zero9_nostr (ZC.str _) hoth
  have HF : Hid (∀ wF : World, (∀ b, b ≠ w.heap.size + 1 → wF.heap[b]? = w1.heap[b]?) → wF.ownsRow w.heap.size 58 6 (.slice af' (kept Fs).length cf') (kept Fs).length ((kept Fs).map ZF.cells).flatten) := fun wF hoth => by
    refine ⟨F1.1, ?_⟩
    rcases F1.2 with h2 | ⟨g, cap, cur, hv, hg, hh, r⟩
    · exact .inl h2
    · simp at hg
      exact .inr ⟨g, cap, cur, hv, by omega, (hoth g (by omega)).trans hh, r⟩
  clear ba HB hc' hf' C1 F1 b1
  have k0 := blk_cell (j := 0) K1 rfl
  have k1 := blk_cell (j := 1) K1 rfl
  have k2 := blk_cell (j := 2) K1 rfl
  have k3 := blk_cell (j := 3) K1 rfl
  have k4 := blk_cell (j := 4) K1 rfl
  have k5 := blk_cell (j := 5) K1 rfl
  have k6 := blk_cell (j := 6) K1 rfl
  have k7 := blk_cell (j := 7) K1 rfl
  have k8 := blk_cell (j := 8) K1 rfl
  have ff : ∀ j, w1.frozen? ⟨w.heap.size + 1, j, none⟩ = false := fun j => blk_free K1
  clear K1
  go_wp2
  refine bodyPost_ret (v := .agg #[.int .u8 t, .int .u16 m, .int .u16 s, .int .u8 c, .pointer p, .slice ac' (Cs.length + (moved Fs).length) cc', .slice af' (kept Fs).length cf', .slice ab nb cb, .slice al nl cl]) (by simp [results, Trym.results9, go_sem, k0, k1, k2, k3, k4, k5, k6, k7, k8]) rfl ⟨ac', cc', af', cf', rfl, HC.out _ ?_, HF.out _ ?_, ?_⟩
  · intro b hb
    exact ((Below.heap_setCell _ _ _ _ hb).trans ((Below.heap_setCell _ _ _ _ hb).trans ((Below.heap_setCell _ _ _ _ hb).trans ((Below.heap_setCell _ _ _ _ hb).trans ((Below.heap_setCell _ _ _ _ hb).trans ((Below.heap_setCell _ _ _ _ hb).trans ((Below.heap_setCell _ _ _ _ hb).trans ((Below.heap_setCell _ _ _ _ hb).trans (Below.heap_setCell _ _ _ _ hb)))))))))
  · intro b hb
    exact ((Below.heap_setCell _ _ _ _ hb).trans ((Below.heap_setCell _ _ _ _ hb).trans ((Below.heap_setCell _ _ _ _ hb).trans ((Below.heap_setCell _ _ _ _ hb).trans ((Below.heap_setCell _ _ _ _ hb).trans ((Below.heap_setCell _ _ _ _ hb).trans ((Below.heap_setCell _ _ _ _ hb).trans ((Below.heap_setCell _ _ _ _ hb).trans (Below.heap_setCell _ _ _ _ hb)))))))))
  · exact (((((((((B1.setCell (by simp) _).setCell (by simp) _).setCell (by simp) _).setCell (by simp) _).setCell (by simp) _).setCell (by simp) _).setCell (by simp) _).setCell (by simp) _).setCell (by simp) _)
end Go.Proofs.Qxb6614682aMods
