import Derived.Test.Qxb6615835aModsExpB
namespace Go.Proofs.Qxb6615835aMods
open Go.RowKit
set_option linter.unusedVariables false

theorem make_eq {t e : TypeId} {z : Value} {size bytes : Nat} (ht : Trym.prog.underlying t = some (.slice e)) (hinfo : (Trym.prog.info? e).map (fun i => (i.zero, i.size, i.bytes)) = some (some z, size, bytes)) (n : Nat) (hb : bytes * n ≤ 281474976710656) (h63 : n ≤ 9223372036854775807) (w : World) :
    (Instr.makeSlice t (.int .i64 (n : Int)) (.int .i64 (n : Int))).run Trym.prog w = .ok (.slice (some ⟨w.heap.size, 0, none⟩) n n) (w.alloc (.cells (madeCells z.cells (n * size)) e)) := by
  obtain ⟨i, hi, hz, hs, hy⟩ := info_parts hinfo
  subst hs hy
  have h := run_make (P := Trym.prog) w t e i z ht hi hz .i64 .i64 n n (by omega) (by omega) (by rw [← Int.natCast_mul]; omega) (by omega)
  simpa using h

theorem set_push {α : Type} (h : Array α) (x y : α) : (h.push x).setIfInBounds h.size y = h.push y := by
  apply Array.ext_getElem?
  intro i
  rw [Array.getElem?_setIfInBounds]
  by_cases e : h.size = i
  · subst e
    simp
  · rw [if_neg e, Array.getElem?_push, Array.getElem?_push, if_neg (fun h => e h.symm), if_neg (fun h => e h.symm)]
theorem set_last (w : World) (o : Obj) (es : Array MapEntry) (c : Nat) : (setObj w.heap.size o).run Trym.prog (w.alloc (.map es c)) = .ok () (w.alloc o) := by
  unfold setObj Sem.run World.alloc
  have e : (w.heap.push (Obj.map es c)).setIfInBounds w.heap.size o = w.heap.push o := set_push _ _ _
  simp [e]

theorem wpList_ins {ops : Array Oper} {rest : List Oper} {o : Oper} {a : Act} {w w' : World} {Q : Exit → Act → World → Prop} (hgd : o.guard = none) (m k x : Operand) (hop : o.op = .insert 29 m k x) (vm vk vx : Value) (hm : a.eval m = vm) (hk : a.eval k = vk) (hx : a.eval x = vx)
    (hb : (Instr.mapUpdate 29 vm vk vx).run Trym.prog w = .ok () w') (h : wpList Trym.prog ops Q rest (a.put o.dst undef) w') : wpList Trym.prog ops Q (o :: rest) a w :=
  wpList_plain hgd fun _ hK => by
    unfold Oper.wp execOp
    simp only [hop, hm, hk, hx, Sem.run_bind, hb, Result.andThen_ok, Sem.run_pure]
    exact hK _ _ h

theorem wpList_mkmap {ops : Array Oper} {rest : List Oper} {o : Oper} {a : Act} {w : World} {Q : Exit → Act → World → Prop} (hgd : o.guard = none) (hop : o.op = .makeMap 29 none)
    (h : wpList Trym.prog ops Q rest (a.put o.dst (.map (some w.heap.size))) (w.alloc (.map #[] 0))) : wpList Trym.prog ops Q (o :: rest) a w :=
  wpList_plain hgd fun _ hK => by
    unfold Oper.wp execOp
    simp only [hop, Option.map_none, Sem.run_bind, make_map, Result.andThen_ok, Sem.run_pure]
    exact hK _ _ h

structure Made (w wr : World) (n k : Nat) (K : Nat → ByteArray) : Prop where
  size : wr.heap.size = w.heap.size + 1 + k
  row : ∃ cur : Array Value, wr.heap[w.heap.size]? = some (.cells cur 20 (0, 0)) ∧ cur.size = n ∧ ∀ j, j < k → cur[j]? = some (.iface 29 (.map (some (w.heap.size + 1 + j))))
  maps : ∀ j : Nat, j < k → wr.heap[w.heap.size + 1 + j]? = some (.map (ent (K j) j) 2)
  bel : Below w.heap.size w wr

theorem Made.start (w : World) (n : Nat) (K : Nat → ByteArray) : Made w (w.alloc (.cells (madeCells #[.nilIface] n) 20)) n 0 K :=
  ⟨by simp, ⟨_, heap_alloc_new w _, by simp [madeCells], fun j hj => by omega⟩, fun j hj => by omega, (Below.refl _ _).alloc (Nat.le_refl _) _⟩

theorem Made.step {w wr : World} {n k : Nat} {K : Nat → ByteArray} (h : Made w wr n k K) (hk : k < n) :
    Made w ((wr.alloc (.map (ent (K k) k) 2)).setCell ⟨w.heap.size, k, none⟩ (.iface 29 (.map (some wr.heap.size)))) n (k + 1) K := by
  obtain ⟨cur, hr, hs, hc⟩ := h.row
  have hsz := h.size
  have h0 : (wr.alloc (.map (ent (K k) k) 2)).heap[w.heap.size]? = some (.cells cur 20 (0, 0)) := (Below.heap_alloc _ _ _ (by omega)).trans hr
  refine ⟨by simp [World.setCell]; omega, ⟨cur.setIfInBounds k (.iface 29 (.map (some wr.heap.size))), ?_, by simpa using hs, fun j hj => ?_⟩, fun j hj => ?_, ?_⟩
  · simp [World.setCell, Array.getElem?_modify, h0]
  · rw [Array.getElem?_setIfInBounds]
    by_cases e : k = j
    · subst e
      rw [if_pos rfl, if_pos (by omega), hsz]
    · rw [if_neg e]
      exact hc j (by omega)
  · rw [Below.heap_setCell _ _ _ _ (by simp; omega)]
    by_cases e : j = k
    · subst e
      have := heap_alloc_new wr (.map (ent (K j) j) 2)
      rw [hsz] at this
      exact this
    · rw [Below.heap_alloc _ _ _ (by omega)]
      exact h.maps j (by omega)
  · exact (h.bel.alloc h.bel.size _).setCell (Nat.le_refl _) _

/-- The keys, as they lie in memory. -/
def Keys (w : World) (ao : Option Addr) (n : Nat) (K : Nat → ByteArray) : Prop := ∃ b off, (0 < n → ao = some ⟨b, off, none⟩) ∧ ∀ j, j < n → w.cell? ⟨b, off + j, none⟩ = some (.string (K j))
theorem Keys.at {w : World} {ao : Option Addr} {n k : Nat} {K : Nat → ByteArray} (h : Keys w ao n K) (hk : k < n) : ∃ b off, ao = some ⟨b, off, none⟩ ∧ w.cell? ⟨b, off + k, none⟩ = some (.string (K k)) := by
  obtain ⟨b, off, h1, h2⟩ := h
  exact ⟨b, off, h1 (by omega), h2 k hk⟩
theorem Keys.below {w w' : World} {ao : Option Addr} {n N : Nat} {K : Nat → ByteArray} (h : Keys w ao n K) (hb : Below N w w') (hN : w.heap.size ≤ N) : Keys w' ao n K := by
  obtain ⟨b, off, h1, h2⟩ := h
  exact ⟨b, off, h1, fun j hj => cell_below (h2 j hj) hb hN⟩
def ks (K : Nat → ByteArray) (key : ByteArray) (z : Int) : ByteArray := if z < 0 then key else K z.toNat
def blkOf (g n : Nat) (z : Int) : Nat := if z < 0 then g + 1 + n else g + 1 + z.toNat

theorem blk_cell {w : World} {g j : Nat} {cs : Array Value} {t : TypeId} {fr : Nat × Nat} {v : Value} (h : w.heap[g]? = some (.cells cs t fr)) (hv : cs[j]? = some v) : w.cell? ⟨g, j, none⟩ = some v := by
  rw [cell_of_row w g j cs t fr h]; exact hv
theorem blk_free {w : World} {g j : Nat} {cs : Array Value} {t : TypeId} (h : w.heap[g]? = some (.cells cs t (0, 0))) : w.frozen? ⟨g, j, none⟩ = false := frozen_of_row w g j cs t h

theorem st_mem (K : Nat → ByteArray) (key : ByteArray) : ∀ k z, z ∈ (st K key k).1 → z = -1 ∨ (0 ≤ z ∧ z < k)
  | 0, z, h => by cases h
  | k + 1, z, h => by
    have ih := st_mem K key k z
    have up : (z = -1 ∨ (0 ≤ z ∧ z < (k : Int))) → (z = -1 ∨ (0 ≤ z ∧ z < ((k + 1 : Nat) : Int))) := fun h => by omega
    unfold st at h
    split at h
    · split at h
      · exact up (ih h)
      · simp at h
        rcases h with h | h
        · exact up (ih h)
        · exact .inl h
    · simp at h
      rcases h with h | h
      · exact up (ih h)
      · exact .inr ⟨by omega, by omega⟩
theorem fin_mem {K : Nat → ByteArray} {key : ByteArray} {n : Nat} {z : Int} (h : z ∈ fin K key n) : z = -1 ∨ (0 ≤ z ∧ z < n) := by
  unfold fin at h
  split at h
  · exact st_mem K key n z h
  · simp at h
    rcases h with h | h
    · exact st_mem K key n z h
    · exact .inl h
theorem fin_len (K : Nat → ByteArray) (key : ByteArray) (n : Nat) : (fin K key n).length ≤ n + 1 := by
  have := st_len K key n
  unfold fin
  split
  · omega
  · simp; omega

structure Two (w3 wr : World) (F : List Int) (f : Int → ByteArray) (k : Nat) : Prop where
  r1 : ∃ cur : Array Value, wr.heap[w3.heap.size]? = some (.cells cur 9 (0, 0)) ∧ cur.size = F.length ∧ ∀ j z, j < k → F[j]? = some z → cur[j]? = some (.string (f z))
  r2 : ∃ cur : Array Value, wr.heap[w3.heap.size + 1]? = some (.cells cur 3 (0, 0)) ∧ cur.size = F.length ∧ ∀ j z, j < k → F[j]? = some z → cur[j]? = some (.int .i64 z)
  bel : Below w3.heap.size w3 wr
theorem Two.start (w3 : World) (F : List Int) (f : Int → ByteArray) : Two w3 ((w3.alloc (.cells (madeCells #[.string ⟨#[]⟩] F.length) 9)).alloc (.cells (madeCells #[.int .i64 0] F.length) 3)) F f 0 := by
  have h2 := heap_alloc_new (w3.alloc (.cells (madeCells #[.string ⟨#[]⟩] F.length) 9)) (.cells (madeCells #[.int .i64 0] F.length) 3)
  rw [World.size_alloc] at h2
  have h1 := (Below.heap_alloc (w3.alloc (.cells (madeCells #[.string ⟨#[]⟩] F.length) 9)) (.cells (madeCells #[.int .i64 0] F.length) 3) w3.heap.size (by simp)).trans (heap_alloc_new w3 _)
  exact ⟨⟨_, h1, by simp [madeCells], fun j z hj => by omega⟩, ⟨_, h2, by simp [madeCells], fun j z hj => by omega⟩, ((Below.refl _ _).alloc (Nat.le_refl _) _).alloc (by simp) _⟩
theorem Two.step {w3 wr : World} {F : List Int} {f : Int → ByteArray} {k : Nat} {z : Int} (h : Two w3 wr F f k) (hz : F[k]? = some z) :
    Two w3 ((wr.setCell ⟨w3.heap.size, k, none⟩ (.string (f z))).setCell ⟨w3.heap.size + 1, k, none⟩ (.int .i64 z)) F f (k + 1) := by
  have hk := (List.getElem?_eq_some_iff.1 hz).1
  obtain ⟨c1, e1, s1, q1⟩ := h.r1
  obtain ⟨c2, e2, s2, q2⟩ := h.r2
  refine ⟨⟨c1.setIfInBounds k (.string (f z)), ?_, by simpa using s1, fun j y hj hy => ?_⟩, ⟨c2.setIfInBounds k (.int .i64 z), ?_, by simpa using s2, fun j y hj hy => ?_⟩, ?_⟩
  · rw [Below.heap_setCell _ _ _ _ (by simp)]
    simp [World.setCell, Array.getElem?_modify, e1]
  · rw [Array.getElem?_setIfInBounds]
    by_cases e : k = j
    · subst e
      rw [hz] at hy
      cases hy
      rw [if_pos rfl, if_pos (by omega)]
    · rw [if_neg e]
      exact q1 j y (by omega) hy
  · have : (wr.setCell ⟨w3.heap.size, k, none⟩ (.string (f z))).heap[w3.heap.size + 1]? = some (.cells c2 3 (0, 0)) := (Below.heap_setCell _ _ _ _ (by simp)).trans e2
    simp [World.setCell, Array.getElem?_modify, e2]
  · rw [Array.getElem?_setIfInBounds]
    by_cases e : k = j
    · subst e
      rw [hz] at hy
      cases hy
      rw [if_pos rfl, if_pos (by omega)]
    · rw [if_neg e]
      exact q2 j y (by omega) hy
  · exact (h.bel.setCell (by simp) _).setCell (by simp) _

theorem row_at {w : World} {base : Nat} {ao : Option Addr} {cap : Nat} {F : List Int} {blk : Int → Nat} (h : w.ownsRow base 20 1 (.slice ao F.length cap) F.length (F.map (cellOf blk))) {k : Nat} {z : Int} (hz : F[k]? = some z) :
    ∃ g, ao = some ⟨g, 0, none⟩ ∧ w.cell? ⟨g, k, none⟩ = some (.iface 29 (.map (some (blk z)))) := by
  have hk := (List.getElem?_eq_some_iff.1 hz).1
  obtain ⟨g, cap', e, -, -⟩ := h.form (by omega)
  simp only [Value.slice.injEq] at e
  obtain ⟨rfl, -, rfl⟩ := e
  refine ⟨g, rfl, ?_⟩
  rw [h.cellAt k (by omega), List.getElem?_map, hz]
  rfl

set_option maxRecDepth 100000 in
set_option maxHeartbeats 1600000 in
theorem zz_any (ao : Option Addr) (n cap : Nat) (K : Nat → ByteArray) (key : ByteArray) (w : World) (hn : n ≤ 65536) (hK : Keys w ao n K) :
    Calls Trym.prog 5 #[.slice ao n cap, .string key] w fun e w' => ∃ g1 g2, e = .returned (.tuple #[.slice (some ⟨g1, 0, none⟩) (fin K key n).length (fin K key n).length, .slice (some ⟨g2, 0, none⟩) (fin K key n).length (fin K key n).length]) ∧
      (∀ (j : Nat) z, (fin K key n)[j]? = some z → w'.cell? ⟨g1, j, none⟩ = some (.string (ks K key z)) ∧ w'.cell? ⟨g2, j, none⟩ = some (.int .i64 z)) ∧ Below w.heap.size w w' := by
  have hmk := make_eq Trym.underlying28 Trym.info20 n (by omega) (by omega)
  go_enter Trym.func5, Trym.ntmps5
  go_wp2_with fail
  clear hmk
  go_loopw [7] (fun i wr => ∃ k : Nat, k ≤ n ∧ i = .int .i64 k ∧ Made w wr n k K) (fun i _ => n - (intOf i).toNat)
  case atStart => exact ⟨0, Nat.zero_le _, rfl, Made.start w n K⟩
  case round =>
    obtain ⟨k, hk, rfl, hM⟩ := hrel
    have hsz := hM.size
    by_cases hlt : k < n
    · obtain ⟨b, off, rfl, hc⟩ := (hK.below hM.bel (Nat.le_refl _)).at hlt
      have hcl := World.block_lt_of_cell? wr _ hc
      have c0 : ∀ o, (wr.alloc o).cell? ⟨b, off + k, none⟩ = some (.string (K k)) := fun o => (World.cell?_alloc_lt _ _ _ hcl).trans hc
      obtain ⟨cur, hr, hs, -⟩ := hM.row
      have g0 : ∀ o, (wr.alloc o).heap[w.heap.size]? = some (.cells cur 20 (0, 0)) := fun o => (Below.heap_alloc _ _ _ (by omega)).trans hr
      obtain ⟨x0, hx0⟩ : ∃ x0, cur[k]? = some x0 := ⟨_, Array.getElem?_eq_getElem (by omega)⟩
      have c1 : ∀ o, (wr.alloc o).cell? ⟨w.heap.size, k, none⟩ = some x0 := fun o => blk_cell (g0 o) hx0
      have f1 : ∀ o, (wr.alloc o).frozen? ⟨w.heap.size, k, none⟩ = false := fun o => blk_free (g0 o)
      have HI1 : Hid (∀ v, (Instr.mapUpdate 29 (.map (some wr.heap.size)) (.string ⟨#[107, 101, 121]⟩) v).run Trym.prog (wr.alloc (.map #[] 0)) = .ok () (wr.alloc (.map #[⟨.string ⟨#[107, 101, 121]⟩, v, 0⟩] 1))) := fun v => (ins_key _ _ v (heap_alloc_new wr _)).trans (set_last _ _ _ _)
      have HI2 : Hid (∀ u v, (Instr.mapUpdate 29 (.map (some wr.heap.size)) (.string ⟨#[105, 100]⟩) v).run Trym.prog (wr.alloc (.map #[⟨.string ⟨#[107, 101, 121]⟩, u, 0⟩] 1)) = .ok () (wr.alloc (.map #[⟨.string ⟨#[107, 101, 121]⟩, u, 0⟩, ⟨.string ⟨#[105, 100]⟩, v, 1⟩] 2))) := fun u v => (ins_id _ _ u v (heap_alloc_new wr _)).trans (set_last _ _ _ _)
      have HS : Hid (Made w ((wr.alloc (.map (ent (K k) k) 2)).setCell ⟨w.heap.size, k, none⟩ (.iface 29 (.map (some wr.heap.size)))) n (k + 1) K) := hM.step hlt
      have hi0 : (0 : Int) ≤ (k : Int) := Int.natCast_nonneg _
      have hi1 : (k : Int) < (n : Int) := by omega
      clear hM hc hr hs hx0 g0 hcl hsz
      have i1 := HI1.out
      have i2 := HI2.out
      go_wp2_with ((with_reducible refine wpList_mkmap ?_ ?_ ?_); exact rfl; exact rfl)
      go_roundw
      case rel => exact ⟨k + 1, by omega, by go_num, HS.out⟩
      case measure => simp [intOf]; omega
    · have hkl : n = k := by omega
      subst hkl
      have HI1 : Hid (∀ v, (Instr.mapUpdate 29 (.map (some wr.heap.size)) (.string ⟨#[107, 101, 121]⟩) v).run Trym.prog (wr.alloc (.map #[] 0)) = .ok () (wr.alloc (.map #[⟨.string ⟨#[107, 101, 121]⟩, v, 0⟩] 1))) := fun v => (ins_key _ _ v (heap_alloc_new wr _)).trans (set_last _ _ _ _)
      have HI2 : Hid (∀ u v, (Instr.mapUpdate 29 (.map (some wr.heap.size)) (.string ⟨#[105, 100]⟩) v).run Trym.prog (wr.alloc (.map #[⟨.string ⟨#[107, 101, 121]⟩, u, 0⟩] 1)) = .ok () (wr.alloc (.map #[⟨.string ⟨#[107, 101, 121]⟩, u, 0⟩, ⟨.string ⟨#[105, 100]⟩, v, 1⟩] 2))) := fun u v => (ins_id _ _ u v (heap_alloc_new wr _)).trans (set_last _ _ _ _)
      have HNB : Hid (blkOf w.heap.size n (-1) = wr.heap.size) := by show _ = _; unfold blkOf; rw [if_pos (by omega), hsz]
      have P1 : Hid (∀ o, ∀ j : Nat, j < n → (wr.alloc o).cell? ⟨w.heap.size, j, none⟩ = some (cellOf (blkOf w.heap.size n) j)) := fun o j hj => by
        obtain ⟨cur, hr, hs, hc⟩ := hM.row
        have e : blkOf w.heap.size n (j : Int) = w.heap.size + 1 + j := by unfold blkOf; rw [if_neg (by omega)]; simp
        unfold cellOf
        rw [e]
        exact blk_cell ((Below.heap_alloc _ _ _ (by omega)).trans hr) (hc j hj)
      have P2 : Hid (∀ o, ∀ j : Nat, j < n → (wr.alloc o).heap[blkOf w.heap.size n j]? = some (.map (ent (K j) j) 2)) := fun o j hj => by
        have e : blkOf w.heap.size n (j : Int) = w.heap.size + 1 + j := by unfold blkOf; rw [if_neg (by omega)]; simp
        rw [e, Below.heap_alloc _ _ _ (by omega)]
        exact hM.maps j hj
      have P3 : Hid ((wr.alloc (.map (ent key (-1)) 2)).heap[blkOf w.heap.size n (-1)]? = some (.map (ent key (-1)) 2)) := by
        show _ = _
        rw [HNB.out]
        exact heap_alloc_new wr _
      have B1 : Below w.heap.size w (wr.alloc (.map (ent key (-1)) 2)) := hM.bel.alloc hM.bel.size _
      have hN := fin_len K key n
      have i1 := HI1.out
      have i2 := HI2.out
      clear hM hK hsz hlt
      go_wp2_with ((with_reducible refine wpList_mkmap ?_ ?_ ?_); exact rfl; exact rfl)
      clear i1 i2 HI1 HI2
      have HW := with_any n w.heap.size (blkOf w.heap.size n) K key (wr.alloc (.map (ent key (-1)) 2)) hn (P1.out _) (P2.out _) P3.out
      rw [HNB.out] at HW
      refine HW.mono ?_
      clear HW
      rintro e w3 ⟨ao3, cap3, rfl, own3, b3⟩
      have B3 := B1.trans (b3.mono B1.size)
      have HMZ : Hid (∀ z, z ∈ fin K key n → w3.heap[blkOf w.heap.size n z]? = some (.map (ent (ks K key z) z) 2)) := fun z hz => by
        rcases fin_mem hz with rfl | ⟨h0, h1⟩
        · exact heap_below P3.out b3 (Nat.le_refl _)
        · obtain ⟨j, rfl⟩ := Int.eq_ofNat_of_zero_le h0
          have := heap_below (P2.out (.map (ent key (-1)) 2) j (by omega)) b3 (Nat.le_refl _)
          unfold ks
          rw [if_neg (by omega)]
          simpa using this
      clear b3 P1 P2 P3 B1 HNB
      obtain ⟨F, hF⟩ : ∃ F, F = fin K key n := ⟨_, rfl⟩
      rw [← hF] at own3 HMZ hN ⊢
      have HFN : Hid (F = fin K key n) := hF
      clear hF
      have hmk9 := make_eq Trym.underlying22 Trym.info9 F.length (by omega) (by omega)
      have hmk3 := make_eq Trym.underlying24 Trym.info3 F.length (by omega) (by omega)
      go_wp2_with fail
      clear hmk9 hmk3
      go_loopw [11] (fun i wr => ∃ k : Nat, k ≤ F.length ∧ i = .int .i64 k ∧ Two w3 wr F (ks K key) k) (fun i _ => F.length - (intOf i).toNat)
      case atStart => exact ⟨0, Nat.zero_le _, rfl, Two.start w3 F _⟩
      case round =>
        obtain ⟨k, hk, rfl, hT⟩ := hrel
        by_cases hlt : k < F.length
        · obtain ⟨z, hz⟩ : ∃ z, F[k]? = some z := ⟨_, List.getElem?_eq_getElem hlt⟩
          obtain ⟨g, rfl, hc⟩ := row_at own3 hz
          have c0 := cell_below hc hT.bel (Nat.le_refl _)
          have hmz := heap_below (HMZ.out z (List.mem_of_getElem? hz)) hT.bel (Nat.le_refl _)
          have HL1 : Hid (_ = _) := look_key wr _ _ _ hmz
          have HL2 : Hid (_ = _) := look_id wr _ _ _ hmz
          obtain ⟨c1, e1, s1, -⟩ := hT.r1
          obtain ⟨c2, e2, s2, -⟩ := hT.r2
          obtain ⟨x1, hx1⟩ : ∃ x, c1[k]? = some x := ⟨_, Array.getElem?_eq_getElem (by omega)⟩
          obtain ⟨x2, hx2⟩ : ∃ x, c2[k]? = some x := ⟨_, Array.getElem?_eq_getElem (by omega)⟩
          have d1 : wr.cell? ⟨w3.heap.size, k, none⟩ = some x1 := blk_cell e1 hx1
          have f1 : wr.frozen? ⟨w3.heap.size, k, none⟩ = false := blk_free e1
          have e2' : ∀ v, (wr.setCell ⟨w3.heap.size, k, none⟩ v).heap[w3.heap.size + 1]? = some (.cells c2 3 (0, 0)) := fun v => (Below.heap_setCell _ _ _ _ (by simp)).trans e2
          have d2 : ∀ v, (wr.setCell ⟨w3.heap.size, k, none⟩ v).cell? ⟨w3.heap.size + 1, k, none⟩ = some x2 := fun v => blk_cell (e2' v) hx2
          have f2 : ∀ v, (wr.setCell ⟨w3.heap.size, k, none⟩ v).frozen? ⟨w3.heap.size + 1, k, none⟩ = false := fun v => blk_free (e2' v)
          have HS : Hid (Two w3 _ F (ks K key) (k + 1)) := hT.step hz
          have hi0 : (0 : Int) ≤ (k : Int) := Int.natCast_nonneg _
          have hi1 : (k : Int) < (F.length : Int) := by omega
          have t29 := as29
          have t9 := as9
          have t3 := as3
          clear hc hmz e1 e2 e2' s1 s2 hx1 hx2 hT own3 hz
          go_wp2_with (first | ((with_reducible refine wpList_look ?_ (.tmp 68) (.const (.string ⟨#[107, 101, 121]⟩)) ?_ _ _ _ ?_ ?_ HL1.out ?_); exact rfl; exact rfl; exact rfl; exact rfl) | ((with_reducible refine wpList_look ?_ (.tmp 74) (.const (.string ⟨#[105, 100]⟩)) ?_ _ _ _ ?_ ?_ HL2.out ?_); exact rfl; exact rfl; exact rfl; exact rfl))
          go_roundw
          case rel => exact ⟨k + 1, by omega, by go_num, HS.out⟩
          case measure => simp [intOf]; omega
        · have hkl : k = F.length := by omega
          subst hkl
          have HZ : Hid (∀ (j : Nat) z, F[j]? = some z → wr.cell? ⟨w3.heap.size, j, none⟩ = some (.string (ks K key z)) ∧ wr.cell? ⟨w3.heap.size + 1, j, none⟩ = some (.int .i64 z)) := fun j z hz => by
            have hj := (List.getElem?_eq_some_iff.1 hz).1
            obtain ⟨c1, e1, s1, q1⟩ := hT.r1
            obtain ⟨c2, e2, s2, q2⟩ := hT.r2
            exact ⟨blk_cell e1 (q1 j z hj hz), blk_cell e2 (q2 j z hj hz)⟩
          have B4 := B3.trans (hT.bel.mono B3.size)
          clear hT own3
          go_wp2
          go_ret2
          have hF := HFN.out
          refine ⟨w3.heap.size, w3.heap.size + 1, ?_, ?_, B4⟩
          · rw [← hF]
            rfl
          · rw [← hF]
            exact HZ.out
end Go.Proofs.Qxb6615835aMods
