import Derived.Test.Qxb6614682aModsHeldB
namespace Go.Proofs.Qxb6614682aMods
open Go.RowKit

def isNil : Value → Bool
  | .slice none _ _ => true
  | _ => false

theorem ZC.len (Cs : List ZC) : ∀ x ∈ Cs.map ZC.cells, x.length = 5 := by
  intro x hx
  obtain ⟨y, _, rfl⟩ := List.mem_map.1 hx
  rfl
theorem ZC.one (x : ZC) : ∀ v ∈ x.cells, v.oneCell' = true := by
  intro v hv
  simp [ZC.cells] at hv
  rcases hv with rfl | rfl | rfl | rfl | rfl <;> rfl

set_option maxHeartbeats 400000 in
theorem zzCells_nil (len cap : Nat) (w : World) :
    Calls Trym.prog 22 #[.slice none len cap] w fun e w' => e = .returned (.slice none 0 0) ∧ w' = w := by
  have hnil := fun (w : World) (a : Option Addr) (n c : Nat) => Lib.run_eql_slice_nil (P := Trym.prog) w 24 53 a n c 0 0 Trym.underlying24
  go_enter Trym.func22, Trym.ntmps22
  go_wp2
  go_ret
  exact ⟨rfl, rfl⟩

set_option maxRecDepth 100000 in
set_option maxHeartbeats 1600000 in
theorem zzCells_some (Cs : List ZC) (a : Addr) (b off len cap : Nat) (w : World) (hm : len ≤ 65536) (hl : Cs.length = len) (ha : 0 < len → a = ⟨b, off, none⟩)
    (hr : ∀ i cs, (Cs.map ZC.cells)[i]? = some cs → w.rangeAt b (off + i * 5) cs) :
    Calls Trym.prog 22 #[.slice (some a) len cap] w fun e w' => e = .returned (.slice (some ⟨w.heap.size, 0, none⟩) len len) ∧ Sl w' (.slice (some ⟨w.heap.size, 0, none⟩) len len) 5 (Cs.map ZC.cells) ∧ Below w.heap.size w w' := by
  have hmk := make_eq Trym.underlying34 Trym.info50 len (by omega) (by omega)
  have hnil := fun (w : World) (a : Option Addr) (n c : Nat) => Lib.run_eql_slice_nil (P := Trym.prog) w 24 53 a n c 0 0 Trym.underlying24
  have HL : Hid (Cs.length = len) := hl
  clear hl
  go_enter Trym.func22, Trym.ntmps22
  go_wp2
  clear hmk hnil
  go_loopw [4] (fun i wr => ∃ k : Nat, k ≤ len ∧ i = .int .i64 k ∧ Filled wr w.heap.size 50 5 len k (Cs.map ZC.cells) ∧ Below w.heap.size w wr) (fun i _ => len - (intOf i).toNat)
  case atStart => exact ⟨0, Nat.zero_le _, rfl, Filled.start w _ 50 5 len _, (Below.refl _ _).alloc (Nat.le_refl _) _⟩
  case round =>
    obtain ⟨k, hk, rfl, hF, hB⟩ := hrel
    have hsz := hB.size
    by_cases hlt : k < len
    · obtain rfl := ha (by omega)
      obtain ⟨x, hx⟩ : ∃ x, Cs[k]? = some x := ⟨_, List.getElem?_eq_getElem (by rw [HL.out]; exact hlt)⟩
      have hxc : (Cs.map ZC.cells)[k]? = some x.cells := by rw [List.getElem?_map, hx]; rfl
      obtain ⟨p0, p1, p2, p3, p4⟩ := range5 (rangeAt_below (hr k _ hxc) (hB.mono (Nat.le_refl _)) (Nat.le_refl _))
      have HX : Hid ((Cs.map ZC.cells)[k]? = some x.cells) := hxc
      clear hr hxc hx ha
      go_wp2_with fail
      refine (zzCell_bel _ _ _ _ _ _).mono ?_
      rintro e w1 ⟨rfl, hb1⟩
      have hF1 := hF.below hb1 (Nat.le_refl _)
      have hB1 : Below w.heap.size w w1 := hB.trans (hb1.mono hsz)
      clear p0 p1 p2 p3 p4 hF hB hb1
      have ht := hF1.there hlt
      have hS := hF1.step hlt HX.out (ZC.len Cs)
      have hB2 := below_setCells w.heap.size (Nat.le_refl _) x.cells (k * 5) w1 hB1
      have HS : Hid (Filled (w1.setCells w.heap.size (k * 5) x.cells) w.heap.size 50 5 len (k + 1) (Cs.map ZC.cells)) := hS
      clear hS hF1 hB1
      go_wp2_with ((with_reducible refine wpList_store_mid ?_ 50 (.tmp 23) (.tmp 22) ?_ w.heap.size (k * 5) x.cells.toArray ?_ ?_ ?_ ?_ ?_ ?_); exact rfl; exact rfl; exact rfl; exact rfl; exact ht; exact (size_of Trym.info50); exact all_oneCell_toArray x.one)
      go_roundw
      case rel => exact ⟨k + 1, by omega, by go_num, HS.out, hB2⟩
      case measure => simp [intOf]; omega
    · have hkl : k = len := by omega
      subst hkl
      clear hr ha
      go_wp2
      go_ret
      exact ⟨rfl, hF.sl (by rw [List.length_map]; exact HL.out) (by omega), hB⟩

theorem zzCells_any (Cs : List ZC) (v : Value) (w : World) (hm : Cs.length ≤ 65536) (h : Sl w v 5 (Cs.map ZC.cells)) :
    Calls Trym.prog 22 #[v] w fun e w' => ∃ v', e = .returned v' ∧ Sl w' v' 5 (Cs.map ZC.cells) ∧ isNil v' = isNil v ∧ Below w.heap.size w w' := by
  obtain ⟨ao, cap, b, off, rfl, hao, hno, hlc, hcm, hr⟩ := h
  cases ao with
  | none =>
    have h0 : (Cs.map ZC.cells).length = 0 := by
      rcases Nat.eq_zero_or_pos (Cs.map ZC.cells).length with h | h
      · exact h
      · exact absurd (hao h) (by simp)
    refine (zzCells_nil _ cap w).mono fun e w' ⟨he, hw⟩ => ⟨_, he, ?_, rfl, hw ▸ Below.refl _ _⟩
    exact ⟨none, 0, b, off, by rw [h0], fun h => by omega, fun _ => rfl, by omega, by omega, fun i cs hi => by
      have := (List.getElem?_eq_some_iff.1 hi).1
      omega⟩
  | some a =>
    rw [List.length_map] at hao hlc ⊢
    exact (zzCells_some Cs a b off _ cap w hm rfl (fun h => by simpa using hao h) hr).mono fun e w' ⟨he, h1, h2⟩ => ⟨_, he, h1, rfl, h2⟩

theorem ZF.len (Fs : List ZF) : ∀ x ∈ Fs.map ZF.cells, x.length = 6 := by
  intro x hx
  obtain ⟨y, _, rfl⟩ := List.mem_map.1 hx
  rfl
theorem ZF.one (x : ZF) : ∀ v ∈ x.cells, v.oneCell' = true := by
  intro v hv
  simp [ZF.cells] at hv
  rcases hv with rfl | rfl | rfl | rfl | rfl | rfl <;> rfl

set_option maxHeartbeats 400000 in
theorem zzFailures_nil (len cap : Nat) (w : World) :
    Calls Trym.prog 16 #[.slice none len cap] w fun e w' => e = .returned (.slice none 0 0) ∧ w' = w := by
  have hnil := fun (w : World) (a : Option Addr) (n c : Nat) => Lib.run_eql_slice_nil (P := Trym.prog) w 25 55 a n c 0 0 Trym.underlying25
  go_enter Trym.func16, Trym.ntmps16
  go_wp2
  go_ret
  exact ⟨rfl, rfl⟩

set_option maxRecDepth 100000 in
set_option maxHeartbeats 1600000 in
theorem zzFailures_some (Fs : List ZF) (a : Addr) (b off len cap : Nat) (w : World) (hm : len ≤ 65536) (hl : Fs.length = len) (ha : 0 < len → a = ⟨b, off, none⟩)
    (hr : ∀ i cs, (Fs.map ZF.cells)[i]? = some cs → w.rangeAt b (off + i * 6) cs) :
    Calls Trym.prog 16 #[.slice (some a) len cap] w fun e w' => e = .returned (.slice (some ⟨w.heap.size, 0, none⟩) len len) ∧ Sl w' (.slice (some ⟨w.heap.size, 0, none⟩) len len) 6 (Fs.map ZF.cells) ∧ Below w.heap.size w w' := by
  have hmk := make_eq Trym.underlying35 Trym.info58 len (by omega) (by omega)
  have hnil := fun (w : World) (a : Option Addr) (n c : Nat) => Lib.run_eql_slice_nil (P := Trym.prog) w 25 55 a n c 0 0 Trym.underlying25
  have HL : Hid (Fs.length = len) := hl
  clear hl
  go_enter Trym.func16, Trym.ntmps16
  go_wp2
  clear hmk hnil
  go_loopw [4] (fun i wr => ∃ k : Nat, k ≤ len ∧ i = .int .i64 k ∧ Filled wr w.heap.size 58 6 len k (Fs.map ZF.cells) ∧ Below w.heap.size w wr) (fun i _ => len - (intOf i).toNat)
  case atStart => exact ⟨0, Nat.zero_le _, rfl, Filled.start w _ 58 6 len _, (Below.refl _ _).alloc (Nat.le_refl _) _⟩
  case round =>
    obtain ⟨k, hk, rfl, hF, hB⟩ := hrel
    have hsz := hB.size
    by_cases hlt : k < len
    · obtain rfl := ha (by omega)
      obtain ⟨x, hx⟩ : ∃ x, Fs[k]? = some x := ⟨_, List.getElem?_eq_getElem (by rw [HL.out]; exact hlt)⟩
      have hxc : (Fs.map ZF.cells)[k]? = some x.cells := by rw [List.getElem?_map, hx]; rfl
      obtain ⟨p0, p1, p2, p3, p4, p5⟩ := range6 (rangeAt_below (hr k _ hxc) (hB.mono (Nat.le_refl _)) (Nat.le_refl _))
      have HX : Hid ((Fs.map ZF.cells)[k]? = some x.cells) := hxc
      clear hr hxc hx ha
      go_wp2_with fail
      refine (zzFailure_any _ _ _ _ _ _ _).mono ?_
      rintro e w1 ⟨rfl, hb1⟩
      have hF1 := hF.below hb1 (Nat.le_refl _)
      have hB1 : Below w.heap.size w w1 := hB.trans (hb1.mono hsz)
      clear p0 p1 p2 p3 p4 p5 hF hB hb1
      have ht := hF1.there hlt
      have hS := hF1.step hlt HX.out (ZF.len Fs)
      have hB2 := below_setCells w.heap.size (Nat.le_refl _) x.cells (k * 6) w1 hB1
      have HS : Hid (Filled (w1.setCells w.heap.size (k * 6) x.cells) w.heap.size 58 6 len (k + 1) (Fs.map ZF.cells)) := hS
      clear hS hF1 hB1
      go_wp2_with ((with_reducible refine wpList_store_mid ?_ 58 (.tmp 23) (.tmp 22) ?_ w.heap.size (k * 6) x.cells.toArray ?_ ?_ ?_ ?_ ?_ ?_); exact rfl; exact rfl; exact rfl; exact rfl; exact ht; exact (size_of Trym.info58); exact all_oneCell_toArray x.one)
      go_roundw
      case rel => exact ⟨k + 1, by omega, by go_num, HS.out, hB2⟩
      case measure => simp [intOf]; omega
    · have hkl : k = len := by omega
      subst hkl
      clear hr ha
      go_wp2
      go_ret
      exact ⟨rfl, hF.sl (by rw [List.length_map]; exact HL.out) (by omega), hB⟩

theorem zzFailures_any (Fs : List ZF) (v : Value) (w : World) (hm : Fs.length ≤ 65536) (h : Sl w v 6 (Fs.map ZF.cells)) :
    Calls Trym.prog 16 #[v] w fun e w' => ∃ v', e = .returned v' ∧ Sl w' v' 6 (Fs.map ZF.cells) ∧ isNil v' = isNil v ∧ Below w.heap.size w w' := by
  obtain ⟨ao, cap, b, off, rfl, hao, hno, hlc, hcm, hr⟩ := h
  cases ao with
  | none =>
    have h0 : (Fs.map ZF.cells).length = 0 := by
      rcases Nat.eq_zero_or_pos (Fs.map ZF.cells).length with h | h
      · exact h
      · exact absurd (hao h) (by simp)
    refine (zzFailures_nil _ cap w).mono fun e w' ⟨he, hw⟩ => ⟨_, he, ?_, rfl, hw ▸ Below.refl _ _⟩
    exact ⟨none, 0, b, off, by rw [h0], fun h => by omega, fun _ => rfl, by omega, by omega, fun i cs hi => by
      have := (List.getElem?_eq_some_iff.1 hi).1
      omega⟩
  | some a =>
    rw [List.length_map] at hao hlc ⊢
    exact (zzFailures_some Fs a b off _ cap w hm rfl (fun h => by simpa using hao h) hr).mono fun e w' ⟨he, h1, h2⟩ => ⟨_, he, h1, rfl, h2⟩

theorem ZB.len (Bs : List ZB) : ∀ x ∈ Bs.map ZB.cells, x.length = 7 := by
  intro x hx
  obtain ⟨y, _, rfl⟩ := List.mem_map.1 hx
  rfl
theorem ZB.one (x : ZB) : ∀ v ∈ x.cells, v.oneCell' = true := by
  intro v hv
  simp [ZB.cells] at hv
  rcases hv with rfl | rfl | rfl | rfl | rfl | rfl | rfl <;> rfl

set_option maxHeartbeats 400000 in
theorem zzBroadcasts_nil (len cap : Nat) (w : World) :
    Calls Trym.prog 23 #[.slice none len cap] w fun e w' => e = .returned (.slice none 0 0) ∧ w' = w := by
  have hnil := fun (w : World) (a : Option Addr) (n c : Nat) => Lib.run_eql_slice_nil (P := Trym.prog) w 26 67 a n c 0 0 Trym.underlying26
  go_enter Trym.func23, Trym.ntmps23
  go_wp2
  go_ret
  exact ⟨rfl, rfl⟩

set_option maxRecDepth 100000 in
set_option maxHeartbeats 1600000 in
theorem zzBroadcasts_some (Bs : List ZB) (a : Addr) (b off len cap : Nat) (w : World) (hm : len ≤ 65536) (hl : Bs.length = len) (ha : 0 < len → a = ⟨b, off, none⟩)
    (hr : ∀ i cs, (Bs.map ZB.cells)[i]? = some cs → w.rangeAt b (off + i * 7) cs) :
    Calls Trym.prog 23 #[.slice (some a) len cap] w fun e w' => e = .returned (.slice (some ⟨w.heap.size, 0, none⟩) len len) ∧ Sl w' (.slice (some ⟨w.heap.size, 0, none⟩) len len) 7 (Bs.map ZB.cells) ∧ Below w.heap.size w w' := by
  have hmk := make_eq Trym.underlying36 Trym.info64 len (by omega) (by omega)
  have hnil := fun (w : World) (a : Option Addr) (n c : Nat) => Lib.run_eql_slice_nil (P := Trym.prog) w 26 67 a n c 0 0 Trym.underlying26
  have HL : Hid (Bs.length = len) := hl
  clear hl
  go_enter Trym.func23, Trym.ntmps23
  go_wp2
  clear hmk hnil
  go_loopw [4] (fun i wr => ∃ k : Nat, k ≤ len ∧ i = .int .i64 k ∧ Filled wr w.heap.size 64 7 len k (Bs.map ZB.cells) ∧ Below w.heap.size w wr) (fun i _ => len - (intOf i).toNat)
  case atStart => exact ⟨0, Nat.zero_le _, rfl, Filled.start w _ 64 7 len _, (Below.refl _ _).alloc (Nat.le_refl _) _⟩
  case round =>
    obtain ⟨k, hk, rfl, hF, hB⟩ := hrel
    have hsz := hB.size
    by_cases hlt : k < len
    · obtain rfl := ha (by omega)
      obtain ⟨x, hx⟩ : ∃ x, Bs[k]? = some x := ⟨_, List.getElem?_eq_getElem (by rw [HL.out]; exact hlt)⟩
      have hxc : (Bs.map ZB.cells)[k]? = some x.cells := by rw [List.getElem?_map, hx]; rfl
      obtain ⟨p0, p1, p2, p3, p4, p5, p6⟩ := range7 (rangeAt_below (hr k _ hxc) (hB.mono (Nat.le_refl _)) (Nat.le_refl _))
      have HX : Hid ((Bs.map ZB.cells)[k]? = some x.cells) := hxc
      clear hr hxc hx ha
      go_wp2_with fail
      refine (zzBroadcast_any _ _ _ _ _ _ _ _).mono ?_
      rintro e w1 ⟨rfl, hb1⟩
      have hF1 := hF.below hb1 (Nat.le_refl _)
      have hB1 : Below w.heap.size w w1 := hB.trans (hb1.mono hsz)
      clear p0 p1 p2 p3 p4 p5 p6 hF hB hb1
      have ht := hF1.there hlt
      have hS := hF1.step hlt HX.out (ZB.len Bs)
      have hB2 := below_setCells w.heap.size (Nat.le_refl _) x.cells (k * 7) w1 hB1
      have HS : Hid (Filled (w1.setCells w.heap.size (k * 7) x.cells) w.heap.size 64 7 len (k + 1) (Bs.map ZB.cells)) := hS
      clear hS hF1 hB1
      go_wp2_with ((with_reducible refine wpList_store_mid ?_ 64 (.tmp 23) (.tmp 22) ?_ w.heap.size (k * 7) x.cells.toArray ?_ ?_ ?_ ?_ ?_ ?_); exact rfl; exact rfl; exact rfl; exact rfl; exact ht; exact (size_of Trym.info64); exact all_oneCell_toArray x.one)
      go_roundw
      case rel => exact ⟨k + 1, by omega, by go_num, HS.out, hB2⟩
      case measure => simp [intOf]; omega
    · have hkl : k = len := by omega
      subst hkl
      clear hr ha
      go_wp2
      go_ret
      exact ⟨rfl, hF.sl (by rw [List.length_map]; exact HL.out) (by omega), hB⟩

theorem zzBroadcasts_any (Bs : List ZB) (v : Value) (w : World) (hm : Bs.length ≤ 65536) (h : Sl w v 7 (Bs.map ZB.cells)) :
    Calls Trym.prog 23 #[v] w fun e w' => ∃ v', e = .returned v' ∧ Sl w' v' 7 (Bs.map ZB.cells) ∧ isNil v' = isNil v ∧ Below w.heap.size w w' := by
  obtain ⟨ao, cap, b, off, rfl, hao, hno, hlc, hcm, hr⟩ := h
  cases ao with
  | none =>
    have h0 : (Bs.map ZB.cells).length = 0 := by
      rcases Nat.eq_zero_or_pos (Bs.map ZB.cells).length with h | h
      · exact h
      · exact absurd (hao h) (by simp)
    refine (zzBroadcasts_nil _ cap w).mono fun e w' ⟨he, hw⟩ => ⟨_, he, ?_, rfl, hw ▸ Below.refl _ _⟩
    exact ⟨none, 0, b, off, by rw [h0], fun h => by omega, fun _ => rfl, by omega, by omega, fun i cs hi => by
      have := (List.getElem?_eq_some_iff.1 hi).1
      omega⟩
  | some a =>
    rw [List.length_map] at hao hlc ⊢
    exact (zzBroadcasts_some Bs a b off _ cap w hm rfl (fun h => by simpa using hao h) hr).mono fun e w' ⟨he, h1, h2⟩ => ⟨_, he, h1, rfl, h2⟩

theorem ZL.len (Ls : List ZL) : ∀ x ∈ Ls.map ZL.cells, x.length = 7 := by
  intro x hx
  obtain ⟨y, _, rfl⟩ := List.mem_map.1 hx
  rfl
theorem ZL.one (x : ZL) : ∀ v ∈ x.cells, v.oneCell' = true := by
  intro v hv
  simp [ZL.cells] at hv
  rcases hv with rfl | rfl | rfl | rfl | rfl | rfl | rfl <;> rfl

set_option maxHeartbeats 400000 in
theorem zzLoads_nil (len cap : Nat) (w : World) :
    Calls Trym.prog 24 #[.slice none len cap] w fun e w' => e = .returned (.slice none 0 0) ∧ w' = w := by
  have hnil := fun (w : World) (a : Option Addr) (n c : Nat) => Lib.run_eql_slice_nil (P := Trym.prog) w 27 74 a n c 0 0 Trym.underlying27
  go_enter Trym.func24, Trym.ntmps24
  go_wp2
  go_ret
  exact ⟨rfl, rfl⟩

set_option maxRecDepth 100000 in
set_option maxHeartbeats 1600000 in
theorem zzLoads_some (Ls : List ZL) (a : Addr) (b off len cap : Nat) (w : World) (hm : len ≤ 65536) (hl : Ls.length = len) (ha : 0 < len → a = ⟨b, off, none⟩)
    (hr : ∀ i cs, (Ls.map ZL.cells)[i]? = some cs → w.rangeAt b (off + i * 7) cs) :
    Calls Trym.prog 24 #[.slice (some a) len cap] w fun e w' => e = .returned (.slice (some ⟨w.heap.size, 0, none⟩) len len) ∧ Sl w' (.slice (some ⟨w.heap.size, 0, none⟩) len len) 7 (Ls.map ZL.cells) ∧ Below w.heap.size w w' := by
  have hmk := make_eq Trym.underlying37 Trym.info71 len (by omega) (by omega)
  have hnil := fun (w : World) (a : Option Addr) (n c : Nat) => Lib.run_eql_slice_nil (P := Trym.prog) w 27 74 a n c 0 0 Trym.underlying27
  have HL : Hid (Ls.length = len) := hl
  clear hl
  go_enter Trym.func24, Trym.ntmps24
  go_wp2
  clear hmk hnil
  go_loopw [4] (fun i wr => ∃ k : Nat, k ≤ len ∧ i = .int .i64 k ∧ Filled wr w.heap.size 71 7 len k (Ls.map ZL.cells) ∧ Below w.heap.size w wr) (fun i _ => len - (intOf i).toNat)
  case atStart => exact ⟨0, Nat.zero_le _, rfl, Filled.start w _ 71 7 len _, (Below.refl _ _).alloc (Nat.le_refl _) _⟩
  case round =>
    obtain ⟨k, hk, rfl, hF, hB⟩ := hrel
    have hsz := hB.size
    by_cases hlt : k < len
    · obtain rfl := ha (by omega)
      obtain ⟨x, hx⟩ : ∃ x, Ls[k]? = some x := ⟨_, List.getElem?_eq_getElem (by rw [HL.out]; exact hlt)⟩
      have hxc : (Ls.map ZL.cells)[k]? = some x.cells := by rw [List.getElem?_map, hx]; rfl
      obtain ⟨p0, p1, p2, p3, p4, p5, p6⟩ := range7 (rangeAt_below (hr k _ hxc) (hB.mono (Nat.le_refl _)) (Nat.le_refl _))
      have HX : Hid ((Ls.map ZL.cells)[k]? = some x.cells) := hxc
      clear hr hxc hx ha
      go_wp2_with fail
      refine (zzLoad_any _ _ _ _ _ _ _ _).mono ?_
      rintro e w1 ⟨rfl, hb1⟩
      have hF1 := hF.below hb1 (Nat.le_refl _)
      have hB1 : Below w.heap.size w w1 := hB.trans (hb1.mono hsz)
      clear p0 p1 p2 p3 p4 p5 p6 hF hB hb1
      have ht := hF1.there hlt
      have hS := hF1.step hlt HX.out (ZL.len Ls)
      have hB2 := below_setCells w.heap.size (Nat.le_refl _) x.cells (k * 7) w1 hB1
      have HS : Hid (Filled (w1.setCells w.heap.size (k * 7) x.cells) w.heap.size 71 7 len (k + 1) (Ls.map ZL.cells)) := hS
      clear hS hF1 hB1
      go_wp2_with ((with_reducible refine wpList_store_mid ?_ 71 (.tmp 23) (.tmp 22) ?_ w.heap.size (k * 7) x.cells.toArray ?_ ?_ ?_ ?_ ?_ ?_); exact rfl; exact rfl; exact rfl; exact rfl; exact ht; exact (size_of Trym.info71); exact all_oneCell_toArray x.one)
      go_roundw
      case rel => exact ⟨k + 1, by omega, by go_num, HS.out, hB2⟩
      case measure => simp [intOf]; omega
    · have hkl : k = len := by omega
      subst hkl
      clear hr ha
      go_wp2
      go_ret
      exact ⟨rfl, hF.sl (by rw [List.length_map]; exact HL.out) (by omega), hB⟩

theorem zzLoads_any (Ls : List ZL) (v : Value) (w : World) (hm : Ls.length ≤ 65536) (h : Sl w v 7 (Ls.map ZL.cells)) :
    Calls Trym.prog 24 #[v] w fun e w' => ∃ v', e = .returned v' ∧ Sl w' v' 7 (Ls.map ZL.cells) ∧ isNil v' = isNil v ∧ Below w.heap.size w w' := by
  obtain ⟨ao, cap, b, off, rfl, hao, hno, hlc, hcm, hr⟩ := h
  cases ao with
  | none =>
    have h0 : (Ls.map ZL.cells).length = 0 := by
      rcases Nat.eq_zero_or_pos (Ls.map ZL.cells).length with h | h
      · exact h
      · exact absurd (hao h) (by simp)
    refine (zzLoads_nil _ cap w).mono fun e w' ⟨he, hw⟩ => ⟨_, he, ?_, rfl, hw ▸ Below.refl _ _⟩
    exact ⟨none, 0, b, off, by rw [h0], fun h => by omega, fun _ => rfl, by omega, by omega, fun i cs hi => by
      have := (List.getElem?_eq_some_iff.1 hi).1
      omega⟩
  | some a =>
    rw [List.length_map] at hao hlc ⊢
    exact (zzLoads_some Ls a b off _ cap w hm rfl (fun h => by simpa using hao h) hr).mono fun e w' ⟨he, h1, h2⟩ => ⟨_, he, h1, rfl, h2⟩

end Go.Proofs.Qxb6614682aMods
