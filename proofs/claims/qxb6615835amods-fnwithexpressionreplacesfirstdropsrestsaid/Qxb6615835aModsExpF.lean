import Derived.Test.Qxb6615835aModsExpE
namespace Go.Proofs.Qxb6615835aMods
open Go.RowKit
set_option linter.unusedVariables false

set_option maxRecDepth 100000 in
set_option maxHeartbeats 3200000 in
theorem law_long (ao : Option Addr) (n cap : Nat) (K : Nat → ByteArray) (key : ByteArray) (w : World) (hK : Keys w ao n K) (h : 65536 < n ∨ 1048576 < key.size) :
    Calls Trym.prog 3 #[.slice ao n cap, .string key] w fun e w' => e = .returned (.bool true) ∧ Below w.heap.size w w' := by
  have hV := bytes_any ao n cap K key w hK
  clear hK
  by_cases b1 : (65536 : Int) < n
  · have B1 : decide ((65536 : Int) < n) = true := decide_eq_true b1
    go_enter Trym.func3, Trym.ntmps3
    go_wp2_with fail
    refine hV.mono ?_
    rintro e w1 ⟨⟨r, rfl, -⟩, hw⟩
    obtain rfl := hw.symm
    cases r <;> (go_wp2; go_ret; exact ⟨rfl, Below.refl _ _⟩)
  · have B1 : decide ((65536 : Int) < n) = false := decide_eq_false b1
    have b2 : (1048576 : Int) < key.size := by omega
    have B2 : decide ((1048576 : Int) < key.size) = true := decide_eq_true b2
    go_enter Trym.func3, Trym.ntmps3
    go_wp2_with fail
    refine hV.mono ?_
    rintro e w1 ⟨⟨r, rfl, -⟩, hw⟩
    obtain rfl := hw.symm
    cases r <;> (go_wp2; go_ret; exact ⟨rfl, Below.refl _ _⟩)

theorem below_chain {a b c : World} (h : Below a.heap.size a b) (k : Below b.heap.size b c) : Below a.heap.size a c := h.trans (k.mono h.size)

set_option maxRecDepth 100000 in
set_option maxHeartbeats 6400000 in
theorem law_in (ao : Option Addr) (n cap : Nat) (K : Nat → ByteArray) (key : ByteArray) (w : World) (hnil : ao = none → n = 0 ∧ cap = 0) (hK : Keys w ao n K) (hn : n ≤ 65536) (hky : key.size ≤ 1048576) :
    Calls Trym.prog 3 #[.slice ao n cap, .string key] w fun e w' => e = .returned (.bool true) ∧ Below w.heap.size w w' := by
  have B1 : decide ((65536 : Int) < n) = false := decide_eq_false (by omega)
  have B2 : decide ((1048576 : Int) < key.size) = false := decide_eq_false (by omega)
  obtain ⟨i3, hi3, hz3, hs3, hy3⟩ := info_parts Trym.info3
  go_enter Trym.func3, Trym.ntmps3
  go_wp2_with fail
  refine (bytes_any ao n cap K key w hK).mono ?_
  rintro e w0 ⟨⟨r, rfl, hsz⟩, hw⟩
  obtain rfl := hw.symm
  cases r with
  | false =>
    go_wp2
    go_ret
    exact ⟨rfl, Below.refl _ _⟩
  | true =>
    clear hw
    have HSZ : Hid (∀ j, j < n → (K j).size ≤ 1048576) := hsz rfl
    clear hsz
    have hmk := make_eq Trym.underlying22 Trym.info9 n (by omega) (by omega)
    cases ao with
    | none =>
      obtain ⟨rfl, rfl⟩ := hnil rfl
      have K1 := hK
      have b1 : Below w.heap.size w w := Below.refl _ _
      clear hmk hK hnil
      go_wp2_with fail
      go_loop [6, 7] (fun t i => ∃ k : Nat, ∃ z : Int, k ≤ 0 ∧ i = .int .i64 k ∧ t = .int .i64 z ∧ 0 ≤ z ∧ z ≤ 1048576) (fun _ i => 0 - (intOf i).toNat)
      case atStart => exact ⟨0, (key.size : Int), Nat.zero_le _, rfl, rfl, by omega, by omega⟩
      case round =>
        obtain ⟨k, z, hk, rfl, rfl, hz0, hz1⟩ := hrel
        by_cases hlt : k < 0
        · exact absurd hlt (Nat.not_lt_zero _)
        · have hkl : 0 = k := by omega
          subst hkl
          go_wp2_with fail
          refine (zz_any none 0 0 K key w (by omega) K1).mono ?_
          rintro e w2 ⟨g1, g2, rfl, hout, b2⟩
          have B2 := below_chain b1 b2
          have K2 := K1.below b2 (Nat.le_refl _)
          clear b2 b1 K1
          go_wp2_with fail
          refine (first_any none 0 0 K key w2 (by omega) K2).mono ?_
          rintro e w3 ⟨hfo, hw⟩
          obtain rfl := hw.symm
          clear hw
          have hC : IntKind.i64.wrap ((0 : Int) + 1) = ((0 + 1 : Nat) : Int) := by rw [IntWalk.i64_in _ ⟨by omega, by omega⟩]; omega
          have hC' : wrap64 ((0 : Int) + 1) = ((0 + 1 : Nat) : Int) := by rw [IntWalk.wrap64_in _ ⟨by omega, by omega⟩]; omega
          have hby : i3.bytes * (0 + 1) ≤ 281474976710656 := by rw [hy3]; omega
          rcases hfo with ⟨rfl, hno⟩ | ⟨p, rfl, hp, hpe, hpb⟩
          · go_wp2_with ((refine wpList_make_own _ rfl _ _ 24 rfl w2.heap.size 3 i3 _ 1 Trym.underlying24 hi3 hz3 hs3 _ _ _ (0 + 1) rfl rfl (by omega) hby (by unfold maxLen; omega) (Nat.le_refl _) ?_); intro w4 own0 grow0)
            have B0 : Below w2.heap.size w2 w4 := (Below.refl _ _).grown grow0 (Nat.le_refl _) (fun k hk => by cases hk)
            clear grow0 hC hC' hby
            go_loopw [11, 12] (fun wv i wr => ∃ k : Nat, ∃ ao3 m cap3, k ≤ 0 ∧ i = .int .i64 k ∧ wv = .slice ao3 m cap3 ∧ m ≤ k ∧ Hid (m = (st K key k).1.length) ∧ wr.ownsRow w2.heap.size 3 1 (.slice ao3 m cap3) m ((st K key k).1.map (Value.int .i64)) ∧ Below w2.heap.size w2 wr) (fun _ i _ => 0 - (intOf i).toNat)
            case atStart => exact ⟨0, _, _, _, Nat.zero_le _, rfl, rfl, Nat.le_refl _, rfl, own0, B0⟩
            case round =>
              clear own0 B0
              obtain ⟨k, ao3, m, cap3, hk, rfl, rfl, hmk2, HM2, hown, hb⟩ := hrel
              have hsz := hb.size
              have HW : Hid (∀ o, (wr.alloc o).heap[wr.heap.size]? = some o) := fun o => heap_alloc_new wr o
              by_cases hlt : k < 0
              · exact absurd hlt (Nat.not_lt_zero _)
              · have hkl : 0 = k := by omega
                subst hkl
                have hf : Hid (fin K key 0 = (st K key 0).1 ++ [-1]) := by show _ = _; unfold fin; rw [if_neg (by rw [st_before _ hno]; exact Bool.false_ne_true)]
                go_wp2_with (at_builtin; refine wpList_append_lies _ rfl (.tmp 80) (.tmp 81) 24 rfl w2.heap.size 3 i3 _ 1 8 Trym.underlying24 hi3 hz3 hs3 hy3 rfl (by omega) (.slice ao3 m cap3) m ((st K key 0).1.map (Value.int .i64)) rfl (hown.alloc _) ⟨wr.heap.size, 0, none⟩ 1 1 [.int .i64 (-1)] rfl rfl (World.news_of_block (cs := #[.int .i64 (-1)]) (t := 3) (fr := (0, 0)) (HW.out _)) (one_int _) (by omega) (by unfold maxLen; omega) (by omega) (by simp; omega) (wr.heap.size + 1) (by simp) ?_)
                intro g cap' w5 hown' hgrow hat hlt1
                obtain ⟨ho, hb4⟩ := one_more_int hb hown hown' hgrow
                clear hown hown' hgrow hat hlt1 hb HW
                have hl : m + 1 = (fin K key 0).length := by rw [hf.out, List.length_append, ← HM2.out]; rfl
                rw [← hf.out, hl] at ho
                rw [hl]
                have C0 : Cmp w5 g1 g2 (some ⟨g, 0, none⟩) cap' none 0 K key (fin K key 0) w2.heap.size := ⟨fun j z hz => ⟨cell_below (hout j z hz).1 hb4 (Nat.le_refl _), cell_below (hout j z hz).2 hb4 (Nat.le_refl _)⟩, ho, K2.below hb4 (Nat.le_refl _)⟩
                have BB := below_chain B2 hb4
                have HFM : Hid (∀ z, z ∈ fin K key 0 → z = -1 ∨ (0 ≤ z ∧ z < (0 : Int))) := fun z hz => fin_mem hz
                have hfl := fin_len K key 0
                clear hout K2 B2 ho hb4
                obtain ⟨F, hF⟩ : ∃ F, F = fin K key 0 := ⟨_, rfl⟩
                rw [← hF] at C0 HFM hfl ⊢
                clear hF
                go_wp2_with fail
                go_loopw [15] (fun i wr => ∃ k : Nat, k ≤ F.length ∧ i = .int .i64 k ∧ Cmp wr g1 g2 (some ⟨g, 0, none⟩) cap' none 0 K key F w2.heap.size ∧ Below w.heap.size w wr) (fun i _ => F.length - (intOf i).toNat)
                case atStart => exact ⟨0, Nat.zero_le _, rfl, C0, BB⟩
                case round =>
                  clear C0 BB
                  obtain ⟨k, hk, rfl, C1, hb1⟩ := hrel
                  by_cases hlt : k < F.length
                  · obtain ⟨z, hz⟩ : ∃ z, F[k]? = some z := ⟨_, List.getElem?_eq_getElem hlt⟩
                    obtain ⟨c1, c2⟩ := C1.out k z hz
                    obtain ⟨g0, hao, c3⟩ := C1.row hz
                    cases hao
                    have hzm := HFM.out z (List.mem_of_getElem? hz)
                    have hi0 : (0 : Int) ≤ (k : Int) := Int.natCast_nonneg _
                    have hi1 : (k : Int) < (F.length : Int) := by omega
                    go_wp2_with fail
                    go_quiet (fail)
                    have q0 := below_drewN (Below.refl wr.heap.size wr) nq
                    have C2 := C1.below q0 (Nat.le_refl _)
                    have hb2 := below_drewN hb1 nq
                    clear q0
                    generalize wr.drewN nq = wq at C2 hb2 ⊢
                    obtain ⟨d1, d2⟩ := C2.out k z hz
                    obtain ⟨g9, hg9, d3⟩ := C2.row hz
                    cases hg9
                    clear c1 c2 c3 C1 hb1 hz
                    by_cases hneg : z < 0
                    · have E1 : decide (z < 0) = true := decide_eq_true hneg
                      have hks : ks K key z = key := by unfold ks; rw [if_pos hneg]
                      rw [hks] at d1
                      clear hks d2
                      go_wp2_with fail
                      go_roundw
                      case rel => exact ⟨k + 1, by omega, by go_num, C2, hb2⟩
                      case measure => simp [intOf]; omega
                    · exfalso; omega
                  · have hkl : k = F.length := by omega
                    subst hkl
                    go_wp2
                    go_ret
                    exact ⟨rfl, hb1⟩
          · exact absurd hp (Nat.not_lt_zero _)
    | some ad =>
      clear hnil
      go_wp2_with ((with_reducible refine wpList_copyK (w := w) ?_ (.tmp 33) (.tmp 34) ?_ ad n cap K ?_ ?_ hK ?_); exact rfl; exact rfl; exact rfl; exact rfl; intro w1 K1 b1)
      clear hmk hK
      go_loop [6, 7] (fun t i => ∃ k : Nat, ∃ z : Int, k ≤ n ∧ i = .int .i64 k ∧ t = .int .i64 z ∧ 0 ≤ z ∧ z ≤ 1048576) (fun _ i => n - (intOf i).toNat)
      case atStart => exact ⟨0, (key.size : Int), Nat.zero_le _, rfl, rfl, by omega, by omega⟩
      case round =>
        obtain ⟨k, z, hk, rfl, rfl, hz0, hz1⟩ := hrel
        by_cases hlt : k < n
        · obtain ⟨b, off, hak, hc⟩ := K1.at hlt
          cases hak
          rw [Nat.zero_add] at hc
          have hi0 : (0 : Int) ≤ (k : Int) := Int.natCast_nonneg _
          have hi1 : (k : Int) < (n : Int) := by omega
          have hs1 := HSZ.out k hlt
          obtain ⟨s, hs⟩ : ∃ s, s = K k := ⟨_, rfl⟩
          rw [← hs] at hc hs1
          clear hs
          have e1 : IntKind.i64.wrap (16 + (s.size : Int)) = 16 + (s.size : Int) := IntWalk.i64_in _ ⟨by omega, by omega⟩
          have e2 : wrap64 (16 + (s.size : Int)) = 16 + (s.size : Int) := IntWalk.wrap64_in _ ⟨by omega, by omega⟩
          have e3 : IntKind.i64.wrap (z + (16 + (s.size : Int))) = z + (16 + (s.size : Int)) := IntWalk.i64_in _ ⟨by omega, by omega⟩
          have e4 : wrap64 (z + (16 + (s.size : Int))) = z + (16 + (s.size : Int)) := IntWalk.wrap64_in _ ⟨by omega, by omega⟩
          by_cases h2 : (1048576 : Int) < z + (16 + (s.size : Int))
          · go_wp2
            go_ret
            exact ⟨rfl, b1⟩
          have h2' : decide ((1048576 : Int) < z + (16 + (s.size : Int))) = false := decide_eq_false h2
          go_wp2
          clear e1 e2 e3 e4
          go_round
          case rel => exact ⟨k + 1, z + (16 + (s.size : Int)), by omega, by go_num, rfl, by omega, by omega⟩
          case measure => simp [intOf]; omega
        · have hkl : n = k := by omega
          subst hkl
          go_wp2_with fail
          refine (zz_any (some ⟨w.heap.size, 0, none⟩) n n K key w1 (by omega) K1).mono ?_
          rintro e w2 ⟨g1, g2, rfl, hout, b2⟩
          have B2 := below_chain b1 b2
          have K2 := K1.below b2 (Nat.le_refl _)
          clear b2 b1 K1
          go_wp2_with fail
          refine (first_any (some ⟨w.heap.size, 0, none⟩) n n K key w2 (by omega) K2).mono ?_
          rintro e w3 ⟨hfo, hw⟩
          obtain rfl := hw.symm
          clear hw
          have hC : IntKind.i64.wrap ((n : Int) + 1) = ((n + 1 : Nat) : Int) := by rw [IntWalk.i64_in _ ⟨by omega, by omega⟩]; omega
          have hC' : wrap64 ((n : Int) + 1) = ((n + 1 : Nat) : Int) := by rw [IntWalk.wrap64_in _ ⟨by omega, by omega⟩]; omega
          have hby : i3.bytes * (n + 1) ≤ 281474976710656 := by rw [hy3]; omega
          rcases hfo with ⟨rfl, hno⟩ | ⟨p, rfl, hp, hpe, hpb⟩
          · go_wp2_with ((refine wpList_make_own _ rfl _ _ 24 rfl w2.heap.size 3 i3 _ 1 Trym.underlying24 hi3 hz3 hs3 _ _ _ (n + 1) rfl rfl (by omega) hby (by unfold maxLen; omega) (Nat.le_refl _) ?_); intro w4 own0 grow0)
            have B0 : Below w2.heap.size w2 w4 := (Below.refl _ _).grown grow0 (Nat.le_refl _) (fun k hk => by cases hk)
            clear grow0 hC hC' hby
            go_loopw [11, 12] (fun wv i wr => ∃ k : Nat, ∃ ao3 m cap3, k ≤ n ∧ i = .int .i64 k ∧ wv = .slice ao3 m cap3 ∧ m ≤ k ∧ Hid (m = (st K key k).1.length) ∧ wr.ownsRow w2.heap.size 3 1 (.slice ao3 m cap3) m ((st K key k).1.map (Value.int .i64)) ∧ Below w2.heap.size w2 wr) (fun _ i _ => n - (intOf i).toNat)
            case atStart => exact ⟨0, _, _, _, Nat.zero_le _, rfl, rfl, Nat.le_refl _, rfl, own0, B0⟩
            case round =>
              clear own0 B0
              obtain ⟨k, ao3, m, cap3, hk, rfl, rfl, hmk2, HM2, hown, hb⟩ := hrel
              have hsz := hb.size
              have HW : Hid (∀ o, (wr.alloc o).heap[wr.heap.size]? = some o) := fun o => heap_alloc_new wr o
              by_cases hlt : k < n
              · have hst : Hid (st K key (k + 1) = ((st K key k).1 ++ [(k : Int)], (st K key k).2)) := st_ne (hno k hlt)
                go_wp2_with (at_builtin; refine wpList_append_lies _ rfl (.tmp 76) (.tmp 78) 24 rfl w2.heap.size 3 i3 _ 1 8 Trym.underlying24 hi3 hz3 hs3 hy3 rfl (by omega) (.slice ao3 m cap3) m ((st K key k).1.map (Value.int .i64)) rfl (hown.alloc _) ⟨wr.heap.size, 0, none⟩ 1 1 [.int .i64 (k)] rfl rfl (World.news_of_block (cs := #[.int .i64 (k)]) (t := 3) (fr := (0, 0)) (HW.out _)) (one_int _) (by omega) (by unfold maxLen; omega) (by omega) (by simp; omega) (wr.heap.size + 1) (by simp) ?_)
                intro g cap' w5 hown' hgrow hat hlt1
                obtain ⟨ho, hb4⟩ := one_more_int hb hown hown' hgrow
                clear hown hown' hgrow hat hlt1 hb HW
                go_wp2_with fail
                go_roundw
                case rel => exact ⟨k + 1, _, _, _, by omega, by go_num, rfl, by omega, by show _ = _; rw [hst.out, List.length_append, HM2.out]; rfl, by rw [hst.out]; exact ho, hb4⟩
                case measure => simp [intOf]; omega
              · have hkl : n = k := by omega
                subst hkl
                have hf : Hid (fin K key n = (st K key n).1 ++ [-1]) := by show _ = _; unfold fin; rw [if_neg (by rw [st_before _ hno]; exact Bool.false_ne_true)]
                go_wp2_with (at_builtin; refine wpList_append_lies _ rfl (.tmp 80) (.tmp 81) 24 rfl w2.heap.size 3 i3 _ 1 8 Trym.underlying24 hi3 hz3 hs3 hy3 rfl (by omega) (.slice ao3 m cap3) m ((st K key n).1.map (Value.int .i64)) rfl (hown.alloc _) ⟨wr.heap.size, 0, none⟩ 1 1 [.int .i64 (-1)] rfl rfl (World.news_of_block (cs := #[.int .i64 (-1)]) (t := 3) (fr := (0, 0)) (HW.out _)) (one_int _) (by omega) (by unfold maxLen; omega) (by omega) (by simp; omega) (wr.heap.size + 1) (by simp) ?_)
                intro g cap' w5 hown' hgrow hat hlt1
                obtain ⟨ho, hb4⟩ := one_more_int hb hown hown' hgrow
                clear hown hown' hgrow hat hlt1 hb HW
                have hl : m + 1 = (fin K key n).length := by rw [hf.out, List.length_append, ← HM2.out]; rfl
                rw [← hf.out, hl] at ho
                rw [hl]
                have C0 : Cmp w5 g1 g2 (some ⟨g, 0, none⟩) cap' (some ⟨w.heap.size, 0, none⟩) n K key (fin K key n) w2.heap.size := ⟨fun j z hz => ⟨cell_below (hout j z hz).1 hb4 (Nat.le_refl _), cell_below (hout j z hz).2 hb4 (Nat.le_refl _)⟩, ho, K2.below hb4 (Nat.le_refl _)⟩
                have BB := below_chain B2 hb4
                have HFM : Hid (∀ z, z ∈ fin K key n → z = -1 ∨ (0 ≤ z ∧ z < (n : Int))) := fun z hz => fin_mem hz
                have hfl := fin_len K key n
                clear hout K2 B2 ho hb4
                obtain ⟨F, hF⟩ : ∃ F, F = fin K key n := ⟨_, rfl⟩
                rw [← hF] at C0 HFM hfl ⊢
                clear hF
                go_wp2_with fail
                go_loopw [15] (fun i wr => ∃ k : Nat, k ≤ F.length ∧ i = .int .i64 k ∧ Cmp wr g1 g2 (some ⟨g, 0, none⟩) cap' (some ⟨w.heap.size, 0, none⟩) n K key F w2.heap.size ∧ Below w.heap.size w wr) (fun i _ => F.length - (intOf i).toNat)
                case atStart => exact ⟨0, Nat.zero_le _, rfl, C0, BB⟩
                case round =>
                  clear C0 BB
                  obtain ⟨k, hk, rfl, C1, hb1⟩ := hrel
                  by_cases hlt : k < F.length
                  · obtain ⟨z, hz⟩ : ∃ z, F[k]? = some z := ⟨_, List.getElem?_eq_getElem hlt⟩
                    obtain ⟨c1, c2⟩ := C1.out k z hz
                    obtain ⟨g0, hao, c3⟩ := C1.row hz
                    cases hao
                    have hzm := HFM.out z (List.mem_of_getElem? hz)
                    have hi0 : (0 : Int) ≤ (k : Int) := Int.natCast_nonneg _
                    have hi1 : (k : Int) < (F.length : Int) := by omega
                    go_wp2_with fail
                    go_quiet (fail)
                    have q0 := below_drewN (Below.refl wr.heap.size wr) nq
                    have C2 := C1.below q0 (Nat.le_refl _)
                    have hb2 := below_drewN hb1 nq
                    clear q0
                    generalize wr.drewN nq = wq at C2 hb2 ⊢
                    obtain ⟨d1, d2⟩ := C2.out k z hz
                    obtain ⟨g9, hg9, d3⟩ := C2.row hz
                    cases hg9
                    clear c1 c2 c3 C1 hb1 hz
                    by_cases hneg : z < 0
                    · have E1 : decide (z < 0) = true := decide_eq_true hneg
                      have hks : ks K key z = key := by unfold ks; rw [if_pos hneg]
                      rw [hks] at d1
                      clear hks d2
                      go_wp2_with fail
                      go_roundw
                      case rel => exact ⟨k + 1, by omega, by go_num, C2, hb2⟩
                      case measure => simp [intOf]; omega
                    · have E1 : decide (z < 0) = false := decide_eq_false hneg
                      obtain ⟨zn, rfl⟩ := Int.eq_ofNat_of_zero_le (by omega : 0 ≤ z)
                      have hzn : zn < n := by omega
                      have hks : ks K key (zn : Int) = K zn := by unfold ks; rw [if_neg hneg]; simp
                      rw [hks] at d1
                      obtain ⟨b, off, hak, d4⟩ := C2.keys.at hzn
                      cases hak
                      rw [Nat.zero_add] at d4
                      have hj0 : (0 : Int) ≤ (zn : Int) := Int.natCast_nonneg _
                      have hj1 : (zn : Int) < (n : Int) := by omega
                      clear hks hzm
                      go_wp2_with fail
                      go_quiet (fail)
                      have C3 := C2.below (below_drewN (Below.refl _ _) nq) (Nat.le_refl _)
                      have hb3 := below_drewN hb2 nq
                      clear C2 hb2 d1 d2 d3 d4
                      go_wp2_with fail
                      go_roundw
                      case rel => exact ⟨k + 1, by omega, by go_num, C3, hb3⟩
                      case measure => simp [intOf]; omega
                  · have hkl : k = F.length := by omega
                    subst hkl
                    go_wp2
                    go_ret
                    exact ⟨rfl, hb1⟩
          · go_wp2_with ((refine wpList_make_own _ rfl _ _ 24 rfl w2.heap.size 3 i3 _ 1 Trym.underlying24 hi3 hz3 hs3 _ _ _ (n + 1) rfl rfl (by omega) hby (by unfold maxLen; omega) (Nat.le_refl _) ?_); intro w4 own0 grow0)
            have B0 : Below w2.heap.size w2 w4 := (Below.refl _ _).grown grow0 (Nat.le_refl _) (fun k hk => by cases hk)
            clear grow0 hC hC' hby
            go_loopw [11, 13] (fun wv i wr => ∃ k : Nat, ∃ ao3 m cap3, k ≤ p ∧ i = .int .i64 k ∧ wv = .slice ao3 m cap3 ∧ m ≤ k ∧ Hid (m = (st K key k).1.length) ∧ wr.ownsRow w2.heap.size 3 1 (.slice ao3 m cap3) m ((st K key k).1.map (Value.int .i64)) ∧ Below w2.heap.size w2 wr) (fun _ i _ => p - (intOf i).toNat)
            case atStart => exact ⟨0, _, _, _, Nat.zero_le _, rfl, rfl, Nat.le_refl _, rfl, own0, B0⟩
            case round =>
              clear own0 B0
              obtain ⟨k, ao3, m, cap3, hk, rfl, rfl, hmk2, HM2, hown, hb⟩ := hrel
              have hsz := hb.size
              have HW : Hid (∀ o, (wr.alloc o).heap[wr.heap.size]? = some o) := fun o => heap_alloc_new wr o
              by_cases hlt : k < p
              · have hst : Hid (st K key (k + 1) = ((st K key k).1 ++ [(k : Int)], (st K key k).2)) := st_ne (hpb k hlt)
                go_wp2_with (at_builtin; refine wpList_append_lies _ rfl (.tmp 88) (.tmp 90) 24 rfl w2.heap.size 3 i3 _ 1 8 Trym.underlying24 hi3 hz3 hs3 hy3 rfl (by omega) (.slice ao3 m cap3) m ((st K key k).1.map (Value.int .i64)) rfl (hown.alloc _) ⟨wr.heap.size, 0, none⟩ 1 1 [.int .i64 (k)] rfl rfl (World.news_of_block (cs := #[.int .i64 (k)]) (t := 3) (fr := (0, 0)) (HW.out _)) (one_int _) (by omega) (by unfold maxLen; omega) (by omega) (by simp; omega) (wr.heap.size + 1) (by simp) ?_)
                intro g cap' w5 hown' hgrow hat hlt1
                obtain ⟨ho, hb4⟩ := one_more_int hb hown hown' hgrow
                clear hown hown' hgrow hat hlt1 hb HW
                go_wp2_with fail
                go_roundw
                case rel => exact ⟨k + 1, _, _, _, by omega, by go_num, rfl, by omega, by show _ = _; rw [hst.out, List.length_append, HM2.out]; rfl, by rw [hst.out]; exact ho, hb4⟩
                case measure => simp [intOf]; omega
              · have hkl : p = k := by omega
                subst hkl
                have hst : Hid (st K key (p + 1) = ((st K key p).1 ++ [-1], true)) := st_first hpe (st_before p hpb)
                go_wp2_with (at_builtin; refine wpList_append_lies _ rfl (.tmp 92) (.tmp 93) 24 rfl w2.heap.size 3 i3 _ 1 8 Trym.underlying24 hi3 hz3 hs3 hy3 rfl (by omega) (.slice ao3 m cap3) m ((st K key p).1.map (Value.int .i64)) rfl (hown.alloc _) ⟨wr.heap.size, 0, none⟩ 1 1 [.int .i64 (-1)] rfl rfl (World.news_of_block (cs := #[.int .i64 (-1)]) (t := 3) (fr := (0, 0)) (HW.out _)) (one_int _) (by omega) (by unfold maxLen; omega) (by omega) (by simp; omega) (wr.heap.size + 1) (by simp) ?_)
                intro g cap' w5 hown' hgrow hat hlt1
                obtain ⟨ho, hb4⟩ := one_more_int hb hown hown' hgrow
                have own1 : w5.ownsRow w2.heap.size 3 1 (.slice (some ⟨g, 0, none⟩) (m + 1) cap') (m + 1) ((st K key (p + 1)).1.map (Value.int .i64)) := by rw [hst.out]; exact ho
                have HL1 : Hid (m + 1 = (st K key (p + 1)).1.length) := by show _ = _; rw [hst.out, List.length_append, HM2.out]; rfl
                have HPL : Hid ((st K key (p + 1)).2 = true) := by show _ = _; rw [hst.out]
                clear hown hown' hgrow hat hlt1 hb HW ho hst HM2 hsz hlt
                go_wp2_with fail
                go_loopw [11, 14] (fun wv i wr => ∃ k : Nat, ∃ ao3 m cap3, k ≤ n ∧ p + 1 ≤ k ∧ i = .int .i64 k ∧ wv = .slice ao3 m cap3 ∧ m ≤ k ∧ Hid (m = (st K key k).1.length) ∧ wr.ownsRow w2.heap.size 3 1 (.slice ao3 m cap3) m ((st K key k).1.map (Value.int .i64)) ∧ Below w2.heap.size w2 wr) (fun _ i _ => n - (intOf i).toNat)
                case atStart => exact ⟨p + 1, _, _, _, by omega, Nat.le_refl _, by go_num, rfl, by omega, HL1.out, own1, hb4⟩
                case round =>
                  clear own1 hb4 HL1 hmk2 hk
                  obtain ⟨k, ao3, m, cap3, hk, hpk, rfl, rfl, hmk2, HM2, hown, hb⟩ := hrel
                  have hsz := hb.size
                  have hpl : (st K key k).2 = true := by
                    have := st_after HPL.out (k - (p + 1))
                    rwa [show p + 1 + (k - (p + 1)) = k from by omega] at this
                  have HPK : Hid ((st K key k).2 = true) := hpl
                  clear hpl
                  have HW : Hid (∀ o, (wr.alloc o).heap[wr.heap.size]? = some o) := fun o => heap_alloc_new wr o
                  by_cases hlt : k < n
                  · obtain ⟨b, off, hak, hc⟩ := (K2.below hb (Nat.le_refl _)).at hlt
                    cases hak
                    rw [Nat.zero_add] at hc
                    have hi0 : (0 : Int) ≤ (k : Int) := Int.natCast_nonneg _
                    have hi1 : (k : Int) < (n : Int) := by omega
                    by_cases he : ((K k).toList == key.toList) = true
                    · have hst : Hid (st K key (k + 1) = st K key k) := st_again he HPK.out
                      go_wp2_with fail
                      go_roundw
                      case rel => exact ⟨k + 1, ao3, m, cap3, by omega, by omega, by go_num, rfl, by omega, by show _ = _; rw [hst.out]; exact HM2.out, by rw [hst.out]; exact hown, hb⟩
                      case measure => simp [intOf]; omega
                    · have he' : ((K k).toList == key.toList) = false := by simpa using he
                      have hst : Hid (st K key (k + 1) = ((st K key k).1 ++ [(k : Int)], (st K key k).2)) := st_ne he'
                      clear he
                      go_wp2_with (at_builtin; refine wpList_append_lies _ rfl (.tmp 109) (.tmp 111) 24 rfl w2.heap.size 3 i3 _ 1 8 Trym.underlying24 hi3 hz3 hs3 hy3 rfl (by omega) (.slice ao3 m cap3) m ((st K key k).1.map (Value.int .i64)) rfl (hown.alloc _) ⟨wr.heap.size, 0, none⟩ 1 1 [.int .i64 (k)] rfl rfl (World.news_of_block (cs := #[.int .i64 (k)]) (t := 3) (fr := (0, 0)) (HW.out _)) (one_int _) (by omega) (by unfold maxLen; omega) (by omega) (by simp; omega) (wr.heap.size + 1) (by simp) ?_)
                      intro g cap' w5 hown' hgrow hat hlt1
                      obtain ⟨ho, hb4⟩ := one_more_int hb hown hown' hgrow
                      clear hown hown' hgrow hat hlt1 hb HW
                      go_wp2_with fail
                      go_roundw
                      case rel => exact ⟨k + 1, _, _, _, by omega, by omega, by go_num, rfl, by omega, by show _ = _; rw [hst.out, List.length_append, HM2.out]; rfl, by rw [hst.out]; exact ho, hb4⟩
                      case measure => simp [intOf]; omega
                  · have hkl : n = k := by omega
                    subst hkl
                    have hf : fin K key n = (st K key n).1 := by unfold fin; rw [if_pos HPK.out]
                    have hl : m = (fin K key n).length := by rw [hf]; exact HM2.out
                    rw [← hf] at hown
                    clear hf HM2
                    subst hl
                    clear HW hsz hlt
                    have C0 : Cmp wr g1 g2 ao3 cap3 (some ⟨w.heap.size, 0, none⟩) n K key (fin K key n) w2.heap.size := ⟨fun j z hz => ⟨cell_below (hout j z hz).1 hb (Nat.le_refl _), cell_below (hout j z hz).2 hb (Nat.le_refl _)⟩, hown, K2.below hb (Nat.le_refl _)⟩
                    have BB := below_chain B2 hb
                    have HFM : Hid (∀ z, z ∈ fin K key n → z = -1 ∨ (0 ≤ z ∧ z < (n : Int))) := fun z hz => fin_mem hz
                    have hfl := fin_len K key n
                    clear hout K2 B2 hown hb
                    obtain ⟨F, hF⟩ : ∃ F, F = fin K key n := ⟨_, rfl⟩
                    rw [← hF] at C0 HFM hfl ⊢
                    clear hF
                    go_wp2_with fail
                    go_loopw [15] (fun i wr => ∃ k : Nat, k ≤ F.length ∧ i = .int .i64 k ∧ Cmp wr g1 g2 ao3 cap3 (some ⟨w.heap.size, 0, none⟩) n K key F w2.heap.size ∧ Below w.heap.size w wr) (fun i _ => F.length - (intOf i).toNat)
                    case atStart => exact ⟨0, Nat.zero_le _, rfl, C0, BB⟩
                    case round =>
                      clear C0 BB
                      obtain ⟨k, hk, rfl, C1, hb1⟩ := hrel
                      by_cases hlt : k < F.length
                      · obtain ⟨z, hz⟩ : ∃ z, F[k]? = some z := ⟨_, List.getElem?_eq_getElem hlt⟩
                        obtain ⟨c1, c2⟩ := C1.out k z hz
                        obtain ⟨g0, hao, c3⟩ := C1.row hz
                        cases hao
                        have hzm := HFM.out z (List.mem_of_getElem? hz)
                        have hi0 : (0 : Int) ≤ (k : Int) := Int.natCast_nonneg _
                        have hi1 : (k : Int) < (F.length : Int) := by omega
                        go_wp2_with fail
                        go_quiet (fail)
                        have q0 := below_drewN (Below.refl wr.heap.size wr) nq
                        have C2 := C1.below q0 (Nat.le_refl _)
                        have hb2 := below_drewN hb1 nq
                        clear q0
                        generalize wr.drewN nq = wq at C2 hb2 ⊢
                        obtain ⟨d1, d2⟩ := C2.out k z hz
                        obtain ⟨g9, hg9, d3⟩ := C2.row hz
                        cases hg9
                        clear c1 c2 c3 C1 hb1 hz
                        by_cases hneg : z < 0
                        · have E1 : decide (z < 0) = true := decide_eq_true hneg
                          have hks : ks K key z = key := by unfold ks; rw [if_pos hneg]
                          rw [hks] at d1
                          clear hks d2
                          go_wp2_with fail
                          go_roundw
                          case rel => exact ⟨k + 1, by omega, by go_num, C2, hb2⟩
                          case measure => simp [intOf]; omega
                        · have E1 : decide (z < 0) = false := decide_eq_false hneg
                          obtain ⟨zn, rfl⟩ := Int.eq_ofNat_of_zero_le (by omega : 0 ≤ z)
                          have hzn : zn < n := by omega
                          have hks : ks K key (zn : Int) = K zn := by unfold ks; rw [if_neg hneg]; simp
                          rw [hks] at d1
                          obtain ⟨b, off, hak, d4⟩ := C2.keys.at hzn
                          cases hak
                          rw [Nat.zero_add] at d4
                          have hj0 : (0 : Int) ≤ (zn : Int) := Int.natCast_nonneg _
                          have hj1 : (zn : Int) < (n : Int) := by omega
                          clear hks hzm
                          go_wp2_with fail
                          go_quiet (fail)
                          have C3 := C2.below (below_drewN (Below.refl _ _) nq) (Nat.le_refl _)
                          have hb3 := below_drewN hb2 nq
                          clear C2 hb2 d1 d2 d3 d4
                          go_wp2_with fail
                          go_roundw
                          case rel => exact ⟨k + 1, by omega, by go_num, C3, hb3⟩
                          case measure => simp [intOf]; omega
                      · have hkl : k = F.length := by omega
                        subst hkl
                        go_wp2
                        go_ret
                        exact ⟨rfl, hb1⟩
end Go.Proofs.Qxb6615835aMods
