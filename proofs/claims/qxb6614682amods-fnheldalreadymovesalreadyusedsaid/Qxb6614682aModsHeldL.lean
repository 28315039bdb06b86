import Derived.Test.Qxb6614682aModsHeldK
namespace Go.Proofs.Qxb6614682aMods
open Go.RowKit
set_option linter.unusedVariables false

theorem Seen.mk' {w2 w3 : World} {t m s c : Int} {p q : Option Addr} {x : Option Int} {ac : Option Addr} {nc cc : Nat} {af : Option Addr} {nf cf : Nat} {ab : Option Addr} {nb cb : Nat} {al : Option Addr} {nl cl : Nat}
    {oc : Option Addr} {kc : Nat} {of : Option Addr} {kf : Nat} {ob : Option Addr} {kb : Nat} {ol : Option Addr} {kl : Nat} {vc2 vf2 : Value} {Cs : List ZC} {Fs : List ZF} {Bs : List ZB} {Ls : List ZL}
    (h : In w2 p x (.slice ac nc cc) (.slice af nf cf) (.slice ab nb cb) (.slice al nl cl) Cs Fs Bs Ls) (h2 : In w2 q x vc2 vf2 (.slice ob Bs.length kb) (.slice ol Ls.length kl) Cs Fs Bs Ls)
    (nB : ob.isNone = ab.isNone) (nL : ol.isNone = al.isNone) (b3 : Below w2.heap.size w2 w3)
    (C3 : Sl w3 (.slice oc (Cs.length + (moved Fs).length) kc) 5 ((Cs ++ moved Fs).map ZC.cells)) (F3 : w3.ownsRow w2.heap.size 58 6 (.slice of (kept Fs).length kf) (kept Fs).length ((kept Fs).map ZF.cells).flatten) :
    Seen (w3.alloc (.cells #[.int .u8 t, .int .u16 m, .int .u16 s, .int .u8 c, .pointer q, .slice oc (Cs.length + (moved Fs).length) kc, .slice of (kept Fs).length kf, .slice ob Bs.length kb, .slice ol Ls.length kl] 39)) w3.heap.size t m s c p q x ac nc af nf ab Bs.length al Ls.length oc (Cs.length + (moved Fs).length) kc of (kept Fs).length kf ob kb ol kl Cs Fs Bs Ls := by
  have I1 := h.below b3 (Nat.le_refl _)
  have I2 := h2.below b3 (Nat.le_refl _)
  have ba : Below w3.heap.size w3 (w3.alloc (.cells #[.int .u8 t, .int .u16 m, .int .u16 s, .int .u8 c, .pointer q, .slice oc (Cs.length + (moved Fs).length) kc, .slice of (kept Fs).length kf, .slice ob Bs.length kb, .slice ol Ls.length kl] 39)) := (Below.refl _ _).alloc (Nat.le_refl _) _
  have I1' := I1.below ba (Nat.le_refl _)
  have I2' := I2.below ba (Nat.le_refl _)
  have F3' : w3.ownsRow w2.heap.size 58 6 (.slice of (kept Fs).length kf) ((kept Fs).map ZF.cells).length ((kept Fs).map ZF.cells).flatten := by rw [List.length_map]; exact F3
  have vb := I1'.b.view
  have vl := I1'.l.view
  obtain ⟨e1, _⟩ := vb
  obtain ⟨e2, _⟩ := vl
  subst e1 e2
  exact ⟨heap_alloc_new w3 _, I1'.p, I2'.p, I1'.c.view, I1'.f.view, I1'.b.view, I1'.l.view, (C3.below ba (Nat.le_refl _)).view, ((sl_of_owns F3' (ZF.len _)).below ba (Nat.le_refl _)).view, I2'.b.view, I2'.l.view, nB, nL⟩

/-- .. and what is left of it behind the header. -/
structure Seen2 (w : World) (M : Nat) (ac : Option Addr) (nc : Nat) (af : Option Addr) (nf : Nat) (ab : Option Addr) (nb : Nat) (al : Option Addr) (nl : Nat)
    (oc : Option Addr) (mc kc : Nat) (of : Option Addr) (mf kf : Nat) (ob : Option Addr) (kb : Nat) (ol : Option Addr) (kl : Nat) (Cs : List ZC) (Fs : List ZF) (Bs : List ZB) (Ls : List ZL) : Prop where
  h5 : w.cell? ⟨M, 5, none⟩ = some (.slice oc mc kc)
  h6 : w.cell? ⟨M, 6, none⟩ = some (.slice of mf kf)
  h7 : w.cell? ⟨M, 7, none⟩ = some (.slice ob nb kb)
  h8 : w.cell? ⟨M, 8, none⟩ = some (.slice ol nl kl)
  hc : View w ac nc 5 ZC.cells Cs
  hf : View w af nf 6 ZF.cells Fs
  hb : View w ab nb 7 ZB.cells Bs
  hl : View w al nl 7 ZL.cells Ls
  hoc : View w oc mc 5 ZC.cells (Cs ++ moved Fs)
  hof : View w of mf 6 ZF.cells (kept Fs)
  hob : View w ob nb 7 ZB.cells Bs
  hol : View w ol nl 7 ZL.cells Ls
  hnb : ob.isNone = ab.isNone
  hnl : ol.isNone = al.isNone
theorem Seen.to2 {w : World} {M : Nat} {t m s c : Int} {p q : Option Addr} {x : Option Int} {ac : Option Addr} {nc : Nat} {af : Option Addr} {nf : Nat} {ab : Option Addr} {nb : Nat} {al : Option Addr} {nl : Nat}
    {oc : Option Addr} {mc kc : Nat} {of : Option Addr} {mf kf : Nat} {ob : Option Addr} {kb : Nat} {ol : Option Addr} {kl : Nat} {Cs : List ZC} {Fs : List ZF} {Bs : List ZB} {Ls : List ZL}
    (h : Seen w M t m s c p q x ac nc af nf ab nb al nl oc mc kc of mf kf ob kb ol kl Cs Fs Bs Ls) : Seen2 w M ac nc af nf ab nb al nl oc mc kc of mf kf ob kb ol kl Cs Fs Bs Ls :=
  ⟨blk_cell h.hblk rfl, blk_cell h.hblk rfl, blk_cell h.hblk rfl, blk_cell h.hblk rfl, h.hc, h.hf, h.hb, h.hl, h.hoc, h.hof, h.hob, h.hol, h.hnb, h.hnl⟩
theorem cell_below {w w' : World} {a : Addr} {v : Value} {N : Nat} (h : w.cell? a = some v) (hb : Below N w w') (hN : w.heap.size ≤ N) : w'.cell? a = some v :=
  (hb.cell (Nat.lt_of_lt_of_le (World.block_lt_of_cell? w _ h) hN)).trans h
theorem Seen2.below {w w' : World} {M : Nat} {ac : Option Addr} {nc : Nat} {af : Option Addr} {nf : Nat} {ab : Option Addr} {nb : Nat} {al : Option Addr} {nl : Nat}
    {oc : Option Addr} {mc kc : Nat} {of : Option Addr} {mf kf : Nat} {ob : Option Addr} {kb : Nat} {ol : Option Addr} {kl : Nat} {Cs : List ZC} {Fs : List ZF} {Bs : List ZB} {Ls : List ZL} {N : Nat}
    (h : Seen2 w M ac nc af nf ab nb al nl oc mc kc of mf kf ob kb ol kl Cs Fs Bs Ls) (hb : Below N w w') (hN : w.heap.size ≤ N) : Seen2 w' M ac nc af nf ab nb al nl oc mc kc of mf kf ob kb ol kl Cs Fs Bs Ls :=
  ⟨cell_below h.h5 hb hN, cell_below h.h6 hb hN, cell_below h.h7 hb hN, cell_below h.h8 hb hN, h.hc.below hb hN, h.hf.below hb hN, h.hb.below hb hN, h.hl.below hb hN, h.hoc.below hb hN, h.hof.below hb hN, h.hob.below hb hN, h.hol.below hb hN, h.hnb, h.hnl⟩

theorem wrapA (a b : Nat) (ha : a ≤ 65536) (hb : b ≤ 65536) : IntKind.i64.wrap ((a : Int) + (b : Int)) = (a : Int) + (b : Int) := IntWalk.i64_in _ ⟨by omega, by omega⟩
theorem wrapB (a b : Nat) (ha : a ≤ 65536) (hb : b ≤ 65536) : wrap64 ((a : Int) + (b : Int)) = (a : Int) + (b : Int) := IntWalk.wrap64_in _ ⟨by omega, by omega⟩
theorem toNatA (a b : Nat) : ((a : Int) + (b : Int)).toNat = a + b := by omega
theorem new_cell (w : World) (cs : Array Value) (t : TypeId) (j : Nat) {v : Value} (h : cs[j]? = some v) : (w.alloc (.cells cs t)).cell? ⟨w.heap.size, j, none⟩ = some v := blk_cell (heap_alloc_new w (.cells cs t)) h
theorem split_at {α : Type} {L : List α} {k : Nat} {x : α} (h : L[k]? = some x) : L = L.take k ++ x :: L.drop (k + 1) := by
  obtain ⟨hk, rfl⟩ := List.getElem?_eq_some_iff.1 h
  rw [← List.drop_eq_getElem_cons hk, List.take_append_drop]
theorem moved_append (A B : List ZF) : moved (A ++ B) = moved A ++ moved B := by simp [moved]
theorem kept_append (A B : List ZF) : kept (A ++ B) = kept A ++ kept B := by simp [kept]
theorem moved_cons (f : ZF) (B : List ZF) (h : (f.z == 13) = true) : moved (f :: B) = f.x :: moved B := by simp [moved, h]
theorem kept_cons (f : ZF) (B : List ZF) (h : (f.z == 13) = false) : kept (f :: B) = f :: kept B := by simp [kept, h]
theorem moved_at {Fs : List ZF} {k : Nat} {f : ZF} (h : Fs[k]? = some f) (hz : (f.z == 13) = true) : (moved Fs)[(moved (Fs.take k)).length]? = some f.x := by
  have e := congrArg moved (split_at h)
  rw [moved_append, moved_cons _ _ hz] at e
  rw [e, List.getElem?_append_right (Nat.le_refl _)]
  simp
theorem kept_at {Fs : List ZF} {k : Nat} {f : ZF} (h : Fs[k]? = some f) (hz : (f.z == 13) = false) : (kept Fs)[(kept (Fs.take k)).length]? = some f := by
  have e := congrArg kept (split_at h)
  rw [kept_append, kept_cons _ _ hz] at e
  rw [e, List.getElem?_append_right (Nat.le_refl _)]
  simp

set_option maxRecDepth 100000 in
set_option maxHeartbeats 6400000 in
theorem lawA_in (t m s c : Int) (p : Option Addr) (x : Option Int) (ac : Option Addr) (cc : Nat) (af : Option Addr) (cf : Nat) (ab : Option Addr) (cb : Nat) (al : Option Addr) (cl : Nat) (Cs : List ZC) (Fs : List ZF) (Bs : List ZB) (Ls : List ZL) (w : World)
    (hI : In w p x (.slice ac Cs.length cc) (.slice af Fs.length cf) (.slice ab Bs.length cb) (.slice al Ls.length cl) Cs Fs Bs Ls)
    (h1 : Cs.length ≤ 65536) (h2 : Fs.length ≤ 65536) (h3 : Bs.length ≤ 65536) (h4 : Ls.length ≤ 65536) :
    Calls Trym.prog 3 #[.int .u8 t, .int .u16 m, .int .u16 s, .int .u8 c, .pointer p, .slice ac Cs.length cc, .slice af Fs.length cf, .slice ab Bs.length cb, .slice al Ls.length cl] w fun e w' => e = .returned (.bool true) ∧ Below w.heap.size w w' := by
  have D1 : decide ((65536 : Int) < Cs.length) = false := decide_eq_false (by omega)
  have D2 : decide ((65536 : Int) < Fs.length) = false := decide_eq_false (by omega)
  have D3 : decide ((65536 : Int) < Bs.length) = false := decide_eq_false (by omega)
  have D4 : decide ((65536 : Int) < Ls.length) = false := decide_eq_false (by omega)
  go_enter Trym.func3, Trym.ntmps3
  go_wp2_with fail
  refine (bytesA_any t m s c p ac _ cc af _ cf ab _ cb al _ cl Cs Fs Bs Ls w hI.c.view hI.f.view hI.b.view hI.l.view).mono ?_
  rintro e w0 ⟨⟨r, rfl⟩, hw⟩
  obtain rfl := hw.symm
  cases r with
  | false =>
    go_wp2
    go_ret
    exact ⟨rfl, Below.refl _ _⟩
  | true =>
    clear hw
    go_wp2_with fail
    refine (fits_any ac _ cc af _ cf ab _ cb al _ cl Cs Fs Bs Ls w h1 h2 h3 h4 hI.c.view hI.f.view hI.b.view hI.l.view).mono ?_
    rintro e w1 ⟨⟨r, rfl⟩, b1⟩
    cases r with
    | false =>
      go_wp2
      go_ret
      exact ⟨rfl, b1⟩
    | true =>
      have I1 := hI.below b1 (Nat.le_refl _)
      clear hI
      go_wp2_with fail
      refine (answer_any t m s c p x _ _ _ _ Cs Fs Bs Ls _ h1 h2 h3 h4 I1).mono ?_
      rintro e w2 ⟨q, ac1, cc1, af1, cf1, ob, kb, ol, kl, rfl, I2, nB, nL, b2⟩
      have I1' := I1.below b2 (Nat.le_refl _)
      have B2 := below_chain b1 b2
      have NB : Hid (ob.isNone = ab.isNone) := by rw [isNil_slice] at nB; exact nB
      have NL : Hid (ol.isNone = al.isNone) := by rw [isNil_slice] at nL; exact nL
      clear I1 b1 b2 nB nL
      go_wp2_with fail
      refine (zheld_any t m s c q ac1 _ cc1 af1 _ cf1 ob _ kb ol _ kl Cs Fs _ (by omega) (by omega) I2.c I2.f).mono ?_
      rintro e w3 ⟨oc, kc, of, kf, rfl, C3, F3, b3⟩
      have S0 := Seen.mk' (t := t) (m := m) (s := s) (c := c) I1' I2 NB.out NL.out b3 C3 F3
      have B3 := below_chain B2 b3
      have hmv := moved_le Fs
      have hkp := kept_le Fs
      clear I1' I2 NB NL C3 F3 B2 b3
      have hpq : (p = none ∧ q = none) ∨ ∃ b o b' o' v, p = some ⟨b, o, none⟩ ∧ q = some ⟨b', o', none⟩ ∧ (w3.alloc (.cells #[.int .u8 t, .int .u16 m, .int .u16 s, .int .u8 c, .pointer q, .slice oc (Cs.length + (moved Fs).length) kc, .slice of (kept Fs).length kf, .slice ob Bs.length kb, .slice ol Ls.length kl] 39)).cell? ⟨b, o, none⟩ = some (.int .u16 v) ∧ (w3.alloc (.cells #[.int .u8 t, .int .u16 m, .int .u16 s, .int .u8 c, .pointer q, .slice oc (Cs.length + (moved Fs).length) kc, .slice of (kept Fs).length kf, .slice ob Bs.length kb, .slice ol Ls.length kl] 39)).cell? ⟨b', o', none⟩ = some (.int .u16 v) := by
        have hp := S0.hp
        have hq := S0.hq
        rcases hp with ⟨rfl, rfl⟩ | ⟨b, o, v, rfl, rfl, hc⟩
        · rcases hq with ⟨_, rfl⟩ | ⟨_, _, _, h, _⟩
          · exact .inl ⟨rfl, rfl⟩
          · cases h
        · rcases hq with ⟨h, _⟩ | ⟨b', o', v', h, rfl, hc'⟩
          · cases h
          · cases h
            exact .inr ⟨b, o, b', o', v, rfl, rfl, hc, hc'⟩
      have BA : Below w.heap.size w (w3.alloc (.cells #[.int .u8 t, .int .u16 m, .int .u16 s, .int .u8 c, .pointer q, .slice oc (Cs.length + (moved Fs).length) kc, .slice of (kept Fs).length kf, .slice ob Bs.length kb, .slice ol Ls.length kl] 39)) := B3.alloc B3.size _
      clear B3
      rcases hpq with ⟨rfl, rfl⟩ | ⟨b, o, b', o', v, rfl, rfl, cp, cq⟩
      all_goals
        go_wp2_with fail
        go_quiet (fail)
        go_wp2_with fail
        have S1 := (S0.below (below_drewN (Below.refl _ _) nq) (Nat.le_refl _)).to2
        have BW := below_drewN BA nq
        clear S0 BA
        try clear cp cq
        go_loopw [21] (fun i wr => ∃ k : Nat, k ≤ Cs.length ∧ i = .int .i64 k ∧ Seen2 wr w3.heap.size ac Cs.length af Fs.length ab Bs.length al Ls.length oc (Cs.length + (moved Fs).length) kc of (kept Fs).length kf ob kb ol kl Cs Fs Bs Ls ∧ Below w.heap.size w wr) (fun i _ => Cs.length - (intOf i).toNat)
        case atStart => exact ⟨0, Nat.zero_le _, rfl, S1, BW⟩
        case round =>
          clear S1 BW
          obtain ⟨k0, hk0, rfl, S2, hb0⟩ := hrel
          have hszr := hb0.size
          by_cases hlt0 : k0 < Cs.length
          · obtain ⟨b1, o1, x1, e1, hx1, r1⟩ := S2.hc.at hlt0
            obtain ⟨b2, o2, x2, e2, hx2, r2⟩ := S2.hoc.at (k := k0) (by omega)
            rw [List.getElem?_append_left hlt0, hx1] at hx2
            cases hx2
            subst e1 e2
            have HS : Hid (∀ w', Below wr.heap.size wr w' → w'.cell? ⟨w3.heap.size, 5, none⟩ = some (.slice (some ⟨b2, o2, none⟩) (Cs.length + (moved Fs).length) kc) ∧ (w'.cell? ⟨b1, o1 + k0 * 5, none⟩ = some (.int .u8 x1.d) ∧ w'.cell? ⟨b1, o1 + k0 * 5 + 1, none⟩ = some (.string x1.m) ∧ w'.cell? ⟨b1, o1 + k0 * 5 + 2, none⟩ = some (.string x1.n) ∧ w'.cell? ⟨b1, o1 + k0 * 5 + 3, none⟩ = some (.int .u16 x1.l) ∧ w'.cell? ⟨b1, o1 + k0 * 5 + 4, none⟩ = some (.int .u16 x1.c)) ∧ (w'.cell? ⟨b2, o2 + k0 * 5, none⟩ = some (.int .u8 x1.d) ∧ w'.cell? ⟨b2, o2 + k0 * 5 + 1, none⟩ = some (.string x1.m) ∧ w'.cell? ⟨b2, o2 + k0 * 5 + 2, none⟩ = some (.string x1.n) ∧ w'.cell? ⟨b2, o2 + k0 * 5 + 3, none⟩ = some (.int .u16 x1.l) ∧ w'.cell? ⟨b2, o2 + k0 * 5 + 4, none⟩ = some (.int .u16 x1.c))) := fun w' hb' => ⟨cell_below S2.h5 hb' (Nat.le_refl _), range5 (rangeAt_below r1 hb' (Nat.le_refl _)), range5 (rangeAt_below r2 hb' (Nat.le_refl _))⟩
            have hi0 : (0 : Int) ≤ (k0 : Int) := Int.natCast_nonneg _
            have hi1 : (k0 : Int) < (Cs.length : Int) := by omega
            have hi2 : (k0 : Int) < (Cs.length : Int) + ((moved Fs).length : Int) := by omega
            clear r1 r2 hx1
            go_wp2_with fail
            go_region_held3 (fun w' => w'.cell? ⟨w3.heap.size, 5, none⟩ = some (.slice (some ⟨b2, o2, none⟩) (Cs.length + (moved Fs).length) kc) ∧ (w'.cell? ⟨b1, o1 + k0 * 5, none⟩ = some (.int .u8 x1.d) ∧ w'.cell? ⟨b1, o1 + k0 * 5 + 1, none⟩ = some (.string x1.m) ∧ w'.cell? ⟨b1, o1 + k0 * 5 + 2, none⟩ = some (.string x1.n) ∧ w'.cell? ⟨b1, o1 + k0 * 5 + 3, none⟩ = some (.int .u16 x1.l) ∧ w'.cell? ⟨b1, o1 + k0 * 5 + 4, none⟩ = some (.int .u16 x1.c)) ∧ (w'.cell? ⟨b2, o2 + k0 * 5, none⟩ = some (.int .u8 x1.d) ∧ w'.cell? ⟨b2, o2 + k0 * 5 + 1, none⟩ = some (.string x1.m) ∧ w'.cell? ⟨b2, o2 + k0 * 5 + 2, none⟩ = some (.string x1.n) ∧ w'.cell? ⟨b2, o2 + k0 * 5 + 3, none⟩ = some (.int .u16 x1.l) ∧ w'.cell? ⟨b2, o2 + k0 * 5 + 4, none⟩ = some (.int .u16 x1.c)))
              (first | exact HS.out _ ((Below.refl _ _).drew) | exact HS.out _ (((Below.refl _ _).drew).trans hb'))
              ((go_at_call 11; refine (zzCell_bel _ _ _ _ _ _).mono ?_; rintro e w' ⟨rfl, hb'⟩))
            have hb'' := ((Below.refl wr.heap.size wr).drew).trans hb'
            go_wp2_with fail
            go_roundw
            case rel => exact ⟨k0 + 1, by omega, by go_num, S2.below hb'' (Nat.le_refl _), hb0.trans (hb''.mono hszr)⟩
            case measure => simp [intOf]; omega
          · have hkl0 : k0 = Cs.length := by omega
            subst hkl0
            go_wp2_with fail
            go_loopw [22, 23, 24] (fun mv kp i wr => ∃ k mk kk : Nat, k ≤ Fs.length ∧ i = .int .i64 k ∧ mv = .int .i64 mk ∧ kp = .int .i64 kk ∧ Hid (mk = (moved (Fs.take k)).length ∧ kk = (kept (Fs.take k)).length) ∧ Seen2 wr w3.heap.size ac Cs.length af Fs.length ab Bs.length al Ls.length oc (Cs.length + (moved Fs).length) kc of (kept Fs).length kf ob kb ol kl Cs Fs Bs Ls ∧ Below w.heap.size w wr) (fun _ _ i _ => Fs.length - (intOf i).toNat)
            case atStart => exact ⟨0, 0, 0, Nat.zero_le _, rfl, rfl, rfl, ⟨by simp [moved], by simp [kept]⟩, S2, hb0⟩
            case round =>
              clear S2 hb0 hszr hlt0
              obtain ⟨k1, mk, kk, hk1, rfl, rfl, rfl, HM, S3, hb1⟩ := hrel
              have hszr := hb1.size
              by_cases hlt1 : k1 < Fs.length
              · obtain ⟨b1, o1, f, e1, hf, r1⟩ := S3.hf.at hlt1
                subst e1
                obtain ⟨p0, p1, p2, p3, p4, p5⟩ := range6 r1
                have ba1 : Below wr.heap.size wr (wr.alloc (.cells #[.int .u8 f.x.d, .string f.x.m, .string f.x.n, .int .u16 f.x.l, .int .u16 f.x.c, .int .u8 f.z] 55)) := (Below.refl _ _).alloc (Nat.le_refl _) _
                have S3' := S3.below ba1 (Nat.le_refl _)
                have hbw1 : Below w.heap.size w (wr.alloc (.cells #[.int .u8 f.x.d, .string f.x.m, .string f.x.n, .int .u16 f.x.l, .int .u16 f.x.c, .int .u8 f.z] 55)) := hb1.trans (ba1.mono hszr)
                have hszr1 := hbw1.size
                by_cases h13 : (f.z == 13) = true
                · have hat := moved_at hf h13
                  have hml := (List.getElem?_eq_some_iff.1 hat).1
                  rw [← HM.out.1] at hat hml
                  obtain ⟨b2, o2, x2, e2, hx2, r2⟩ := S3'.hoc.at (k := Cs.length + mk) (by omega)
                  rw [List.getElem?_append_right (by omega), show Cs.length + mk - Cs.length = mk by omega, hat] at hx2
                  cases hx2
                  subst e2
                  have HT : Hid (Fs.take (k1 + 1) = Fs.take k1 ++ [f]) := take_snoc hf
                  have HS : Hid (∀ w', Below (wr.alloc (.cells #[.int .u8 f.x.d, .string f.x.m, .string f.x.n, .int .u16 f.x.l, .int .u16 f.x.c, .int .u8 f.z] 55)).heap.size (wr.alloc (.cells #[.int .u8 f.x.d, .string f.x.m, .string f.x.n, .int .u16 f.x.l, .int .u16 f.x.c, .int .u8 f.z] 55)) w' → w'.cell? ⟨w3.heap.size, 5, none⟩ = some (.slice (some ⟨b2, o2, none⟩) (Cs.length + (moved Fs).length) kc) ∧ (w'.cell? ⟨b2, o2 + (Cs.length + mk) * 5, none⟩ = some (.int .u8 f.x.d) ∧ w'.cell? ⟨b2, o2 + (Cs.length + mk) * 5 + 1, none⟩ = some (.string f.x.m) ∧ w'.cell? ⟨b2, o2 + (Cs.length + mk) * 5 + 2, none⟩ = some (.string f.x.n) ∧ w'.cell? ⟨b2, o2 + (Cs.length + mk) * 5 + 3, none⟩ = some (.int .u16 f.x.l) ∧ w'.cell? ⟨b2, o2 + (Cs.length + mk) * 5 + 4, none⟩ = some (.int .u16 f.x.c)) ∧ (w'.cell? ⟨wr.heap.size, 0, none⟩ = some (.int .u8 f.x.d) ∧ w'.cell? ⟨wr.heap.size, 1, none⟩ = some (.string f.x.m) ∧ w'.cell? ⟨wr.heap.size, 2, none⟩ = some (.string f.x.n) ∧ w'.cell? ⟨wr.heap.size, 3, none⟩ = some (.int .u16 f.x.l) ∧ w'.cell? ⟨wr.heap.size, 4, none⟩ = some (.int .u16 f.x.c) ∧ w'.cell? ⟨wr.heap.size, 5, none⟩ = some (.int .u8 f.z))) := fun w' hb' => ⟨cell_below S3'.h5 hb' (Nat.le_refl _), range5 (rangeAt_below r2 hb' (Nat.le_refl _)), ⟨cell_below (new_cell wr #[.int .u8 f.x.d, .string f.x.m, .string f.x.n, .int .u16 f.x.l, .int .u16 f.x.c, .int .u8 f.z] 55 0 rfl) hb' (Nat.le_refl _), cell_below (new_cell wr #[.int .u8 f.x.d, .string f.x.m, .string f.x.n, .int .u16 f.x.l, .int .u16 f.x.c, .int .u8 f.z] 55 1 rfl) hb' (Nat.le_refl _), cell_below (new_cell wr #[.int .u8 f.x.d, .string f.x.m, .string f.x.n, .int .u16 f.x.l, .int .u16 f.x.c, .int .u8 f.z] 55 2 rfl) hb' (Nat.le_refl _), cell_below (new_cell wr #[.int .u8 f.x.d, .string f.x.m, .string f.x.n, .int .u16 f.x.l, .int .u16 f.x.c, .int .u8 f.z] 55 3 rfl) hb' (Nat.le_refl _), cell_below (new_cell wr #[.int .u8 f.x.d, .string f.x.m, .string f.x.n, .int .u16 f.x.l, .int .u16 f.x.c, .int .u8 f.z] 55 4 rfl) hb' (Nat.le_refl _), cell_below (new_cell wr #[.int .u8 f.x.d, .string f.x.m, .string f.x.n, .int .u16 f.x.l, .int .u16 f.x.c, .int .u8 f.z] 55 5 rfl) hb' (Nat.le_refl _)⟩⟩
                  have gd : decide ((Cs.length : Int) + ((moved Fs).length : Int) ≤ (Cs.length : Int) + (mk : Int)) = false := decide_eq_false (by omega)
                  have hmk6 : mk ≤ 65536 := by omega
                  have gd1 : decide ((moved Fs).length ≤ mk) = false := decide_eq_false (by omega)
                  have gd2 : decide (((moved Fs).length : Int) ≤ (mk : Int)) = false := decide_eq_false (by omega)
                  have gd3 : decide (Cs.length + (moved Fs).length ≤ Cs.length + mk) = false := decide_eq_false (by omega)
                  have hi0 : (0 : Int) ≤ (Cs.length : Int) + (mk : Int) := by omega
                  have hi2 : (Cs.length : Int) + (mk : Int) < (Cs.length : Int) + ((moved Fs).length : Int) := by omega
                  clear r1 r2 hat hf S3 hb1
                  have tn1 : ((Cs.length : Int) + (mk : Int)).toNat = Cs.length + mk := toNatA _ _
                  have wr1 : IntKind.i64.wrap ((Cs.length : Int) + (mk : Int)) = (Cs.length : Int) + (mk : Int) := wrapA _ _ h1 hmk6
                  have wr2 : wrap64 ((Cs.length : Int) + (mk : Int)) = (Cs.length : Int) + (mk : Int) := wrapB _ _ h1 hmk6
                  go_wp2_with fail
                  clear p0 p1 p2 p3 p4 p5
                  go_region_held3 (fun w' => w'.cell? ⟨w3.heap.size, 5, none⟩ = some (.slice (some ⟨b2, o2, none⟩) (Cs.length + (moved Fs).length) kc) ∧ (w'.cell? ⟨b2, o2 + (Cs.length + mk) * 5, none⟩ = some (.int .u8 f.x.d) ∧ w'.cell? ⟨b2, o2 + (Cs.length + mk) * 5 + 1, none⟩ = some (.string f.x.m) ∧ w'.cell? ⟨b2, o2 + (Cs.length + mk) * 5 + 2, none⟩ = some (.string f.x.n) ∧ w'.cell? ⟨b2, o2 + (Cs.length + mk) * 5 + 3, none⟩ = some (.int .u16 f.x.l) ∧ w'.cell? ⟨b2, o2 + (Cs.length + mk) * 5 + 4, none⟩ = some (.int .u16 f.x.c)) ∧ (w'.cell? ⟨wr.heap.size, 0, none⟩ = some (.int .u8 f.x.d) ∧ w'.cell? ⟨wr.heap.size, 1, none⟩ = some (.string f.x.m) ∧ w'.cell? ⟨wr.heap.size, 2, none⟩ = some (.string f.x.n) ∧ w'.cell? ⟨wr.heap.size, 3, none⟩ = some (.int .u16 f.x.l) ∧ w'.cell? ⟨wr.heap.size, 4, none⟩ = some (.int .u16 f.x.c) ∧ w'.cell? ⟨wr.heap.size, 5, none⟩ = some (.int .u8 f.z)))
                    (first | exact HS.out _ ((Below.refl _ _).drew) | exact HS.out _ (((Below.refl _ _).drew).trans hb'))
                    ((go_at_call 11; refine (zzCell_bel _ _ _ _ _ _).mono ?_; rintro e w' ⟨rfl, hb'⟩))
                  clear wr1 wr2 tn1
                  have hb'' := ((Below.refl (wr.alloc (.cells #[.int .u8 f.x.d, .string f.x.m, .string f.x.n, .int .u16 f.x.l, .int .u16 f.x.c, .int .u8 f.z] 55)).heap.size (wr.alloc (.cells #[.int .u8 f.x.d, .string f.x.m, .string f.x.n, .int .u16 f.x.l, .int .u16 f.x.c, .int .u8 f.z] 55))).drew).trans hb'
                  go_wp2_with fail
                  go_roundw
                  case rel => exact ⟨k1 + 1, mk + 1, kk, by omega, by go_num, by go_num, rfl, ⟨by rw [HT.out, moved_yes _ _ h13, List.length_append, HM.out.1]; rfl, by rw [HT.out, kept_yes _ _ h13]; exact HM.out.2⟩, S3'.below hb'' (Nat.le_refl _), hbw1.trans (hb''.mono hszr1)⟩
                  case measure => simp [intOf]; omega
                · have h13' : (f.z == 13) = false := by simpa using h13
                  clear h13
                  have hat := kept_at hf h13'
                  have hml := (List.getElem?_eq_some_iff.1 hat).1
                  rw [← HM.out.2] at hat hml
                  obtain ⟨b2, o2, x2, e2, hx2, r2⟩ := S3'.hof.at (k := kk) (by omega)
                  rw [hat] at hx2
                  cases hx2
                  subst e2
                  have HT : Hid (Fs.take (k1 + 1) = Fs.take k1 ++ [f]) := take_snoc hf
                  have HS : Hid (∀ w', Below (wr.alloc (.cells #[.int .u8 f.x.d, .string f.x.m, .string f.x.n, .int .u16 f.x.l, .int .u16 f.x.c, .int .u8 f.z] 55)).heap.size (wr.alloc (.cells #[.int .u8 f.x.d, .string f.x.m, .string f.x.n, .int .u16 f.x.l, .int .u16 f.x.c, .int .u8 f.z] 55)) w' → w'.cell? ⟨w3.heap.size, 6, none⟩ = some (.slice (some ⟨b2, o2, none⟩) (kept Fs).length kf) ∧ (w'.cell? ⟨b2, o2 + kk * 6, none⟩ = some (.int .u8 f.x.d) ∧ w'.cell? ⟨b2, o2 + kk * 6 + 1, none⟩ = some (.string f.x.m) ∧ w'.cell? ⟨b2, o2 + kk * 6 + 2, none⟩ = some (.string f.x.n) ∧ w'.cell? ⟨b2, o2 + kk * 6 + 3, none⟩ = some (.int .u16 f.x.l) ∧ w'.cell? ⟨b2, o2 + kk * 6 + 4, none⟩ = some (.int .u16 f.x.c) ∧ w'.cell? ⟨b2, o2 + kk * 6 + 5, none⟩ = some (.int .u8 f.z)) ∧ (w'.cell? ⟨wr.heap.size, 0, none⟩ = some (.int .u8 f.x.d) ∧ w'.cell? ⟨wr.heap.size, 1, none⟩ = some (.string f.x.m) ∧ w'.cell? ⟨wr.heap.size, 2, none⟩ = some (.string f.x.n) ∧ w'.cell? ⟨wr.heap.size, 3, none⟩ = some (.int .u16 f.x.l) ∧ w'.cell? ⟨wr.heap.size, 4, none⟩ = some (.int .u16 f.x.c) ∧ w'.cell? ⟨wr.heap.size, 5, none⟩ = some (.int .u8 f.z))) := fun w' hb' => ⟨cell_below S3'.h6 hb' (Nat.le_refl _), range6 (rangeAt_below r2 hb' (Nat.le_refl _)), ⟨cell_below (new_cell wr #[.int .u8 f.x.d, .string f.x.m, .string f.x.n, .int .u16 f.x.l, .int .u16 f.x.c, .int .u8 f.z] 55 0 rfl) hb' (Nat.le_refl _), cell_below (new_cell wr #[.int .u8 f.x.d, .string f.x.m, .string f.x.n, .int .u16 f.x.l, .int .u16 f.x.c, .int .u8 f.z] 55 1 rfl) hb' (Nat.le_refl _), cell_below (new_cell wr #[.int .u8 f.x.d, .string f.x.m, .string f.x.n, .int .u16 f.x.l, .int .u16 f.x.c, .int .u8 f.z] 55 2 rfl) hb' (Nat.le_refl _), cell_below (new_cell wr #[.int .u8 f.x.d, .string f.x.m, .string f.x.n, .int .u16 f.x.l, .int .u16 f.x.c, .int .u8 f.z] 55 3 rfl) hb' (Nat.le_refl _), cell_below (new_cell wr #[.int .u8 f.x.d, .string f.x.m, .string f.x.n, .int .u16 f.x.l, .int .u16 f.x.c, .int .u8 f.z] 55 4 rfl) hb' (Nat.le_refl _), cell_below (new_cell wr #[.int .u8 f.x.d, .string f.x.m, .string f.x.n, .int .u16 f.x.l, .int .u16 f.x.c, .int .u8 f.z] 55 5 rfl) hb' (Nat.le_refl _)⟩⟩
                  have gd : decide (((kept Fs).length : Int) ≤ (kk : Int)) = false := decide_eq_false (by omega)
                  have gd1 : decide ((kept Fs).length ≤ kk) = false := decide_eq_false (by omega)
                  have hi0 : (0 : Int) ≤ (kk : Int) := Int.natCast_nonneg _
                  have hi2 : (kk : Int) < ((kept Fs).length : Int) := by omega
                  clear r1 r2 hat hf S3 hb1
                  go_wp2_with fail
                  clear p0 p1 p2 p3 p4 p5
                  go_region_held3 (fun w' => w'.cell? ⟨w3.heap.size, 6, none⟩ = some (.slice (some ⟨b2, o2, none⟩) (kept Fs).length kf) ∧ (w'.cell? ⟨b2, o2 + kk * 6, none⟩ = some (.int .u8 f.x.d) ∧ w'.cell? ⟨b2, o2 + kk * 6 + 1, none⟩ = some (.string f.x.m) ∧ w'.cell? ⟨b2, o2 + kk * 6 + 2, none⟩ = some (.string f.x.n) ∧ w'.cell? ⟨b2, o2 + kk * 6 + 3, none⟩ = some (.int .u16 f.x.l) ∧ w'.cell? ⟨b2, o2 + kk * 6 + 4, none⟩ = some (.int .u16 f.x.c) ∧ w'.cell? ⟨b2, o2 + kk * 6 + 5, none⟩ = some (.int .u8 f.z)) ∧ (w'.cell? ⟨wr.heap.size, 0, none⟩ = some (.int .u8 f.x.d) ∧ w'.cell? ⟨wr.heap.size, 1, none⟩ = some (.string f.x.m) ∧ w'.cell? ⟨wr.heap.size, 2, none⟩ = some (.string f.x.n) ∧ w'.cell? ⟨wr.heap.size, 3, none⟩ = some (.int .u16 f.x.l) ∧ w'.cell? ⟨wr.heap.size, 4, none⟩ = some (.int .u16 f.x.c) ∧ w'.cell? ⟨wr.heap.size, 5, none⟩ = some (.int .u8 f.z)))
                    (first | exact HS.out _ ((Below.refl _ _).drew) | exact HS.out _ (((Below.refl _ _).drew).trans hb'))
                    ((go_at_call 12; refine (zzFailure_any _ _ _ _ _ _ _).mono ?_; rintro e w' ⟨rfl, hb'⟩))
                  have hb'' := ((Below.refl (wr.alloc (.cells #[.int .u8 f.x.d, .string f.x.m, .string f.x.n, .int .u16 f.x.l, .int .u16 f.x.c, .int .u8 f.z] 55)).heap.size (wr.alloc (.cells #[.int .u8 f.x.d, .string f.x.m, .string f.x.n, .int .u16 f.x.l, .int .u16 f.x.c, .int .u8 f.z] 55))).drew).trans hb'
                  go_wp2_with fail
                  go_roundw
                  case rel => exact ⟨k1 + 1, mk, kk + 1, by omega, by go_num, rfl, by go_num, ⟨by rw [HT.out, moved_no _ _ h13']; exact HM.out.1, by rw [HT.out, kept_no _ _ h13', List.length_append, HM.out.2]; rfl⟩, S3'.below hb'' (Nat.le_refl _), hbw1.trans (hb''.mono hszr1)⟩
                  case measure => simp [intOf]; omega
              · have hkl1 : k1 = Fs.length := by omega
                subst hkl1
                obtain ⟨hm1, hm2⟩ := HM.out
                rw [List.take_length] at hm1 hm2
                subst hm1 hm2
                have nb1 : ob.isNone = ab.isNone := S3.hnb
                have hn36 := fun (w : World) (a : Option Addr) (n c : Nat) => Lib.run_eql_slice_nil (P := Trym.prog) w 36 64 a n c 0 0 Trym.underlying36
                have hn26 := fun (w : World) (a : Option Addr) (n c : Nat) => Lib.run_eql_slice_nil (P := Trym.prog) w 26 67 a n c 0 0 Trym.underlying26
                have g5 := S3.h5
                have g6 := S3.h6
                have g7 := S3.h7
                go_wp2_with fail
                clear hn36 hn26 g5 g6 g7 nb1
                go_loopw [26] (fun i wr => ∃ k : Nat, k ≤ Bs.length ∧ i = .int .i64 k ∧ Seen2 wr w3.heap.size ac Cs.length af Fs.length ab Bs.length al Ls.length oc (Cs.length + (moved Fs).length) kc of (kept Fs).length kf ob kb ol kl Cs Fs Bs Ls ∧ Below w.heap.size w wr) (fun i _ => Bs.length - (intOf i).toNat)
                case atStart => exact ⟨0, Nat.zero_le _, rfl, S3, hb1⟩
                case round =>
                  clear S3 hb1 hszr hlt1
                  obtain ⟨k2, hk2, rfl, S4, hb2⟩ := hrel
                  have hszr := hb2.size
                  by_cases hlt2 : k2 < Bs.length
                  · obtain ⟨b1, o1, x1, e1, hx1, r1⟩ := S4.hb.at hlt2
                    obtain ⟨b2, o2, x2, e2, hx2, r2⟩ := S4.hob.at hlt2
                    rw [hx1] at hx2
                    cases hx2
                    subst e1 e2
                    have HS : Hid (∀ w', Below wr.heap.size wr w' → w'.cell? ⟨w3.heap.size, 7, none⟩ = some (.slice (some ⟨b2, o2, none⟩) Bs.length kb) ∧ (w'.cell? ⟨b1, o1 + k2 * 7, none⟩ = some (.int .u8 x1.x.d) ∧ w'.cell? ⟨b1, o1 + k2 * 7 + 1, none⟩ = some (.string x1.x.m) ∧ w'.cell? ⟨b1, o1 + k2 * 7 + 2, none⟩ = some (.string x1.x.n) ∧ w'.cell? ⟨b1, o1 + k2 * 7 + 3, none⟩ = some (.int .u16 x1.x.l) ∧ w'.cell? ⟨b1, o1 + k2 * 7 + 4, none⟩ = some (.int .u16 x1.x.c) ∧ w'.cell? ⟨b1, o1 + k2 * 7 + 5, none⟩ = some (.int .i64 x1.z) ∧ w'.cell? ⟨b1, o1 + k2 * 7 + 6, none⟩ = some (.int .u8 x1.y)) ∧ (w'.cell? ⟨b2, o2 + k2 * 7, none⟩ = some (.int .u8 x1.x.d) ∧ w'.cell? ⟨b2, o2 + k2 * 7 + 1, none⟩ = some (.string x1.x.m) ∧ w'.cell? ⟨b2, o2 + k2 * 7 + 2, none⟩ = some (.string x1.x.n) ∧ w'.cell? ⟨b2, o2 + k2 * 7 + 3, none⟩ = some (.int .u16 x1.x.l) ∧ w'.cell? ⟨b2, o2 + k2 * 7 + 4, none⟩ = some (.int .u16 x1.x.c) ∧ w'.cell? ⟨b2, o2 + k2 * 7 + 5, none⟩ = some (.int .i64 x1.z) ∧ w'.cell? ⟨b2, o2 + k2 * 7 + 6, none⟩ = some (.int .u8 x1.y))) := fun w' hb' => ⟨cell_below S4.h7 hb' (Nat.le_refl _), range7 (rangeAt_below r1 hb' (Nat.le_refl _)), range7 (rangeAt_below r2 hb' (Nat.le_refl _))⟩
                    have hi0 : (0 : Int) ≤ (k2 : Int) := Int.natCast_nonneg _
                    have hi1 : (k2 : Int) < (Bs.length : Int) := by omega
                    clear r1 r2 hx1
                    go_wp2_with fail
                    go_region_held3 (fun w' => w'.cell? ⟨w3.heap.size, 7, none⟩ = some (.slice (some ⟨b2, o2, none⟩) Bs.length kb) ∧ (w'.cell? ⟨b1, o1 + k2 * 7, none⟩ = some (.int .u8 x1.x.d) ∧ w'.cell? ⟨b1, o1 + k2 * 7 + 1, none⟩ = some (.string x1.x.m) ∧ w'.cell? ⟨b1, o1 + k2 * 7 + 2, none⟩ = some (.string x1.x.n) ∧ w'.cell? ⟨b1, o1 + k2 * 7 + 3, none⟩ = some (.int .u16 x1.x.l) ∧ w'.cell? ⟨b1, o1 + k2 * 7 + 4, none⟩ = some (.int .u16 x1.x.c) ∧ w'.cell? ⟨b1, o1 + k2 * 7 + 5, none⟩ = some (.int .i64 x1.z) ∧ w'.cell? ⟨b1, o1 + k2 * 7 + 6, none⟩ = some (.int .u8 x1.y)) ∧ (w'.cell? ⟨b2, o2 + k2 * 7, none⟩ = some (.int .u8 x1.x.d) ∧ w'.cell? ⟨b2, o2 + k2 * 7 + 1, none⟩ = some (.string x1.x.m) ∧ w'.cell? ⟨b2, o2 + k2 * 7 + 2, none⟩ = some (.string x1.x.n) ∧ w'.cell? ⟨b2, o2 + k2 * 7 + 3, none⟩ = some (.int .u16 x1.x.l) ∧ w'.cell? ⟨b2, o2 + k2 * 7 + 4, none⟩ = some (.int .u16 x1.x.c) ∧ w'.cell? ⟨b2, o2 + k2 * 7 + 5, none⟩ = some (.int .i64 x1.z) ∧ w'.cell? ⟨b2, o2 + k2 * 7 + 6, none⟩ = some (.int .u8 x1.y)))
                      (first | exact HS.out _ ((Below.refl _ _).drew) | exact HS.out _ (((Below.refl _ _).drew).trans hb'))
                      ((go_at_call 13; refine (zzBroadcast_any _ _ _ _ _ _ _ _).mono ?_; rintro e w' ⟨rfl, hb'⟩))
                    have hb'' := ((Below.refl wr.heap.size wr).drew).trans hb'
                    go_wp2_with fail
                    go_roundw
                    case rel => ((repeat apply Exists.intro); exact ⟨⟨k2 + 1, by omega, by go_num, S4.below hb'' (Nat.le_refl _), hb2.trans (hb''.mono hszr)⟩, rfl⟩)
                    case measure => simp [intOf]; omega
                  · have hkl2 : k2 = Bs.length := by omega
                    subst hkl2
                    have nl1 : ol.isNone = al.isNone := S4.hnl
                    have hn37 := fun (w : World) (a : Option Addr) (n c : Nat) => Lib.run_eql_slice_nil (P := Trym.prog) w 37 71 a n c 0 0 Trym.underlying37
                    have hn27 := fun (w : World) (a : Option Addr) (n c : Nat) => Lib.run_eql_slice_nil (P := Trym.prog) w 27 74 a n c 0 0 Trym.underlying27
                    have g8 := S4.h8
                    go_wp2_with fail
                    clear hn37 hn27 g8 nl1
                    go_loopw [27] (fun i wr => ∃ k : Nat, k ≤ Ls.length ∧ i = .int .i64 k ∧ Seen2 wr w3.heap.size ac Cs.length af Fs.length ab Bs.length al Ls.length oc (Cs.length + (moved Fs).length) kc of (kept Fs).length kf ob kb ol kl Cs Fs Bs Ls ∧ Below w.heap.size w wr) (fun i _ => Ls.length - (intOf i).toNat)
                    case atStart => exact ⟨0, Nat.zero_le _, rfl, S4, hb2⟩
                    case round =>
                      clear S4 hb2 hszr hlt2
                      obtain ⟨k3, hk3, rfl, S5, hb3⟩ := hrel
                      have hszr := hb3.size
                      by_cases hlt3 : k3 < Ls.length
                      · obtain ⟨b1, o1, x1, e1, hx1, r1⟩ := S5.hl.at hlt3
                        obtain ⟨b2, o2, x2, e2, hx2, r2⟩ := S5.hol.at hlt3
                        rw [hx1] at hx2
                        cases hx2
                        subst e1 e2
                        have HS : Hid (∀ w', Below wr.heap.size wr w' → w'.cell? ⟨w3.heap.size, 8, none⟩ = some (.slice (some ⟨b2, o2, none⟩) Ls.length kl) ∧ (w'.cell? ⟨b1, o1 + k3 * 7, none⟩ = some (.int .u8 x1.x.d) ∧ w'.cell? ⟨b1, o1 + k3 * 7 + 1, none⟩ = some (.string x1.x.m) ∧ w'.cell? ⟨b1, o1 + k3 * 7 + 2, none⟩ = some (.string x1.x.n) ∧ w'.cell? ⟨b1, o1 + k3 * 7 + 3, none⟩ = some (.int .u16 x1.x.l) ∧ w'.cell? ⟨b1, o1 + k3 * 7 + 4, none⟩ = some (.int .u16 x1.x.c) ∧ w'.cell? ⟨b1, o1 + k3 * 7 + 5, none⟩ = some (.int .i64 x1.z) ∧ w'.cell? ⟨b1, o1 + k3 * 7 + 6, none⟩ = some (.int .i64 x1.y)) ∧ (w'.cell? ⟨b2, o2 + k3 * 7, none⟩ = some (.int .u8 x1.x.d) ∧ w'.cell? ⟨b2, o2 + k3 * 7 + 1, none⟩ = some (.string x1.x.m) ∧ w'.cell? ⟨b2, o2 + k3 * 7 + 2, none⟩ = some (.string x1.x.n) ∧ w'.cell? ⟨b2, o2 + k3 * 7 + 3, none⟩ = some (.int .u16 x1.x.l) ∧ w'.cell? ⟨b2, o2 + k3 * 7 + 4, none⟩ = some (.int .u16 x1.x.c) ∧ w'.cell? ⟨b2, o2 + k3 * 7 + 5, none⟩ = some (.int .i64 x1.z) ∧ w'.cell? ⟨b2, o2 + k3 * 7 + 6, none⟩ = some (.int .i64 x1.y))) := fun w' hb' => ⟨cell_below S5.h8 hb' (Nat.le_refl _), range7 (rangeAt_below r1 hb' (Nat.le_refl _)), range7 (rangeAt_below r2 hb' (Nat.le_refl _))⟩
                        have hi0 : (0 : Int) ≤ (k3 : Int) := Int.natCast_nonneg _
                        have hi1 : (k3 : Int) < (Ls.length : Int) := by omega
                        clear r1 r2 hx1
                        go_wp2_with fail
                        go_region_held3 (fun w' => w'.cell? ⟨w3.heap.size, 8, none⟩ = some (.slice (some ⟨b2, o2, none⟩) Ls.length kl) ∧ (w'.cell? ⟨b1, o1 + k3 * 7, none⟩ = some (.int .u8 x1.x.d) ∧ w'.cell? ⟨b1, o1 + k3 * 7 + 1, none⟩ = some (.string x1.x.m) ∧ w'.cell? ⟨b1, o1 + k3 * 7 + 2, none⟩ = some (.string x1.x.n) ∧ w'.cell? ⟨b1, o1 + k3 * 7 + 3, none⟩ = some (.int .u16 x1.x.l) ∧ w'.cell? ⟨b1, o1 + k3 * 7 + 4, none⟩ = some (.int .u16 x1.x.c) ∧ w'.cell? ⟨b1, o1 + k3 * 7 + 5, none⟩ = some (.int .i64 x1.z) ∧ w'.cell? ⟨b1, o1 + k3 * 7 + 6, none⟩ = some (.int .i64 x1.y)) ∧ (w'.cell? ⟨b2, o2 + k3 * 7, none⟩ = some (.int .u8 x1.x.d) ∧ w'.cell? ⟨b2, o2 + k3 * 7 + 1, none⟩ = some (.string x1.x.m) ∧ w'.cell? ⟨b2, o2 + k3 * 7 + 2, none⟩ = some (.string x1.x.n) ∧ w'.cell? ⟨b2, o2 + k3 * 7 + 3, none⟩ = some (.int .u16 x1.x.l) ∧ w'.cell? ⟨b2, o2 + k3 * 7 + 4, none⟩ = some (.int .u16 x1.x.c) ∧ w'.cell? ⟨b2, o2 + k3 * 7 + 5, none⟩ = some (.int .i64 x1.z) ∧ w'.cell? ⟨b2, o2 + k3 * 7 + 6, none⟩ = some (.int .i64 x1.y)))
                          (first | exact HS.out _ ((Below.refl _ _).drew) | exact HS.out _ (((Below.refl _ _).drew).trans hb'))
                          ((go_at_call 14; refine (zzLoad_any _ _ _ _ _ _ _ _).mono ?_; rintro e w' ⟨rfl, hb'⟩))
                        have hb'' := ((Below.refl wr.heap.size wr).drew).trans hb'
                        go_wp2_with fail
                        go_roundw
                        case rel => ((repeat apply Exists.intro); exact ⟨⟨k3 + 1, by omega, by go_num, S5.below hb'' (Nat.le_refl _), hb3.trans (hb''.mono hszr)⟩, rfl⟩)
                        case measure => simp [intOf]; omega
                      · have hkl3 : k3 = Ls.length := by omega
                        subst hkl3
                        go_wp2
                        go_ret
                        exact ⟨rfl, hb3⟩
          
end Go.Proofs.Qxb6614682aMods
