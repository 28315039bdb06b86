import Derived.Test.Qxb6616257aModsInlA
namespace Go.Proofs.Qxb6616257aMods
open Go.RowKit
set_option linter.unusedVariables false

theorem wpList_build {ops : Array Oper} {rest : List Oper} {o : Oper} {a : Act} {w : World} {Q : Exit → Act → World → Prop} (hgd : o.guard = none) (t : TypeId) (parts : Array (Nat × Operand)) (hop : o.op = .build t parts)
    (P0 : Array (Nat × Value)) (hp : parts.map (fun x => (x.1, a.eval x.2)) = P0) (X : Value) (hb : ∀ w, (Instr.build t P0).run Trym.prog w = .ok X w) (h : wpList Trym.prog ops Q rest (a.put o.dst X) w) : wpList Trym.prog ops Q (o :: rest) a w :=
  wpList_plain hgd fun _ hK => by
    unfold Oper.wp execOp
    simp only [hop, hp, Sem.run_bind, hb, Result.andThen_ok, Sem.run_pure]
    exact hK _ _ h

theorem info22 : (Trym.prog.info? 22).map (·.size) = some 32 := by kernel_rfl
theorem info24 : (Trym.prog.info? 24).map (·.size) = some 64 := by kernel_rfl
theorem info34 : (Trym.prog.info? 34).map (·.size) = some 33 := by kernel_rfl

theorem blk_cell {w : World} {g j : Nat} {cs : Array Value} {t : TypeId} {fr : Nat × Nat} {v : Value} (h : w.heap[g]? = some (.cells cs t fr)) (hv : cs[j]? = some v) : w.cell? ⟨g, j, none⟩ = some v := by
  simp [World.cell?, h, hv]
theorem range_new (w : World) (cs : List Value) (t : TypeId) : (w.alloc (.cells cs.toArray t)).rangeAt w.heap.size 0 cs := fun j v hv =>
  blk_cell (heap_alloc_new w (.cells cs.toArray t)) (by simpa using hv)

set_option maxHeartbeats 800000 in
theorem newChange_any (v c l : Int) (ds zs : List Value) (w : World) (hd : ds.length = 32) (hz : zs.length = 64) :
    Calls Trym.prog 7 #[.int .u64 7, .int .u64 v, .int .u8 c, .agg ds.toArray, .int .i64 l, .slice none 0 0, .agg zs.toArray] w fun e w' => ∃ g, e = .returned (.pointer (some ⟨g, 0, none⟩)) ∧ w'.rangeAt g 2 (.int .u8 c :: ds) ∧ w'.cell? ⟨g, 35, none⟩ = some (.int .i64 l) ∧ Below w.heap.size w w' := by
  obtain ⟨_, b1, rfl⟩ := build34 c ds hd
  obtain ⟨ks, hks⟩ : ∃ ks, ks = Value.int .u8 c :: ds := ⟨_, rfl⟩
  rw [← hks] at b1
  obtain ⟨X, b2, hX1, hX2⟩ := build36 v l ks zs (by rw [hks]; simp [hd]) hz
  have HK : Hid (ks = Value.int .u8 c :: ds) := hks
  clear hks
  have r1 := World.rangeAt_alloc (range_new w ds 22) (.cells zs.toArray 24)
  have r2 := range_new (w.alloc (.cells ds.toArray 22)) zs 24
  simp only [World.size_alloc] at r2
  have H1 : Hid (∀ w, _) := b1
  have H2 : Hid (∀ w, _) := b2
  have HX1 : Hid (∀ j u, _) := hX1
  have HX2 : Hid (_ = _) := hX2
  clear b1 b2 hX1 hX2
  go_enter Trym.func7, Trym.ntmps7
  go_wp2_with (first
    | ((with_reducible refine wpList_load_mid ?_ 22 (.tmp 10) ?_ w.heap.size 0 ?_ ds _ ?_ Trym.underlying22 ?_ ?_ ?_); exact rfl; exact rfl; exact rfl; exact r1; exact rfl; exact (info22.trans (by rw [hd])))
    | ((with_reducible refine wpList_load_mid ?_ 24 (.tmp 13) ?_ (w.heap.size + 1) 0 ?_ zs _ ?_ Trym.underlying24 ?_ ?_ ?_); exact rfl; exact rfl; exact rfl; exact r2; exact rfl; exact (info24.trans (by rw [hz])))
    | ((with_reducible refine wpList_build ?_ 34 #[(0, .tmp 17), (1, .tmp 18)] ?_ #[(0, .int .u8 c), (1, .agg ds.toArray)] ?_ (.agg ks.toArray) H1.out ?_); exact rfl; exact rfl; (simp [Act.eval, Act.put]))
    | ((with_reducible refine wpList_build ?_ 36 #[(0, .tmp 15), (1, .tmp 16), (2, .tmp 19), (3, .tmp 20), (4, .tmp 21), (5, .tmp 22)] ?_ #[(0, .int .u64 7), (1, .int .u64 v), (2, .agg ks.toArray), (3, .int .i64 l), (4, .slice none 0 0), (5, .agg zs.toArray)] ?_ (.agg X) H2.out ?_); exact rfl; exact rfl; (simp [Act.eval, Act.put])))
  go_ret
  have hblk : (((w.alloc (.cells ds.toArray 22)).alloc (.cells zs.toArray 24)).alloc (.cells X 36)).heap[w.heap.size + 1 + 1]? = some (.cells X 36 (0, 0)) := by
    have := heap_alloc_new ((w.alloc (.cells ds.toArray 22)).alloc (.cells zs.toArray 24)) (.cells X 36)
    simpa only [World.size_alloc] using this
  refine ⟨_, rfl, fun j u hj => ?_, ?_, ?_⟩
  · rw [← HK.out] at hj
    exact blk_cell hblk (HX1.out j u hj)
  · exact blk_cell hblk HX2.out
  · exact (((Below.refl _ _).alloc (Nat.le_refl _) _).alloc (by simp) _).alloc (by simp; omega) _

theorem wpList_eql {ops : Array Oper} {rest : List Oper} {o : Oper} {a : Act} {w : World} {Q : Exit → Act → World → Prop} (hgd : o.guard = none) (t ty : TypeId) (x y : Operand) (hop : o.op = .binOp .eql t x y ty)
    (vx vy r : Value) (hx : a.eval x = vx) (hy : a.eval y = vy) (hb : ∀ w, (do eqGuard .eql t x y vx vy; binOp .eql t vx vy : Sem Value).run Trym.prog w = .ok r w) (h : wpList Trym.prog ops Q rest (a.put o.dst r) w) : wpList Trym.prog ops Q (o :: rest) a w :=
  wpList_plain hgd fun _ hK => by
    unfold Oper.wp execOp
    have hb' := hb w
    simp only [Sem.run_bind] at hb'
    simp only [hop, hx, hy, Sem.run_bind, hb', Result.andThen_ok, Sem.run_pure]
    exact hK _ _ h

theorem eql_zero (w : World) (x y : Operand) : (do eqGuard .eql 34 x y (.agg (Value.int .u8 0 :: z8 32).toArray) (.agg (z8 33).toArray); binOp .eql 34 (.agg (Value.int .u8 0 :: z8 32).toArray) (.agg (z8 33).toArray) : Sem Value).run Trym.prog w = .ok (.bool true) w := by
  kernel_rfl

theorem fields34 : ∃ f fs, (Trym.prog.fieldsOf 34).toList = f :: fs ∧ f.name ≠ "_" ∧ f.type = 5 ∧ f.offset = 0 := ⟨_, _, rfl, by decide, rfl, rfl⟩
theorem under34 : Trym.prog.underlying 34 = some (.struct (Trym.prog.fieldsOf 34)) := by kernel_rfl
theorem stood34 : Trym.prog.stoodInHeld 34 = false := by kernel_rfl
theorem guard34 : Trym.prog.eqGuardType Trym.prog.depth 34 = false := by kernel_rfl
theorem agg5 (w : World) : (isAgg 5).run Trym.prog w = .ok false w := by kernel_rfl
theorem part5 (v : Value) (xs : List Value) (w : World) : (part 5 (v :: xs).toArray 0).run Trym.prog w = .ok v w := by
  unfold part
  simp [Sem.run_bind]
theorem eq5 (d : Nat) (c : Int) (w : World) : (Op.equalIn (d + 1) 5 (.int .u8 c) (.int .u8 0)).run Trym.prog w = .ok (c == 0) w := by
  simp [Op.equalIn, run_underlying Trym.underlying5]
theorem eql_ne (c : Int) (ds : List Value) (hc : (c == 0) = false) (w : World) (x y : Operand) : (do eqGuard .eql 34 x y (.agg (Value.int .u8 c :: ds).toArray) (.agg (z8 33).toArray); binOp .eql 34 (.agg (Value.int .u8 c :: ds).toArray) (.agg (z8 33).toArray) : Sem Value).run Trym.prog w = .ok (.bool false) w := by
  have h1 : (eqGuard .eql 34 x y (.agg (Value.int .u8 c :: ds).toArray) (.agg (z8 33).toArray)).run Trym.prog w = .ok () w := by
    unfold eqGuard
    simp [Sem.run_bind, run_program]
  have h2 : (Op.equalIn (9999 + 1) 34 (.agg (Value.int .u8 c :: ds).toArray) (.agg (z8 33).toArray)).run Trym.prog w = .ok false w := by
    rw [run_equalIn_struct w 9999 34 _ _ under34 stood34]
    obtain ⟨f, fs, hf, hn, ht, ho⟩ := fields34
    rw [hf, Op.eqFields, if_pos hn, ht, ho]
    have hz : (z8 33).toArray = (Value.int .u8 0 :: z8 32).toArray := rfl
    have he : (Op.equalIn 9999 5 (.int .u8 c) (.int .u8 0)).run Trym.prog w = .ok false w := by
      rw [← hc]
      exact eq5 9998 c w
    simp only [Sem.run_bind, part5, hz, Result.andThen_ok, he]
    rfl
  simp only [Sem.run_bind, h1, Result.andThen_ok, binOp]
  simp [Op.equal, Op.maxDepth, h2]
end Go.Proofs.Qxb6616257aMods
