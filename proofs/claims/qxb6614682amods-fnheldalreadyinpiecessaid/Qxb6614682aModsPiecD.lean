import Derived.Test.Qxb6614682aModsHeldH
import Derived.Laws.OwnMore
namespace Go.Proofs.Qxb6614682aMods
open Go.RowKit
set_option linter.unusedVariables false

theorem size55 (w : World) : (sizeOf (Trym.prog.elem 25)).run Trym.prog w = .ok 6 w := by kernel_rfl
theorem under25 : Trym.prog.underlying 25 = some (.slice (Trym.prog.elem 25)) := by kernel_rfl

/-- The two cuts of a slice of failures. -/
theorem sl_cut {w : World} {af : Option Addr} {cf : Nat} {Fs : List ZF} (h : Sl w (.slice af Fs.length cf) 6 (Fs.map ZF.cells)) (kn : Nat) (hk : kn ≤ Fs.length) :
    ∃ (Hs Gs : List ZF) (a1 : Option Addr) (c1 : Nat) (a2 : Option Addr) (c2 : Nat), Fs = Hs ++ Gs ∧ Hs.length = kn ∧
      (∀ w, (Instr.slice 25 (.slice af Fs.length cf) none (some (.int .i64 kn)) none).run Trym.prog w = .ok (.slice a1 Hs.length c1) w) ∧
      (∀ w, (Instr.slice 25 (.slice af Fs.length cf) (some (.int .i64 kn)) none none).run Trym.prog w = .ok (.slice a2 Gs.length c2) w) ∧
      Sl w (.slice a1 Hs.length c1) 6 (Hs.map ZF.cells) ∧ Sl w (.slice a2 Gs.length c2) 6 (Gs.map ZF.cells) := by
  obtain ⟨ao, cap, b, off, h1, h2, h3, h4, h5, h6⟩ := h
  rw [List.length_map] at h1 h2 h4
  simp only [Value.slice.injEq] at h1
  obtain ⟨rfl, -, rfl⟩ := h1
  have e1 : (Fs.take kn).length = kn := by rw [List.length_take]; omega
  have e2 : (Fs.drop kn).length = Fs.length - kn := List.length_drop
  refine ⟨Fs.take kn, Fs.drop kn, if cf = 0 then af else af.map (·.add (0 * 6)), cf - 0, if cf = kn then af else af.map (·.add (kn * 6)), cf - kn, (List.take_append_drop _ _).symm, e1, fun w => ?_, fun w => ?_, ?_, ?_⟩
  · rw [run_slice_h (P := Trym.prog) w 25 af Fs.length cf under25 .i64 kn (Int.natCast_nonneg _) (by omega), size55]
    simp only [Result.andThen, sliced, e1]
    rfl
  · rw [run_slice_l (P := Trym.prog) w 25 af Fs.length cf under25 .i64 kn (Int.natCast_nonneg _) (by omega), size55]
    simp only [Result.andThen, sliced, e2]
    rfl
  · refine ⟨_, cf - 0, b, off, by rw [List.length_map], fun hp => ?_, fun hn => ?_, by rw [List.length_map]; omega, by omega, fun i cs hi => ?_⟩
    · rw [List.length_map, e1] at hp
      rw [h2 (by omega)]
      simp [Addr.add_mid]
    · cases af with
      | none => have := h3 rfl; omega
      | some a => split at hn <;> simp at hn
    · rw [List.map_take, List.getElem?_take] at hi
      split at hi
      · exact h6 i cs hi
      · cases hi
  · refine ⟨_, cf - kn, b, off + kn * 6, by rw [List.length_map], fun hp => ?_, fun hn => ?_, by rw [List.length_map]; omega, by omega, fun i cs hi => ?_⟩
    · rw [List.length_map, e2] at hp
      rw [h2 (by omega), if_neg (by omega)]
      simp [Addr.add_mid]
    · cases af with
      | none => have := h3 rfl; omega
      | some a => split at hn <;> simp at hn
    · rw [List.map_drop, List.getElem?_drop] at hi
      have := h6 _ cs hi
      have e : off + kn * 6 + i * 6 = off + (kn + i) * 6 := by omega
      rw [e]
      exact this

theorem enter16 (v : Value) (w : World) : (callFunc 16 #[v]).run Trym.prog w = .ok (.enter 16 #[v]) w := by kernel_rfl

/-- A call of a Go function as one step of a region that draws, by whatever contract. -/
theorem step_call2 {P : Program} {ops : Array Oper} {o : Oper} {a : Act} {w : World} {K : Act → World → Prop} {Q : Exit → Act → World → Prop} {E : Prop}
    (hg : o.guard = none) (f : FuncId) (s : Operand) (ats : Array TypeId) (hop : o.op = Op.call { callee := Callee.value (Operand.func f), args := #[s], argTypes := ats })
    (v : Value) (hs : a.eval s = v) (hrun : (callFunc f #[v]).run P w = .ok (.enter f #[v]) w) {C : Ending → World → Prop} (hc : Calls P f #[v] w C)
    (hK : ∀ e w', C e w' → ∃ u, e = .returned u ∧ K (a.put o.dst u) w') : if Region.wanted o (yielded ops a.tmps) = true then Oper.wp P o a w K Q else E := by
  have hw : Region.wanted o (yielded ops a.tmps) = true := by simp [Region.wanted, hg]
  rw [if_pos hw]
  obtain ⟨dst, op, ty, pos, after, guard⟩ := o
  simp only at hop
  subst hop
  unfold Oper.wp
  rw [execOp_call_go]
  simp only [List.map_toArray, List.map_cons, List.map_nil, hs, Array.append_empty, Array.empty_append]
  rw [hrun, Oper.upon_enter]
  refine hc.mono fun e w' hC => ?_
  obtain ⟨u, rfl, hk⟩ := hK e w' hC
  exact hk

/-- An append of a slice of failures, nil or empty or not, to a row of the call's own. -/
theorem append_any {w : World} {base : Nat} {ty : TypeId} {v : Value} {n : Nat} {xs : List Value} {a : Option Addr} {c : Nat} {Gs : List ZF} (hown : w.ownsRow base 58 6 v n xs) (hbase : base ≤ w.heap.size)
    (h : Sl w (.slice a Gs.length c) 6 (Gs.map ZF.cells)) (hn : n ≤ 200000) (hG : Gs.length ≤ 200000) :
    ∃ ao cap w', (Builtin.append_ #[35, 35] ty #[v, .slice a Gs.length c]).run Trym.prog w = .ok (.slice ao (n + Gs.length) cap) w' ∧
      w'.ownsRow base 58 6 (.slice ao (n + Gs.length) cap) (n + Gs.length) (xs ++ (Gs.map ZF.cells).flatten) ∧ w.grownBy w' v.ownBlock := by
  obtain ⟨i58, hi58, hz58, hs58, hy58⟩ := info_parts Trym.info58
  obtain ⟨ao, cap, b, off, h1, h2, h3, h4, h5, h6⟩ := h
  simp only [Value.slice.injEq] at h1
  obtain ⟨rfl, -, rfl⟩ := h1
  rw [List.length_map] at h4
  cases a with
  | none =>
    obtain rfl := h3 rfl
    have hz : Gs.length = 0 := by omega
    obtain rfl := List.eq_nil_of_length_eq_zero hz
    obtain ⟨ao, cap, rfl⟩ := owns_form hown
    refine ⟨ao, cap, w, ?_, by simpa using hown, ⟨rfl, rfl, rfl, Nat.le_refl _, fun _ _ _ => rfl⟩⟩
    exact run_append_owned_none w base 35 ty 58 i58 6 Trym.underlying35 hi58 _ n xs hown
  | some ad =>
    obtain ⟨v', w', hr, ho, hg, -⟩ := run_append_own (P := Trym.prog) w base 35 ty 58 i58 _ 6 64 Trym.underlying35 hi58 hz58 hs58 hy58 rfl (by omega) v n xs hown ad Gs.length c (Gs.map ZF.cells).flatten
      (by rw [length_flatten _ (ZF.len _), List.length_map]) (olds_of (n := 0) (cap := 0) (b := b) (off := off) (ZF.len _) h2 h6 ad rfl)
      (fun u hu => by
        obtain ⟨l, hl, hul⟩ := List.mem_flatten.1 hu
        obtain ⟨f, _, rfl⟩ := List.mem_map.1 hl
        exact f.one u hul) (by unfold maxLen; omega) (by omega) hbase
    obtain ⟨ao, cap, rfl⟩ := owns_form ho
    exact ⟨ao, cap, w', hr, ho, hg⟩

theorem step_append_any {ops : Array Oper} {o : Oper} {A : Act} {w : World} {K : Act → World → Prop} {Q : Exit → Act → World → Prop} {E : Prop} (hgd : o.guard = none) (s x : Operand)
    (hop : o.op = .call { callee := .builtin .append, args := #[s, x], argTypes := #[35, 35] }) {base : Nat} {v : Value} {n : Nat} {xs : List Value} {a : Option Addr} {c : Nat} {Gs : List ZF}
    (hs : A.eval s = v) (hx : A.eval x = .slice a Gs.length c) (hown : w.ownsRow base 58 6 v n xs) (hbase : base ≤ w.heap.size)
    (h : Sl w (.slice a Gs.length c) 6 (Gs.map ZF.cells)) (hn : n ≤ 200000) (hG : Gs.length ≤ 200000)
    (hK : ∀ ao cap w', w'.ownsRow base 58 6 (.slice ao (n + Gs.length) cap) (n + Gs.length) (xs ++ (Gs.map ZF.cells).flatten) → w.grownBy w' v.ownBlock → K (A.put o.dst (.slice ao (n + Gs.length) cap)) w') :
    if Region.wanted o (yielded ops A.tmps) = true then Oper.wp Trym.prog o A w K Q else E := by
  have hw : Region.wanted o (yielded ops A.tmps) = true := by simp [Region.wanted, hgd]
  rw [if_pos hw]
  obtain ⟨ao, cap, w', hr, ho, hg⟩ := append_any (ty := o.type) hown hbase h hn hG
  unfold Oper.wp execOp
  simp only [hop, resolve, invoke, builtin, Sem.run_bind, Sem.run_pure, Result.andThen_ok, List.map_toArray, List.map_cons, List.map_nil, hs, hx, hr]
  exact hK ao cap w' ho hg
end Go.Proofs.Qxb6614682aMods
