import Derived.Test.Qxb6616257aModsRows
import Derived.WalkKit
import Derived.WalkSpells
import Derived.WalkLawsBesides
import Derived.Deep.MidRow
namespace Go.Proofs.Qxb6616257aMods
open Go.RowKit
set_option linter.unusedVariables false

/-- A row of cells laid over another from 'off' on. -/
def over (off : Nat) (l : List Value) (cells : Array Value) : Array Value := l.toArray.zipIdx.foldl (fun cs (c, j) => cs.setIfInBounds (off + j) c) cells

theorem over_list (off : Nat) : ∀ (l : List Value) (k : Nat) (cells : Array Value), ((l.zipIdx k).foldl (fun cs (x : Value × Nat) => cs.setIfInBounds (off + x.2) x.1) cells).size = cells.size ∧
    ∀ i, i < cells.size → ((l.zipIdx k).foldl (fun cs (x : Value × Nat) => cs.setIfInBounds (off + x.2) x.1) cells)[i]? = if off + k ≤ i ∧ i < off + k + l.length then l[i - (off + k)]? else cells[i]?
  | [], k, cells => ⟨rfl, fun i hi => by simp; omega⟩
  | x :: l, k, cells => by
    have ih := over_list off l (k + 1) (cells.setIfInBounds (off + k) x)
    simp only [List.zipIdx_cons, List.foldl_cons]
    refine ⟨by rw [ih.1]; simp, fun i hi => ?_⟩
    rw [ih.2 i (by simpa using hi)]
    by_cases h1 : i = off + k
    · subst h1
      rw [if_neg (by omega), if_pos (by simp)]
      simp [hi]
    · by_cases h2 : off + (k + 1) ≤ i ∧ i < off + (k + 1) + l.length
      · rw [if_pos h2, if_pos (by simp; omega), show i - (off + k) = (i - (off + (k + 1))) + 1 by omega]
        rfl
      · rw [if_neg h2, if_neg (by simp; omega), Array.getElem?_setIfInBounds, if_neg (by omega)]

theorem over_size (off : Nat) (l : List Value) (cells : Array Value) : (over off l cells).size = cells.size := by
  unfold over
  simpa using (over_list off l 0 cells).1
theorem over_at (off : Nat) (l : List Value) (cells : Array Value) (i : Nat) (hi : i < cells.size) : (over off l cells)[i]? = if off ≤ i ∧ i < off + l.length then l[i - off]? else cells[i]? := by
  unfold over
  simpa using (over_list off l 0 cells).2 i hi
theorem over_in (off : Nat) (l : List Value) (cells : Array Value) (j : Nat) (hj : j < l.length) (hi : off + j < cells.size) : (over off l cells)[off + j]? = l[j]? := by
  rw [over_at _ _ _ _ hi, if_pos (by omega), show off + j - off = j by omega]
theorem over_out (off : Nat) (l : List Value) (cells : Array Value) (i : Nat) (hi : i < cells.size) (h : i < off ∨ off + l.length ≤ i) : (over off l cells)[i]? = cells[i]? := by
  rw [over_at _ _ _ _ hi, if_neg (by omega)]

theorem fill_step (place : Nat → Option (Nat × Nat)) (cells : Array Value) (i off size : Nat) (v : Value) (l : List Value) (rest : List (Nat × Value)) (hp : place i = some (off, size)) (hv : v.cells = l.toArray) (hs : l.length = size) (hf : off + size ≤ cells.size) :
    Instr.fill place cells ((i, v) :: rest) = Instr.fill place (over off l cells) rest := by
  rw [Instr.fill, hp]
  simp only [hv, List.size_toArray, hs]
  rw [if_neg (by simp; omega)]
  rfl

theorem run_build {t : TypeId} {fs : Array Field} {z : Value} {places : Array (Nat × Nat)} (hz : ∀ w, (zeroValue t).run Trym.prog w = .ok z w) (hu : Trym.prog.underlying t = some (.struct fs))
    (hpl : ∀ w, (fs.mapM fun (f : Field) => do pure (f.offset, ← sizeOf f.type) : Sem (Array (Nat × Nat))).run Trym.prog w = .ok places w) (parts : Array (Nat × Value)) (X : Array Value) (hfill : Instr.fill (places[·]?) z.cells parts.toList = some X) (w : World) :
    (Instr.build t parts).run Trym.prog w = .ok (.agg X) w := by
  unfold Instr.build
  simp only [Sem.run_bind, hz, run_underlying hu, hpl, Result.andThen_ok, hfill, Sem.run_pure]

def z8 (n : Nat) : List Value := List.replicate n (.int .u8 0)
def zero101 : List Value := ([Value.int .u64 0, Value.int .u64 0] : List Value) ++ (z8 33 ++ (([Value.int .i64 0, Value.slice none 0 0] : List Value) ++ z8 64))

theorem zero34 (w : World) : (zeroValue 34).run Trym.prog w = .ok (.agg (z8 33).toArray) w := by kernel_rfl
theorem zero36 (w : World) : (zeroValue 36).run Trym.prog w = .ok (.agg zero101.toArray) w := by kernel_rfl
theorem places34 {fs : Array Field} (h : Trym.prog.underlying 34 = some (.struct fs)) (w : World) : (fs.mapM fun (f : Field) => do pure (f.offset, ← sizeOf f.type) : Sem (Array (Nat × Nat))).run Trym.prog w = .ok #[(0, 1), (1, 32)] w := by
  rw [Trym.underlying34] at h
  cases h
  kernel_rfl
theorem places36 {fs : Array Field} (h : Trym.prog.underlying 36 = some (.struct fs)) (w : World) : (fs.mapM fun (f : Field) => do pure (f.offset, ← sizeOf f.type) : Sem (Array (Nat × Nat))).run Trym.prog w = .ok #[(0, 1), (1, 1), (2, 33), (35, 1), (36, 1), (37, 64)] w := by
  rw [Trym.underlying36] at h
  cases h
  kernel_rfl

/-- 'CID{codec: c, digest: d}'. -/
theorem build34 (c : Int) (ds : List Value) (hd : ds.length = 32) : ∃ X : Array Value, (∀ w, (Instr.build 34 #[(0, .int .u8 c), (1, .agg ds.toArray)]).run Trym.prog w = .ok (.agg X) w) ∧ X = (Value.int .u8 c :: ds).toArray := by
  obtain ⟨fs, hu⟩ : ∃ fs, Trym.prog.underlying 34 = some (.struct fs) := ⟨_, Trym.underlying34⟩
  refine ⟨over 1 ds (over 0 [Value.int .u8 c] (z8 33).toArray), fun w => run_build zero34 hu (places34 hu) _ _ ?_ w, ?_⟩
  · show Instr.fill _ (z8 33).toArray [(0, Value.int .u8 c), (1, Value.agg ds.toArray)] = _
    rw [fill_step _ _ 0 0 1 _ [Value.int .u8 c] _ rfl rfl rfl (by simp [z8]), fill_step _ _ 1 1 32 _ ds _ rfl rfl hd (by rw [over_size]; simp [z8])]
    rfl
  · apply Array.ext_getElem?
    intro i
    by_cases hi : i < 33
    · by_cases h0 : i = 0
      · subst h0
        rw [over_out _ _ _ _ (by rw [over_size]; simp [z8]) (by omega), over_at _ _ _ _ (by simp [z8]), if_pos (by simp)]
        rfl
      · obtain ⟨j, rfl⟩ : ∃ j, i = 1 + j := ⟨i - 1, by omega⟩
        rw [over_in _ _ _ _ (by omega) (by rw [over_size]; simp [z8]; omega)]
        simp [Nat.add_comm 1 j]
    · rw [Array.getElem?_eq_none (by rw [over_size, over_size]; simp [z8]; omega), Array.getElem?_eq_none (by simp [hd]; omega)]

/-- 'change{slot: 7, version: v, cid: k, length: l, inline: nil, sig: zs}': where its cid and its length lie. -/
theorem build36 (v l : Int) (ks zs : List Value) (hk : ks.length = 33) (hz : zs.length = 64) : ∃ X : Array Value, (∀ w, (Instr.build 36 #[(0, .int .u64 7), (1, .int .u64 v), (2, .agg ks.toArray), (3, .int .i64 l), (4, .slice none 0 0), (5, .agg zs.toArray)]).run Trym.prog w = .ok (.agg X) w) ∧
    (∀ j u, ks[j]? = some u → X[2 + j]? = some u) ∧ X[35]? = some (.int .i64 l) := by
  obtain ⟨fs, hu⟩ : ∃ fs, Trym.prog.underlying 36 = some (.struct fs) := ⟨_, Trym.underlying36⟩
  have hs : zero101.toArray.size = 101 := by kernel_rfl
  refine ⟨over 37 zs (over 36 [Value.slice none 0 0] (over 35 [Value.int .i64 l] (over 2 ks (over 1 [Value.int .u64 v] (over 0 [Value.int .u64 7] zero101.toArray))))), fun w => run_build zero36 hu (places36 hu) _ _ ?_ w, fun j u hj => ?_, ?_⟩
  · show Instr.fill _ zero101.toArray [(0, Value.int .u64 7), (1, Value.int .u64 v), (2, Value.agg ks.toArray), (3, Value.int .i64 l), (4, Value.slice none 0 0), (5, Value.agg zs.toArray)] = _
    rw [fill_step _ _ 0 0 1 _ [Value.int .u64 7] _ rfl rfl rfl (by omega), fill_step _ _ 1 1 1 _ [Value.int .u64 v] _ rfl rfl rfl (by simp only [over_size]; omega), fill_step _ _ 2 2 33 _ ks _ rfl rfl hk (by simp only [over_size]; omega), fill_step _ _ 3 35 1 _ [Value.int .i64 l] _ rfl rfl rfl (by simp only [over_size]; omega), fill_step _ _ 4 36 1 _ [Value.slice none 0 0] _ rfl rfl rfl (by simp only [over_size]; omega), fill_step _ _ 5 37 64 _ zs _ rfl rfl hz (by simp only [over_size]; omega)]
    rfl
  · have hj' := (List.getElem?_eq_some_iff.1 hj).1
    rw [over_out _ _ _ _ (by simp only [over_size]; omega) (by omega), over_out _ _ _ _ (by simp only [over_size]; omega) (by simp; omega), over_out _ _ _ _ (by simp only [over_size]; omega) (by simp; omega), over_in _ _ _ _ hj' (by simp only [over_size]; omega)]
    exact hj
  · rw [over_out _ _ _ _ (by simp only [over_size]; omega) (by omega), over_out _ _ _ _ (by simp only [over_size]; omega) (by simp)]
    exact over_in 35 [Value.int .i64 l] _ 0 (by simp) (by simp only [over_size]; omega)
end Go.Proofs.Qxb6616257aMods
