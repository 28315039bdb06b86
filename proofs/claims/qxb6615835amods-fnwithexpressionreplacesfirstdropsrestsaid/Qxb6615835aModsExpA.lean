import Derived.Test.Qxb6615835aModsRows
import Derived.WalkKit
import Derived.WalkSpells
import Derived.WalkLawsBesides
import Derived.Deep.QuietTactic
import Derived.BigQuiet
import Derived.MapKept
namespace Go.Proofs.Qxb6615835aMods
open Go.RowKit
set_option linter.unusedVariables false

abbrev sKey : ByteArray := ⟨#[107, 101, 121]⟩
abbrev sId : ByteArray := ⟨#[105, 100]⟩
/-- The map of one expression. -/
def ent (s : ByteArray) (i : Int) : Array MapEntry := #[⟨.string ⟨#[107, 101, 121]⟩, .iface 9 (.string s), 0⟩, ⟨.string ⟨#[105, 100]⟩, .iface 3 (.int .i64 i), 1⟩]

theorem under29 : Trym.prog.underlying 29 = some (.map 9 20) := by kernel_rfl
theorem key_eq : (sKey == sKey) = true := by decide
theorem id_key : (sId == sKey) = false := by decide
theorem id_eq : (sId == sId) = true := by decide
theorem getMap {w : World} {B c : Nat} {es : Array MapEntry} (h : w.heap[B]? = some (.map es c)) : (getObj B).run Trym.prog w = .ok (.map es c) w := by simp [getObj, Sem.run, h]
theorem check9 (b : Bool) (n : Nat) (s : ByteArray) (w : World) : (Instr.checkKey b (n + 1) 9 (.string s)).run Trym.prog w = .ok () w := by
  simp [Instr.checkKey, run_underlying Trym.underlying9]
theorem check9' (b : Bool) (s : ByteArray) (w : World) : (Instr.checkKey b 10000 9 (.string s)).run Trym.prog w = .ok () w := check9 b 9999 s w
theorem look_key (w : World) (B : Nat) (s : ByteArray) (i : Int) (h : w.heap[B]? = some (.map (ent s i) 2)) : (Instr.lookup 29 (.map (some B)) (.string ⟨#[107, 101, 121]⟩) false).run Trym.prog w = .ok (.iface 9 (.string s)) w := by
  simp [Instr.lookup, run_underlying under29, getMap h, check9', Instr.findKey, run_underlying Trym.underlying9, ent, Instr.findNow, Instr.sameNow, key_eq, Result.andThen]
theorem look_id (w : World) (B : Nat) (s : ByteArray) (i : Int) (h : w.heap[B]? = some (.map (ent s i) 2)) : (Instr.lookup 29 (.map (some B)) (.string ⟨#[105, 100]⟩) false).run Trym.prog w = .ok (.iface 3 (.int .i64 i)) w := by
  simp [Instr.lookup, run_underlying under29, getMap h, check9', Instr.findKey, run_underlying Trym.underlying9, ent, Instr.findNow, Instr.sameNow, id_key, id_eq, Result.andThen]
theorem make_map (w : World) : (Instr.makeMap 29 none).run Trym.prog w = .ok (.map (some w.heap.size)) (w.alloc (.map #[] 0)) := by kernel_rfl
theorem ins_key (w : World) (B : Nat) (v : Value) (h : w.heap[B]? = some (.map #[] 0)) : (Instr.mapUpdate 29 (.map (some B)) (.string ⟨#[107, 101, 121]⟩) v).run Trym.prog w = (setObj B (.map #[⟨.string ⟨#[107, 101, 121]⟩, v, 0⟩] 1)).run Trym.prog w := by
  simp [Instr.mapUpdate, run_underlying under29, getMap h, check9', Instr.findKey, run_underlying Trym.underlying9, Instr.findNow, Result.andThen]
theorem ins_id (w : World) (B : Nat) (u v : Value) (h : w.heap[B]? = some (.map #[⟨.string ⟨#[107, 101, 121]⟩, u, 0⟩] 1)) : (Instr.mapUpdate 29 (.map (some B)) (.string ⟨#[105, 100]⟩) v).run Trym.prog w = (setObj B (.map #[⟨.string ⟨#[107, 101, 121]⟩, u, 0⟩, ⟨.string ⟨#[105, 100]⟩, v, 1⟩] 2)).run Trym.prog w := by
  simp [Instr.mapUpdate, run_underlying under29, getMap h, check9', Instr.findKey, run_underlying Trym.underlying9, Instr.findNow, Instr.sameNow, id_key, Result.andThen]

theorem wpList_look {ops : Array Oper} {rest : List Oper} {o : Oper} {a : Act} {w : World} {Q : Exit → Act → World → Prop} (hgd : o.guard = none) (x k : Operand) (hop : o.op = .lookup 29 x k false) (v u r : Value) (hx : a.eval x = v) (hk : a.eval k = u)
    (hb : (Instr.lookup 29 v u false).run Trym.prog w = .ok r w) (h : wpList Trym.prog ops Q rest (a.put o.dst r) w) : wpList Trym.prog ops Q (o :: rest) a w :=
  wpList_plain hgd fun _ hK => by
    unfold Oper.wp execOp
    simp only [hop, hx, hk, Sem.run_bind, hb, Result.andThen_ok, Sem.run_pure]
    exact hK _ _ h

theorem as29 (v : Value) (w : World) : (Instr.typeAssert (.iface 29 v) 20 29 true).run Trym.prog w = .ok (.tuple #[v, .bool true]) w := by
  simp [Instr.typeAssert, run_underlying under29]
theorem as9 (v : Value) (w : World) : (Instr.typeAssert (.iface 9 v) 20 9 true).run Trym.prog w = .ok (.tuple #[v, .bool true]) w := by
  simp [Instr.typeAssert, run_underlying Trym.underlying9]
theorem as3 (v : Value) (w : World) : (Instr.typeAssert (.iface 3 v) 20 3 true).run Trym.prog w = .ok (.tuple #[v, .bool true]) w := by
  simp [Instr.typeAssert, run_underlying Trym.underlying3]

set_option maxHeartbeats 400000 in
theorem keyOf_any (B : Nat) (s : ByteArray) (i : Int) (w : World) (h : w.heap[B]? = some (.map (ent s i) 2)) :
    Calls Trym.prog 8 #[.iface 29 (.map (some B)), .string ⟨#[107, 101, 121]⟩] w fun e w' => e = .returned (.string s) ∧ w' = w := by
  have hl := look_key w B s i h
  have HL : Hid (_ = _) := hl
  clear hl h
  have t29 := as29
  have t9 := as9
  go_enter Trym.func8, Trym.ntmps8
  go_wp2_with ((with_reducible refine wpList_look ?_ (.tmp 15) (.tmp 16) ?_ _ _ _ ?_ ?_ HL.out ?_); exact rfl; exact rfl; exact rfl; exact rfl)
  go_ret
  exact ⟨rfl, rfl⟩

end Go.Proofs.Qxb6615835aMods
