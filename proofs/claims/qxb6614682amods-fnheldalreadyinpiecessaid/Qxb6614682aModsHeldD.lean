import Derived.Test.Qxb6614682aModsHeldC
import Derived.Deep.RegionLaw
import Derived.Deep.RegionLawGrows
import Derived.Deep.AppendLies
namespace Go.Proofs.Qxb6614682aMods
open Go.RowKit
set_option linter.unusedVariables false

set_option maxHeartbeats 400000 in
theorem clip_some (a : Addr) (n cap : Nat) (w : World) (h1 : n ≤ cap) (h2 : cap ≤ 9223372036854775807) :
    Calls Trym.prog 26 #[.slice (some a) n cap] w fun e w' => e = .returned (.slice (some a) n n) ∧ w' = w := by
  go_enter Trym.func26, Trym.ntmps26
  go_wp2
  go_ret
  exact ⟨rfl, rfl⟩

set_option maxHeartbeats 400000 in
theorem clip_nil (w : World) :
    Calls Trym.prog 26 #[.slice none 0 0] w fun e w' => e = .returned (.slice none 0 0) ∧ w' = w := by
  go_enter Trym.func26, Trym.ntmps26
  go_wp2
  go_ret
  exact ⟨rfl, rfl⟩

theorem clip_any (ao : Option Addr) (n cap : Nat) (w : World) (h0 : ao = none → cap = 0) (h1 : n ≤ cap) (h2 : cap ≤ 9223372036854775807) :
    Calls Trym.prog 26 #[.slice ao n cap] w fun e w' => e = .returned (.slice ao n n) ∧ w' = w := by
  cases ao with
  | some a => exact clip_some a n cap w h1 h2
  | none =>
    obtain rfl := h0 rfl
    obtain rfl : n = 0 := by omega
    exact clip_nil w

theorem enter26 (v : Value) (w : World) : (callFunc 26 #[v]).run Trym.prog w = .ok (.enter 26 #[v]) w := by kernel_rfl

/-- A call of a Go function as one step of a region that draws, by its contract. -/
theorem step_call {P : Program} {ops : Array Oper} {o : Oper} {a : Act} {w : World} {K : Act → World → Prop} {Q : Exit → Act → World → Prop} {E : Prop}
    (hg : o.guard = none) (f : FuncId) (s : Operand) (ats : Array TypeId) (hop : o.op = Op.call { callee := Callee.value (Operand.func f), args := #[s], argTypes := ats })
    (v u : Value) (hs : a.eval s = v) (hrun : (callFunc f #[v]).run P w = .ok (.enter f #[v]) w) (hc : Calls P f #[v] w fun e w' => e = .returned u ∧ w' = w)
    (hK : K (a.put o.dst u) w) : if Region.wanted o (yielded ops a.tmps) = true then Oper.wp P o a w K Q else E := by
  have hw : Region.wanted o (yielded ops a.tmps) = true := by simp [Region.wanted, hg]
  rw [if_pos hw]
  obtain ⟨dst, op, ty, pos, after, guard⟩ := o
  simp only at hop
  subst hop
  unfold Oper.wp
  rw [execOp_call_go]
  simp only [List.map_toArray, List.map_cons, List.map_nil, hs, Array.append_empty, Array.empty_append]
  rw [hrun, Oper.upon_enter]
  refine hc.mono fun e w' ⟨he, hw'⟩ => ?_
  subst he hw'
  exact hK

/-- append that must grow: the new value written out. -/
theorem step_append_new {P : Program} {ops : Array Oper} {o : Oper} {a : Act} {w : World} {K : Act → World → Prop} {Q : Exit → Act → World → Prop} {E : Prop}
    (hg : o.guard = none) (s x : Operand) (t : TypeId) (hop : o.op = Op.call { callee := Callee.builtin Builtin.append, args := #[s, x], argTypes := #[t, t] })
    (e : TypeId) (i : TypeInfo) (z : Value) (size bytes : Nat) (h1 : P.underlying t = some (.slice e)) (h2 : P.info? e = some i) (h3 : i.zero = some z) (h4 : i.size = size) (h5 : i.bytes = bytes) (h6 : z.cells.size = size) (h7 : 0 < size)
    (ao : Option Addr) (n cap : Nat) (olds : List Value) (hs : a.eval s = .slice ao n cap) (hnone : ao = none → n = 0 ∧ cap = 0) (hlo : olds.length = n * size) (holds : ∀ b, ao = some b → ∀ j u, olds[j]? = some u → w.cell? (b.add j) = some u)
    (ad : Addr) (c : Nat) (news : List Value) (hx : a.eval x = .slice (some ad) 1 c) (hn : news.length = 1 * size) (hc : ∀ j u, news[j]? = some u → w.cell? (ad.add j) = some u) (h1c : ∀ u ∈ news, u.oneCell' = true)
    (hfull : cap < n + 1) (b1 : n + 1 ≤ maxLen) (b2 : (n + 1) * bytes ≤ 140737488355328)
    (hK : ∀ g cap' w', w'.ownsRow w.heap.size e size (.slice (some ⟨g, 0, none⟩) (n + 1) cap') (n + 1) (olds ++ news) → w.grownBy w' none → K (a.put o.dst (.slice (some ⟨g, 0, none⟩) (n + 1) cap')) w') :
    if Region.wanted o (yielded ops a.tmps) = true then Oper.wp P o a w K Q else E :=
  step_append_grows hg s x t hop e i z size bytes h1 h2 h3 h4 h5 h6 h7 ao n cap olds hs hnone hlo holds ad 1 c news hx hn hc h1c hfull b1 b2 fun v' w' ho hgr => by
    obtain ⟨g, cap', rfl, _, _⟩ := ho.form (by omega)
    exact hK g cap' w' ho hgr
end Go.Proofs.Qxb6614682aMods
