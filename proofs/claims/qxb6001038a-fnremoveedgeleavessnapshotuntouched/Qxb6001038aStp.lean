import Derived.WalkKit
import Derived.Deep.RegionLaw
namespace Go.Proofs.Qxb6001038a
open Go.RowKit
set_option linter.unusedVariables false

section
variable {P : Program}

/-- A call of a Go function that only reads, as one step of a region that draws its order. -/
theorem step_fn_quiet {ops : Array Oper} {o : Oper} {a : Act} {w : World} {K : Act → World → Prop} {Q : Exit → Act → World → Prop} {E : Prop}
    (hg : o.guard = none) (f : FuncId) (xs : Array Operand) (ts : Array TypeId) (hop : o.op = Op.call { callee := .value (.func f), args := xs, argTypes := ts })
    (vs : Array Value) (hv : xs.map a.eval = vs) (fn : Func) (hf : P.funcs[f]? = some fn) (hn : (fn.name == "runtime.NumGoroutine") = false) (hb : fn.body.isSome = true) (v : Value)
    (hc : Calls P f vs w fun e w' => e = .returned v ∧ w' = w) (hK : K (a.put o.dst v) w) :
    if Region.wanted o (yielded ops a.tmps) = true then Oper.wp P o a w K Q else E := by
  have hw : Region.wanted o (yielded ops a.tmps) = true := by simp [Region.wanted, hg]
  rw [if_pos hw]
  unfold Oper.wp
  obtain ⟨dst, op, type, pos, after, guard⟩ := o
  simp only at hop
  subst hop
  rw [execOp_call_go]
  obtain ⟨c, hc'⟩ := Option.isSome_iff_exists.1 hb
  have hr : (callFunc f (#[] ++ xs.map a.eval ++ #[])).run P w = .ok (.enter f vs) w := by
    rw [hv]
    have hn' : fn.name ≠ "runtime.NumGoroutine" := by simpa using hn
    simp [callFunc, hf, hn', hc', mark]
  rw [hr]
  show Calls P f vs w _
  refine hc.mono ?_
  rintro e w' ⟨rfl, rfl⟩
  exact hK
end
end Go.Proofs.Qxb6001038a
