/- Step: laws for the steps of a region that draws its order (go_region_law): a call of a Go function by its contract; a look-up in a map of trees. -/
import Derived.Test.YtempfaefopfobaaAppend
import Derived.Test.YtempfaefopfobaaTree

namespace Go.Proofs.Ytempfaefopfobaa
open Go.ChangeShapes Go.WideShapes Go.ChangeAt Go.RowKit
set_option linter.unusedVariables false
set_option linter.unusedSimpArgs false
theorem step_call {P : Program} {ops : Array Oper} {o : Oper} {a : Act} {K : Act → World → Prop} {Q : Exit → Act → World → Prop} {E : Prop} (w : World) (hgd : o.guard = none) (f : FuncId) (xs : List Operand) (tys : Array TypeId)
    (ho : o.op = .call { callee := .value (.func f), args := xs.toArray, argTypes := tys }) (hf : (P.funcs[f]?).map (fun fn => (fn.name == "runtime.NumGoroutine", fn.body.isSome)) = some (false, true))
    (vs : List Value) (hvs : xs.map a.eval = vs) {post : Ending → World → Prop} (hc : Calls P f vs.toArray w post)
    (h : ∀ e w', post e w' → ∃ v, e = .returned v ∧ K (a.put o.dst v) w') : if Region.wanted o (yielded ops a.tmps) = true then Oper.wp P o a w K Q else E := by
  rw [if_pos (by simp [Region.wanted, hgd])]
  obtain ⟨fn, hfn, hfn2⟩ := Option.map_eq_some_iff.1 hf
  simp only [Prod.mk.injEq] at hfn2
  unfold Oper.wp
  have he : (execOp a.eval o).run P w = .ok (.enter f vs.toArray) w := by
    have h1 : fn.name ≠ "runtime.NumGoroutine" := by simpa using hfn2.1
    have h2 : fn.body ≠ none := by intro e; rw [e] at hfn2; simp at hfn2
    simp [execOp, ho, resolve, hvs, invoke, Act.eval, Deferred.ofValue, callFunc, hfn, h1, h2]
  rw [he, Oper.upon_enter]
  refine hc.mono fun e w' hp => ?_
  obtain ⟨v, rfl, hk⟩ := h e w' hp
  exact hk
/-- an operation that yields, by what it runs to -/
theorem step_run {P : Program} {ops : Array Oper} {o : Oper} {a : Act} {K : Act → World → Prop} {Q : Exit → Act → World → Prop} {E : Prop} (w w' : World) (v : Value) (hgd : o.guard = none)
    (hr : (execOp a.eval o).run P w = .ok (.value v) w') (h : K (a.put o.dst v) w') : if Region.wanted o (yielded ops a.tmps) = true then Oper.wp P o a w K Q else E := by
  rw [if_pos (by simp [Region.wanted, hgd])]
  unfold Oper.wp
  rw [hr]; exact h
end Go.Proofs.Ytempfaefopfobaa
