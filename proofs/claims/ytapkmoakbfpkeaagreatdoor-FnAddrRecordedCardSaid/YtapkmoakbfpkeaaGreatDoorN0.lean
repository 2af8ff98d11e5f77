/- No function of the program starts a goroutine. -/
import Derived.Test.YtapkmoakbfpkeaaGreatDoorProg
import Derived.KernelRfl
import GoSem.ClaimGoes
namespace Go.Proofs.YtapkmoakbfpkeaaGreatDoor
open Go
theorem goes_none {P : Program} (h : P.funcs.any Func.goes = false) (func : String) : P.goesAt .entering func = false := by
  have each : ∀ g : FuncId, (P.funcs[g]?).any Func.goes = false := fun g => by
    cases hg : P.funcs[g]? with
    | none => rfl
    | some fn =>
      show Func.goes fn = false
      have hm := Array.mem_of_getElem? hg
      cases hh : Func.goes fn with
      | false => rfl
      | true =>
        have : P.funcs.any Func.goes = true := Array.any_eq_true'.2 ⟨fn, hm, hh⟩
        rw [h] at this
        cases this
  have hf : ∀ f, P.goes f = false := fun f => by
    unfold Program.goes
    rw [h, Bool.and_false, Bool.or_false, List.any_eq_false]
    intro g _
    rw [each g]
    decide
  unfold Program.goesAt Program.goesFrom
  rw [Bool.or_false]
  cases P.funcNamed func with
  | none => rfl
  | some f => exact hf f
set_option maxRecDepth 1000000 in
theorem noGo : Tryz.prog.funcs.any Func.goes = false := by kernel_rfl
end Go.Proofs.YtapkmoakbfpkeaaGreatDoor
