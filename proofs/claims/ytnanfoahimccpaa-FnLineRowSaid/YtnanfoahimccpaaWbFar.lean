/- The walk of 'uniseg.transitionWordBreakProperty' where it asks for the properties behind the one at hand. -/
import Derived.Test.YtnanfoahimccpaaWbStep
namespace Go.Proofs.Ytnanfoahimccpaa.Wb
open Go Go.RowKit Ev

/-- The answers of what tells the properties: one call behind the other, then that there is none. -/
def ansOf (l : List Int) : List V := l.map (fun p => V.t2 (.n p) (.b true)) ++ [.t2 (.n 0) (.b false)]

/-- What must hold of the function that was handed in. -/
structure Asks (F : Value) (B : Nat) (I : List V → World → Prop) : Prop where
  stays : ∀ ans w w', I ans w → Below B w w' → I ans w'
  asked : ∀ (p : Int) (b : Bool) ans w, B ≤ w.heap.size → I (V.t2 (.n p) (.b b) :: ans) w → ∃ f cap, F = .func (.func f) #[] cap ∧ (∃ fn, Try.prog.funcs[f]? = some fn ∧ fn.body.isNone = false ∧ (fn.name == "runtime.NumGoroutine") = false) ∧
    Calls Try.prog f cap w fun e w' => e = .returned (.tuple #[.int .i64 p, .bool b]) ∧ I ans w' ∧ w.heap.size ≤ w'.heap.size ∧ ∀ k, B ≤ k → k < w.heap.size → w'.heap[k]? = w.heap[k]?
  shape : ∀ v ans w, I (v :: ans) w → ∃ p b, v = V.t2 (.n p) (.b b)

theorem ov_env {env : Nat → V} {l : List Nat} {vs : List V} (h : l.map env = vs) : env = ov l vs env := by rw [← h, ov_self]

section
variable {w : World} {F : Value} {I : List V → World → Prop} (hI : Asks F w.heap.size I)
include hI

end
end Go.Proofs.Ytnanfoahimccpaa.Wb
