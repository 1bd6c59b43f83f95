/- Walks by the evaluator: LB25 in 'uniseg.transitionLineBreakProperty', first half. -/
import Derived.Test.YtnanfoahimccpaaLbDef
namespace Go.Proofs.Ytnanfoahimccpaa.Lb
open Go Go.RowKit Ev
open Wb (KT typesOk eq3 eq3_eq)

theorem e_ask0 (B : Nat) (F : Value) (gc gr : Int) (env : Nat → V) (top : Bool) (e z : V) (ans : List V) :
    ((askersOf c0).flatMap fun x => props.map fun q => (x, q)).map (fun y => view (slots ++ [18]) (evalCode (C77 B F) pE (inE y.1 gc gr false env top e z (.t2 (.n y.2) (.b true) :: ans)))) =
      ((askersOf c0).flatMap fun x => props.map fun q => (x, q)).map (fun y => outE y.1 gc gr false e z false (y.2 == 52) ans) := by kernel_rfl
theorem e_ask1 (B : Nat) (F : Value) (gc gr : Int) (env : Nat → V) (top : Bool) (e z : V) (ans : List V) :
    ((askersOf c1).flatMap fun x => props.map fun q => (x, q)).map (fun y => view (slots ++ [18]) (evalCode (C77 B F) pE (inE y.1 gc gr false env top e z (.t2 (.n y.2) (.b true) :: ans)))) =
      ((askersOf c1).flatMap fun x => props.map fun q => (x, q)).map (fun y => outE y.1 gc gr false e z false (y.2 == 52) ans) := by kernel_rfl
theorem e_ask2 (B : Nat) (F : Value) (gc gr : Int) (env : Nat → V) (top : Bool) (e z : V) (ans : List V) :
    ((askersOf c2).flatMap fun x => props.map fun q => (x, q)).map (fun y => view (slots ++ [18]) (evalCode (C77 B F) pE (inE y.1 gc gr false env top e z (.t2 (.n y.2) (.b true) :: ans)))) =
      ((askersOf c2).flatMap fun x => props.map fun q => (x, q)).map (fun y => outE y.1 gc gr false e z false (y.2 == 52) ans) := by kernel_rfl
theorem e_ask3 (B : Nat) (F : Value) (gc gr : Int) (env : Nat → V) (top : Bool) (e z : V) (ans : List V) :
    ((askersOf c3).flatMap fun x => props.map fun q => (x, q)).map (fun y => view (slots ++ [18]) (evalCode (C77 B F) pE (inE y.1 gc gr false env top e z (.t2 (.n y.2) (.b true) :: ans)))) =
      ((askersOf c3).flatMap fun x => props.map fun q => (x, q)).map (fun y => outE y.1 gc gr false e z false (y.2 == 52) ans) := by kernel_rfl
end Go.Proofs.Ytnanfoahimccpaa.Lb
