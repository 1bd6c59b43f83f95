/- Walks by the evaluator: LB25 in 'uniseg.transitionLineBreakProperty', second half. -/
import Derived.Test.YtnanfoahimccpaaLbDef
namespace Go.Proofs.Ytnanfoahimccpaa.Lb
open Go Go.RowKit Ev
open Wb (KT typesOk eq3 eq3_eq)

theorem e_ask4 (B : Nat) (F : Value) (gc gr : Int) (env : Nat → V) (top : Bool) (e z : V) (ans : List V) :
    ((askersOf c4).flatMap fun x => props.map fun q => (x, q)).map (fun y => view (slots ++ [18]) (evalCode (C77 B F) pE (inE y.1 gc gr false env top e z (.t2 (.n y.2) (.b true) :: ans)))) =
      ((askersOf c4).flatMap fun x => props.map fun q => (x, q)).map (fun y => outE y.1 gc gr false e z false (y.2 == 52) ans) := by kernel_rfl
theorem e_ask5 (B : Nat) (F : Value) (gc gr : Int) (env : Nat → V) (top : Bool) (e z : V) (ans : List V) :
    ((askersOf c5).flatMap fun x => props.map fun q => (x, q)).map (fun y => view (slots ++ [18]) (evalCode (C77 B F) pE (inE y.1 gc gr false env top e z (.t2 (.n y.2) (.b true) :: ans)))) =
      ((askersOf c5).flatMap fun x => props.map fun q => (x, q)).map (fun y => outE y.1 gc gr false e z false (y.2 == 52) ans) := by kernel_rfl
theorem e_ask6 (B : Nat) (F : Value) (gc gr : Int) (env : Nat → V) (top : Bool) (e z : V) (ans : List V) :
    ((askersOf c6).flatMap fun x => props.map fun q => (x, q)).map (fun y => view (slots ++ [18]) (evalCode (C77 B F) pE (inE y.1 gc gr false env top e z (.t2 (.n y.2) (.b true) :: ans)))) =
      ((askersOf c6).flatMap fun x => props.map fun q => (x, q)).map (fun y => outE y.1 gc gr false e z false (y.2 == 52) ans) := by kernel_rfl
theorem e_ask7 (B : Nat) (F : Value) (gc gr : Int) (env : Nat → V) (top : Bool) (e z : V) (ans : List V) :
    ((askersOf c7).flatMap fun x => props.map fun q => (x, q)).map (fun y => view (slots ++ [18]) (evalCode (C77 B F) pE (inE y.1 gc gr false env top e z (.t2 (.n y.2) (.b true) :: ans)))) =
      ((askersOf c7).flatMap fun x => props.map fun q => (x, q)).map (fun y => outE y.1 gc gr false e z false (y.2 == 52) ans) := by kernel_rfl
theorem e_last (B : Nat) (F : Value) (gc gr : Int) (env : Nat → V) (top : Bool) (e z : V) (ans : List V) :
    askers.map (fun x => view (slots ++ [18]) (evalCode (C77 B F) pE (inE x gc gr false env top e z (.t2 (.n 0) (.b false) :: ans)))) = askers.map (fun x => outE x gc gr false e z false false ans) := by kernel_rfl
theorem e_askCp (B : Nat) (F : Value) (gc gr : Int) (env : Nat → V) (top : Bool) (e z : V) (ans : List V) :
    (askersCp.flatMap fun x => props.map fun q => (x, q)).map (fun y => view (slots ++ [18]) (evalCode (C77 B F) pE (inE y.1 gc gr true env top e z (.t2 (.n y.2) (.b true) :: ans)))) =
      (askersCp.flatMap fun x => props.map fun q => (x, q)).map (fun y => outE y.1 gc gr true e z false (y.2 == 52) ans) := by kernel_rfl
theorem e_lastCp (B : Nat) (F : Value) (gc gr : Int) (env : Nat → V) (top : Bool) (e z : V) (ans : List V) :
    askersCp.map (fun x => view (slots ++ [18]) (evalCode (C77 B F) pE (inE x gc gr true env top e z (.t2 (.n 0) (.b false) :: ans)))) = askersCp.map (fun x => outE x gc gr true e z false false ans) := by kernel_rfl
end Go.Proofs.Ytnanfoahimccpaa.Lb
